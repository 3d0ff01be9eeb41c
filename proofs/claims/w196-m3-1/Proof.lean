import JvmDerived
import JvmDerived.Pilot.@@N@@Statement
import JvmDerived.Pilot.@@N@@Code
set_option linter.unusedVariables false
set_option linter.unusedSimpArgs false
namespace Jvm.Own
open Sem ClassFile Op Lib Jvm.Stand Jvm.Free Jvm.LawKit Jvm.RoadKit Jvm.Free.Fl
/-- where a walk stands -/
def St (p : Program) (l : Launch) (e : Env) (R : Room) (s : State) (m : MethodId) (args : Array Value) (below : List Frame) (meth : Method) (c : Code) (Z : State) (B : ByteArray) (own nm : String) (ml : Nat) (ret : Option FieldType) (n0 : Nat) (T : State) (h : Heap) (k n : Nat) : Prop :=
  (p.tables.exec = Jvm.exec ∧ c.code = B ∧ Z.Warmed39 s.vm ∧ s.vm.findClass own = some m.cls ∧ c.maxLocals = ml ∧ meth.sig.returnType = ret ∧ meth.locks = false ∧ meth.name = nm) ∧ ∃ locs, Stand p l e R s m args below meth c T locs k n ∧ T.heap = h ∧ Fr n0 locs
/-- what is left to show of a walk: it ends, and what it leaves is Q -/
def Go (p : Program) (e : Env) (below : List Frame) (s : State) (n0 : Nat) (Q : Option Value → Heap → Prop) (kC kS : Nat) (t : State) : Prop :=
  ∃ s₂ o, Steps p.tables e below t s₂ ∧ s₂.status = .running ∧ Ended s₂ below o ∧ ∃ v L, o = .returned v ∧ (Q v s₂.heap ∧ Fr n0 L) ∧ FrameEnd s o s₂ L kC kS
/-- a body's contract -/
def Con (l : Launch) (Z : State) (y : MethodName) (ws : List Jvm.Cond) (B : ByteArray) (ml : Nat) (ret : Option FieldType) (rm : Room) (as : Array Value) (h0 : Heap) (n0 : Nat) (Q : Option Value → Heap → Prop) : Prop :=
  MetFree l y (head1 (Cond.code y B ml ret :: ws) rm) (fun a U => a = as ∧ Z.Warmed39 U.vm ∧ U.heap = h0) (fun _ _ _ _ _ => True) (fun _ U o U' => ∃ v L, o = .returned v ∧ (Q v U'.heap ∧ Fr n0 L) ∧ FrameEnd U o U' L rm.cells rm.slots)
theorem wd {ws : List Jvm.Cond} {a0 : Array Value} {Z : State} (hw : ∀ d ∈ ws, d.before a0 Z = true) (i : Nat) {d : Jvm.Cond} (q : ws[i]? = some d) : d.before a0 Z = true := hw d (List.mem_of_getElem? q)
section Kit
variable {p : Program} {l : Launch} {e : Env} {R : Room} {s : State} {m : MethodId} {args : Array Value} {below : List Frame} {meth : Method} {c : Code} {Z : State} {B : ByteArray} {own nm : String} {ml : Nat} {ret : Option FieldType} {n0 : Nat} {T : State} {h : Heap} {k n : Nat} {Q : Option Value → Heap → Prop} {kC kS : Nat}
theorem Go.st {t t' : State} (r : Go p e below s n0 Q kC kS t') (q : ∀ u, Steps p.tables e below t' u → Steps p.tables e below t u) : Go p e below s n0 Q kC kS t := by
  obtain ⟨s₂, o, h1, h2⟩ := r; exact ⟨s₂, o, q _ h1, h2⟩
theorem St.more {k' n' : Nat} (X : St p l e R s m args below meth c Z B own nm ml ret n0 T h k n) (hk : k ≤ k') (hn : n ≤ n') : St p l e R s m args below meth c Z B own nm ml ret n0 T h k' n' := by
  obtain ⟨q, locs, X, r⟩ := X; exact ⟨q, locs, X.more hk hn, r⟩
theorem St.z (X : St p l e R s m args below meth c Z B own nm ml ret n0 T h k n) : Z.Warmed39 s.vm := X.1.2.2.1

theorem iloadN (X : St p l e R s m args below meth c Z B own nm ml ret n0 T h k n) {pc : Nat} {Ls : Array Slot} {st : List Value} {j : Fin 4} {v : Int32} (hd : decode B pc = .ok (.iload_n j, 1)) (hl : Ls[j.val]? = some (.val (.int v)))
    (r : Go p e below s n0 Q kC kS (T.setTop (mkF m (pc + 1) Ls (.int v :: st)))) : Go p e below s n0 Q kC kS (T.setTop (mkF m pc Ls (st))) := by
  obtain ⟨⟨hx, rfl, -⟩, locs, X, -⟩ := X
  exact r.st fun u kk => XS.iloadN X.here hx rfl hd hl kk
theorem iload (X : St p l e R s m args below meth c Z B own nm ml ret n0 T h k n) {pc : Nat} {Ls : Array Slot} {st : List Value} {j : Nat} {v : Int32} (hd : decode B pc = .ok (.iload j, 2)) (hl : Ls[j]? = some (.val (.int v)))
    (r : Go p e below s n0 Q kC kS (T.setTop (mkF m (pc + 2) Ls (.int v :: st)))) : Go p e below s n0 Q kC kS (T.setTop (mkF m pc Ls (st))) := by
  obtain ⟨⟨hx, rfl, -⟩, locs, X, -⟩ := X
  exact r.st fun u kk => XS.iload X.here hx rfl hd hl kk
theorem istoreN (X : St p l e R s m args below meth c Z B own nm ml ret n0 T h k n) {pc : Nat} {Ls : Array Slot} {st : List Value} {j : Fin 4} {v : Int32} {l' : Array Slot} (hd : decode B pc = .ok (.istore_n j, 1)) (hl : storeLocals Ls j.val (.int v) = some l')
    (r : Go p e below s n0 Q kC kS (T.setTop (mkF m (pc + 1) l' (st)))) : Go p e below s n0 Q kC kS (T.setTop (mkF m pc Ls (.int v :: st))) := by
  obtain ⟨⟨hx, rfl, -⟩, locs, X, -⟩ := X
  exact r.st fun u kk => XS.istoreN X.here hx rfl hd rfl hl kk
theorem istore (X : St p l e R s m args below meth c Z B own nm ml ret n0 T h k n) {pc : Nat} {Ls : Array Slot} {st : List Value} {j : Nat} {v : Int32} {l' : Array Slot} (hd : decode B pc = .ok (.istore j, 2)) (hl : storeLocals Ls j (.int v) = some l')
    (r : Go p e below s n0 Q kC kS (T.setTop (mkF m (pc + 2) l' (st)))) : Go p e below s n0 Q kC kS (T.setTop (mkF m pc Ls (.int v :: st))) := by
  obtain ⟨⟨hx, rfl, -⟩, locs, X, -⟩ := X
  exact r.st fun u kk => XS.istore X.here hx rfl hd rfl hl kk
theorem lloadN (X : St p l e R s m args below meth c Z B own nm ml ret n0 T h k n) {pc : Nat} {Ls : Array Slot} {st : List Value} {j : Fin 4} {v : Int64} (hd : decode B pc = .ok (.lload_n j, 1)) (hl : Ls[j.val]? = some (.val (.long v)))
    (r : Go p e below s n0 Q kC kS (T.setTop (mkF m (pc + 1) Ls (.long v :: st)))) : Go p e below s n0 Q kC kS (T.setTop (mkF m pc Ls (st))) := by
  obtain ⟨⟨hx, rfl, -⟩, locs, X, -⟩ := X
  exact r.st fun u kk => XS.lloadN X.here hx rfl hd hl kk
theorem lload (X : St p l e R s m args below meth c Z B own nm ml ret n0 T h k n) {pc : Nat} {Ls : Array Slot} {st : List Value} {j : Nat} {v : Int64} (hd : decode B pc = .ok (.lload j, 2)) (hl : Ls[j]? = some (.val (.long v)))
    (r : Go p e below s n0 Q kC kS (T.setTop (mkF m (pc + 2) Ls (.long v :: st)))) : Go p e below s n0 Q kC kS (T.setTop (mkF m pc Ls (st))) := by
  obtain ⟨⟨hx, rfl, -⟩, locs, X, -⟩ := X
  exact r.st fun u kk => XS.lload X.here hx rfl hd hl kk
theorem lstoreN (X : St p l e R s m args below meth c Z B own nm ml ret n0 T h k n) {pc : Nat} {Ls : Array Slot} {st : List Value} {j : Fin 4} {v : Int64} {l' : Array Slot} (hd : decode B pc = .ok (.lstore_n j, 1)) (hl : storeLocals Ls j.val (.long v) = some l')
    (r : Go p e below s n0 Q kC kS (T.setTop (mkF m (pc + 1) l' (st)))) : Go p e below s n0 Q kC kS (T.setTop (mkF m pc Ls (.long v :: st))) := by
  obtain ⟨⟨hx, rfl, -⟩, locs, X, -⟩ := X
  exact r.st fun u kk => XS.lstoreN X.here hx rfl hd rfl hl kk
theorem lstore (X : St p l e R s m args below meth c Z B own nm ml ret n0 T h k n) {pc : Nat} {Ls : Array Slot} {st : List Value} {j : Nat} {v : Int64} {l' : Array Slot} (hd : decode B pc = .ok (.lstore j, 2)) (hl : storeLocals Ls j (.long v) = some l')
    (r : Go p e below s n0 Q kC kS (T.setTop (mkF m (pc + 2) l' (st)))) : Go p e below s n0 Q kC kS (T.setTop (mkF m pc Ls (.long v :: st))) := by
  obtain ⟨⟨hx, rfl, -⟩, locs, X, -⟩ := X
  exact r.st fun u kk => XS.lstore X.here hx rfl hd rfl hl kk
theorem dloadN (X : St p l e R s m args below meth c Z B own nm ml ret n0 T h k n) {pc : Nat} {Ls : Array Slot} {st : List Value} {j : Fin 4} {v : UInt64} (hd : decode B pc = .ok (.dload_n j, 1)) (hl : Ls[j.val]? = some (.val (.double v)))
    (r : Go p e below s n0 Q kC kS (T.setTop (mkF m (pc + 1) Ls (.double v :: st)))) : Go p e below s n0 Q kC kS (T.setTop (mkF m pc Ls (st))) := by
  obtain ⟨⟨hx, rfl, -⟩, locs, X, -⟩ := X
  exact r.st fun u kk => XS.dloadN X.here hx rfl hd hl kk
theorem dload (X : St p l e R s m args below meth c Z B own nm ml ret n0 T h k n) {pc : Nat} {Ls : Array Slot} {st : List Value} {j : Nat} {v : UInt64} (hd : decode B pc = .ok (.dload j, 2)) (hl : Ls[j]? = some (.val (.double v)))
    (r : Go p e below s n0 Q kC kS (T.setTop (mkF m (pc + 2) Ls (.double v :: st)))) : Go p e below s n0 Q kC kS (T.setTop (mkF m pc Ls (st))) := by
  obtain ⟨⟨hx, rfl, -⟩, locs, X, -⟩ := X
  exact r.st fun u kk => XS.dload X.here hx rfl hd hl kk
theorem dstoreN (X : St p l e R s m args below meth c Z B own nm ml ret n0 T h k n) {pc : Nat} {Ls : Array Slot} {st : List Value} {j : Fin 4} {v : UInt64} {l' : Array Slot} (hd : decode B pc = .ok (.dstore_n j, 1)) (hl : storeLocals Ls j.val (.double v) = some l')
    (r : Go p e below s n0 Q kC kS (T.setTop (mkF m (pc + 1) l' (st)))) : Go p e below s n0 Q kC kS (T.setTop (mkF m pc Ls (.double v :: st))) := by
  obtain ⟨⟨hx, rfl, -⟩, locs, X, -⟩ := X
  exact r.st fun u kk => XS.dstoreN X.here hx rfl hd rfl hl kk
theorem dstore (X : St p l e R s m args below meth c Z B own nm ml ret n0 T h k n) {pc : Nat} {Ls : Array Slot} {st : List Value} {j : Nat} {v : UInt64} {l' : Array Slot} (hd : decode B pc = .ok (.dstore j, 2)) (hl : storeLocals Ls j (.double v) = some l')
    (r : Go p e below s n0 Q kC kS (T.setTop (mkF m (pc + 2) l' (st)))) : Go p e below s n0 Q kC kS (T.setTop (mkF m pc Ls (.double v :: st))) := by
  obtain ⟨⟨hx, rfl, -⟩, locs, X, -⟩ := X
  exact r.st fun u kk => XS.dstore X.here hx rfl hd rfl hl kk
theorem aloadN (X : St p l e R s m args below meth c Z B own nm ml ret n0 T h k n) {pc : Nat} {Ls : Array Slot} {st : List Value} {j : Fin 4} {v : Value} (hd : decode B pc = .ok (.aload_n j, 1)) (hl : Ls[j.val]? = some (.val v)) (hv : v.isRef = true)
    (r : Go p e below s n0 Q kC kS (T.setTop (mkF m (pc + 1) Ls (v :: st)))) : Go p e below s n0 Q kC kS (T.setTop (mkF m pc Ls (st))) := by
  obtain ⟨⟨hx, rfl, -⟩, locs, X, -⟩ := X
  exact r.st fun u kk => XS.aloadN X.here hx rfl hd hl hv kk
theorem aload (X : St p l e R s m args below meth c Z B own nm ml ret n0 T h k n) {pc : Nat} {Ls : Array Slot} {st : List Value} {j : Nat} {v : Value} (hd : decode B pc = .ok (.aload j, 2)) (hl : Ls[j]? = some (.val v)) (hv : v.isRef = true)
    (r : Go p e below s n0 Q kC kS (T.setTop (mkF m (pc + 2) Ls (v :: st)))) : Go p e below s n0 Q kC kS (T.setTop (mkF m pc Ls (st))) := by
  obtain ⟨⟨hx, rfl, -⟩, locs, X, -⟩ := X
  exact r.st fun u kk => XS.aload X.here hx rfl hd hl hv kk
theorem astoreN (X : St p l e R s m args below meth c Z B own nm ml ret n0 T h k n) {pc : Nat} {Ls : Array Slot} {st : List Value} {j : Fin 4} {v : Value} {l' : Array Slot} (hd : decode B pc = .ok (.astore_n j, 1)) (hv : v.isRef = true) (hl : storeLocals Ls j.val v = some l')
    (r : Go p e below s n0 Q kC kS (T.setTop (mkF m (pc + 1) l' (st)))) : Go p e below s n0 Q kC kS (T.setTop (mkF m pc Ls (v :: st))) := by
  obtain ⟨⟨hx, rfl, -⟩, locs, X, -⟩ := X
  exact r.st fun u kk => XS.astoreN X.here hx rfl hd rfl hv hl kk
theorem astore (X : St p l e R s m args below meth c Z B own nm ml ret n0 T h k n) {pc : Nat} {Ls : Array Slot} {st : List Value} {j : Nat} {v : Value} {l' : Array Slot} (hd : decode B pc = .ok (.astore j, 2)) (hv : v.isRef = true) (hl : storeLocals Ls j v = some l')
    (r : Go p e below s n0 Q kC kS (T.setTop (mkF m (pc + 2) l' (st)))) : Go p e below s n0 Q kC kS (T.setTop (mkF m pc Ls (v :: st))) := by
  obtain ⟨⟨hx, rfl, -⟩, locs, X, -⟩ := X
  exact r.st fun u kk => XS.astore X.here hx rfl hd rfl hv hl kk
theorem iconst (X : St p l e R s m args below meth c Z B own nm ml ret n0 T h k n) {pc : Nat} {Ls : Array Slot} {st : List Value} {i : Int} (v : Int32) (hd : decode B pc = .ok (.iconst i, 1)) (hv : Int32.ofInt i = v)
    (r : Go p e below s n0 Q kC kS (T.setTop (mkF m (pc + 1) Ls (.int v :: st)))) : Go p e below s n0 Q kC kS (T.setTop (mkF m pc Ls (st))) := by
  obtain ⟨⟨hx, rfl, -⟩, locs, X, -⟩ := X
  subst hv
  exact r.st fun u kk => XS.iconst X.here hx rfl hd kk
theorem bipush (X : St p l e R s m args below meth c Z B own nm ml ret n0 T h k n) {pc : Nat} {Ls : Array Slot} {st : List Value} {i : Int} (v : Int32) (hd : decode B pc = .ok (.bipush i, 2)) (hv : (Int8.ofInt i).toInt32 = v)
    (r : Go p e below s n0 Q kC kS (T.setTop (mkF m (pc + 2) Ls (.int v :: st)))) : Go p e below s n0 Q kC kS (T.setTop (mkF m pc Ls (st))) := by
  obtain ⟨⟨hx, rfl, -⟩, locs, X, -⟩ := X
  subst hv
  exact r.st fun u kk => XS.bipush X.here hx rfl hd kk
theorem sipush (X : St p l e R s m args below meth c Z B own nm ml ret n0 T h k n) {pc : Nat} {Ls : Array Slot} {st : List Value} {i : Int} (v : Int32) (hd : decode B pc = .ok (.sipush i, 3)) (hv : (Int16.ofInt i).toInt32 = v)
    (r : Go p e below s n0 Q kC kS (T.setTop (mkF m (pc + 3) Ls (.int v :: st)))) : Go p e below s n0 Q kC kS (T.setTop (mkF m pc Ls (st))) := by
  obtain ⟨⟨hx, rfl, -⟩, locs, X, -⟩ := X
  subst hv
  exact r.st fun u kk => XS.sipush X.here hx rfl hd kk
theorem lconst (X : St p l e R s m args below meth c Z B own nm ml ret n0 T h k n) {pc : Nat} {Ls : Array Slot} {st : List Value} {i : Fin 2} (v : Int64) (hd : decode B pc = .ok (.lconst i, 1)) (hv : Int64.ofNat i = v)
    (r : Go p e below s n0 Q kC kS (T.setTop (mkF m (pc + 1) Ls (.long v :: st)))) : Go p e below s n0 Q kC kS (T.setTop (mkF m pc Ls (st))) := by
  obtain ⟨⟨hx, rfl, -⟩, locs, X, -⟩ := X
  subst hv
  exact r.st fun u kk => XS.lconst X.here hx rfl hd kk
theorem dconst0 (X : St p l e R s m args below meth c Z B own nm ml ret n0 T h k n) {pc : Nat} {Ls : Array Slot} {st : List Value}  (hd : decode B pc = .ok (.dconst 0, 1)) 
    (r : Go p e below s n0 Q kC kS (T.setTop (mkF m (pc + 1) Ls (.double 0 :: st)))) : Go p e below s n0 Q kC kS (T.setTop (mkF m pc Ls (st))) := by
  obtain ⟨⟨hx, rfl, -⟩, locs, X, -⟩ := X
  exact r.st fun u kk => XS.dconst0 X.here hx rfl hd rfl kk
theorem dconst1 (X : St p l e R s m args below meth c Z B own nm ml ret n0 T h k n) {pc : Nat} {Ls : Array Slot} {st : List Value}  (hd : decode B pc = .ok (.dconst 1, 1)) 
    (r : Go p e below s n0 Q kC kS (T.setTop (mkF m (pc + 1) Ls (.double 4607182418800017408 :: st)))) : Go p e below s n0 Q kC kS (T.setTop (mkF m pc Ls (st))) := by
  obtain ⟨⟨hx, rfl, -⟩, locs, X, -⟩ := X
  exact r.st fun u kk => XS.dconst1 X.here hx rfl hd rfl kk
theorem aconstNull (X : St p l e R s m args below meth c Z B own nm ml ret n0 T h k n) {pc : Nat} {Ls : Array Slot} {st : List Value}  (hd : decode B pc = .ok (.aconst_null, 1)) 
    (r : Go p e below s n0 Q kC kS (T.setTop (mkF m (pc + 1) Ls (.null :: st)))) : Go p e below s n0 Q kC kS (T.setTop (mkF m pc Ls (st))) := by
  obtain ⟨⟨hx, rfl, -⟩, locs, X, -⟩ := X
  exact r.st fun u kk => XS.aconstNull X.here hx rfl hd kk
theorem iadd (X : St p l e R s m args below meth c Z B own nm ml ret n0 T h k n) {pc : Nat} {Ls : Array Slot} {st : List Value} {x y : Int32} (hd : decode B pc = .ok (.iadd, 1)) 
    (r : Go p e below s n0 Q kC kS (T.setTop (mkF m (pc + 1) Ls (.int (x + y) :: st)))) : Go p e below s n0 Q kC kS (T.setTop (mkF m pc Ls (.int y :: .int x :: st))) := by
  obtain ⟨⟨hx, rfl, -⟩, locs, X, -⟩ := X
  exact r.st fun u kk => XS.iadd X.here hx rfl hd rfl kk
theorem isub (X : St p l e R s m args below meth c Z B own nm ml ret n0 T h k n) {pc : Nat} {Ls : Array Slot} {st : List Value} {x y : Int32} (hd : decode B pc = .ok (.isub, 1)) 
    (r : Go p e below s n0 Q kC kS (T.setTop (mkF m (pc + 1) Ls (.int (x - y) :: st)))) : Go p e below s n0 Q kC kS (T.setTop (mkF m pc Ls (.int y :: .int x :: st))) := by
  obtain ⟨⟨hx, rfl, -⟩, locs, X, -⟩ := X
  exact r.st fun u kk => XS.isub X.here hx rfl hd rfl kk
theorem imul (X : St p l e R s m args below meth c Z B own nm ml ret n0 T h k n) {pc : Nat} {Ls : Array Slot} {st : List Value} {x y : Int32} (hd : decode B pc = .ok (.imul, 1)) 
    (r : Go p e below s n0 Q kC kS (T.setTop (mkF m (pc + 1) Ls (.int (x * y) :: st)))) : Go p e below s n0 Q kC kS (T.setTop (mkF m pc Ls (.int y :: .int x :: st))) := by
  obtain ⟨⟨hx, rfl, -⟩, locs, X, -⟩ := X
  exact r.st fun u kk => XS.imul X.here hx rfl hd rfl kk
theorem iand (X : St p l e R s m args below meth c Z B own nm ml ret n0 T h k n) {pc : Nat} {Ls : Array Slot} {st : List Value} {x y : Int32} (hd : decode B pc = .ok (.iand, 1)) 
    (r : Go p e below s n0 Q kC kS (T.setTop (mkF m (pc + 1) Ls (.int (x &&& y) :: st)))) : Go p e below s n0 Q kC kS (T.setTop (mkF m pc Ls (.int y :: .int x :: st))) := by
  obtain ⟨⟨hx, rfl, -⟩, locs, X, -⟩ := X
  exact r.st fun u kk => XS.iand X.here hx rfl hd rfl kk
theorem ior (X : St p l e R s m args below meth c Z B own nm ml ret n0 T h k n) {pc : Nat} {Ls : Array Slot} {st : List Value} {x y : Int32} (hd : decode B pc = .ok (.ior, 1)) 
    (r : Go p e below s n0 Q kC kS (T.setTop (mkF m (pc + 1) Ls (.int (x ||| y) :: st)))) : Go p e below s n0 Q kC kS (T.setTop (mkF m pc Ls (.int y :: .int x :: st))) := by
  obtain ⟨⟨hx, rfl, -⟩, locs, X, -⟩ := X
  exact r.st fun u kk => Jvm.Free.XT.ior X.here hx rfl hd rfl kk
theorem ixor (X : St p l e R s m args below meth c Z B own nm ml ret n0 T h k n) {pc : Nat} {Ls : Array Slot} {st : List Value} {x y : Int32} (hd : decode B pc = .ok (.ixor, 1)) 
    (r : Go p e below s n0 Q kC kS (T.setTop (mkF m (pc + 1) Ls (.int (x ^^^ y) :: st)))) : Go p e below s n0 Q kC kS (T.setTop (mkF m pc Ls (.int y :: .int x :: st))) := by
  obtain ⟨⟨hx, rfl, -⟩, locs, X, -⟩ := X
  exact r.st fun u kk => Jvm.Free.XT.ixor X.here hx rfl hd rfl kk
theorem ishl (X : St p l e R s m args below meth c Z B own nm ml ret n0 T h k n) {pc : Nat} {Ls : Array Slot} {st : List Value} {x y : Int32} (hd : decode B pc = .ok (.ishl, 1)) 
    (r : Go p e below s n0 Q kC kS (T.setTop (mkF m (pc + 1) Ls (.int (x <<< (y &&& 31)) :: st)))) : Go p e below s n0 Q kC kS (T.setTop (mkF m pc Ls (.int y :: .int x :: st))) := by
  obtain ⟨⟨hx, rfl, -⟩, locs, X, -⟩ := X
  exact r.st fun u kk => Jvm.Free.XT.ishl X.here hx rfl hd rfl kk
theorem ishr (X : St p l e R s m args below meth c Z B own nm ml ret n0 T h k n) {pc : Nat} {Ls : Array Slot} {st : List Value} {x y : Int32} (hd : decode B pc = .ok (.ishr, 1)) 
    (r : Go p e below s n0 Q kC kS (T.setTop (mkF m (pc + 1) Ls (.int (x >>> (y &&& 31)) :: st)))) : Go p e below s n0 Q kC kS (T.setTop (mkF m pc Ls (.int y :: .int x :: st))) := by
  obtain ⟨⟨hx, rfl, -⟩, locs, X, -⟩ := X
  exact r.st fun u kk => Jvm.Free.XT.ishr X.here hx rfl hd rfl kk
theorem iushr (X : St p l e R s m args below meth c Z B own nm ml ret n0 T h k n) {pc : Nat} {Ls : Array Slot} {st : List Value} {x y : Int32} (hd : decode B pc = .ok (.iushr, 1)) 
    (r : Go p e below s n0 Q kC kS (T.setTop (mkF m (pc + 1) Ls (.int (Jvm.Free.XT.ushr x y) :: st)))) : Go p e below s n0 Q kC kS (T.setTop (mkF m pc Ls (.int y :: .int x :: st))) := by
  obtain ⟨⟨hx, rfl, -⟩, locs, X, -⟩ := X
  exact r.st fun u kk => Jvm.Free.XT.iushr X.here hx rfl hd rfl kk
theorem irem (X : St p l e R s m args below meth c Z B own nm ml ret n0 T h k n) {pc : Nat} {Ls : Array Slot} {st : List Value} {x y : Int32} (hd : decode B pc = .ok (.irem, 1)) (hy : y ≠ 0)
    (r : Go p e below s n0 Q kC kS (T.setTop (mkF m (pc + 1) Ls (.int (x % y) :: st)))) : Go p e below s n0 Q kC kS (T.setTop (mkF m pc Ls (.int y :: .int x :: st))) := by
  obtain ⟨⟨hx, rfl, -⟩, locs, X, -⟩ := X
  exact r.st fun u kk => iremM X hx rfl hd rfl hy kk
theorem ladd (X : St p l e R s m args below meth c Z B own nm ml ret n0 T h k n) {pc : Nat} {Ls : Array Slot} {st : List Value} {x y : Int64} (hd : decode B pc = .ok (.ladd, 1)) 
    (r : Go p e below s n0 Q kC kS (T.setTop (mkF m (pc + 1) Ls (.long (x + y) :: st)))) : Go p e below s n0 Q kC kS (T.setTop (mkF m pc Ls (.long y :: .long x :: st))) := by
  obtain ⟨⟨hx, rfl, -⟩, locs, X, -⟩ := X
  exact r.st fun u kk => Jvm.Free.XT.ladd X.here hx rfl hd rfl kk
theorem lsub (X : St p l e R s m args below meth c Z B own nm ml ret n0 T h k n) {pc : Nat} {Ls : Array Slot} {st : List Value} {x y : Int64} (hd : decode B pc = .ok (.lsub, 1)) 
    (r : Go p e below s n0 Q kC kS (T.setTop (mkF m (pc + 1) Ls (.long (x - y) :: st)))) : Go p e below s n0 Q kC kS (T.setTop (mkF m pc Ls (.long y :: .long x :: st))) := by
  obtain ⟨⟨hx, rfl, -⟩, locs, X, -⟩ := X
  exact r.st fun u kk => Jvm.Free.XT.lsub X.here hx rfl hd rfl kk
theorem lmul (X : St p l e R s m args below meth c Z B own nm ml ret n0 T h k n) {pc : Nat} {Ls : Array Slot} {st : List Value} {x y : Int64} (hd : decode B pc = .ok (.lmul, 1)) 
    (r : Go p e below s n0 Q kC kS (T.setTop (mkF m (pc + 1) Ls (.long (x * y) :: st)))) : Go p e below s n0 Q kC kS (T.setTop (mkF m pc Ls (.long y :: .long x :: st))) := by
  obtain ⟨⟨hx, rfl, -⟩, locs, X, -⟩ := X
  exact r.st fun u kk => Jvm.Free.XT.lmul X.here hx rfl hd rfl kk
theorem land (X : St p l e R s m args below meth c Z B own nm ml ret n0 T h k n) {pc : Nat} {Ls : Array Slot} {st : List Value} {x y : Int64} (hd : decode B pc = .ok (.land, 1)) 
    (r : Go p e below s n0 Q kC kS (T.setTop (mkF m (pc + 1) Ls (.long (x &&& y) :: st)))) : Go p e below s n0 Q kC kS (T.setTop (mkF m pc Ls (.long y :: .long x :: st))) := by
  obtain ⟨⟨hx, rfl, -⟩, locs, X, -⟩ := X
  exact r.st fun u kk => Jvm.Free.XT.land X.here hx rfl hd rfl kk
theorem lrem (X : St p l e R s m args below meth c Z B own nm ml ret n0 T h k n) {pc : Nat} {Ls : Array Slot} {st : List Value} {x y : Int64} (hd : decode B pc = .ok (.lrem, 1)) (hy : y ≠ 0)
    (r : Go p e below s n0 Q kC kS (T.setTop (mkF m (pc + 1) Ls (.long (x - (x / y) * y) :: st)))) : Go p e below s n0 Q kC kS (T.setTop (mkF m pc Ls (.long y :: .long x :: st))) := by
  obtain ⟨⟨hx, rfl, -⟩, locs, X, -⟩ := X
  exact r.st fun u kk => Jvm.Free.XT.lrem X.here hx rfl hd rfl hy kk
theorem lneg (X : St p l e R s m args below meth c Z B own nm ml ret n0 T h k n) {pc : Nat} {Ls : Array Slot} {st : List Value} {x : Int64} (hd : decode B pc = .ok (.lneg, 1)) 
    (r : Go p e below s n0 Q kC kS (T.setTop (mkF m (pc + 1) Ls (.long (-x) :: st)))) : Go p e below s n0 Q kC kS (T.setTop (mkF m pc Ls (.long x :: st))) := by
  obtain ⟨⟨hx, rfl, -⟩, locs, X, -⟩ := X
  exact r.st fun u kk => Jvm.Free.XT.lneg X.here hx rfl hd rfl kk
theorem i2l (X : St p l e R s m args below meth c Z B own nm ml ret n0 T h k n) {pc : Nat} {Ls : Array Slot} {st : List Value} {x : Int32} (hd : decode B pc = .ok (.i2l, 1)) 
    (r : Go p e below s n0 Q kC kS (T.setTop (mkF m (pc + 1) Ls (.long (x.toInt64) :: st)))) : Go p e below s n0 Q kC kS (T.setTop (mkF m pc Ls (.int x :: st))) := by
  obtain ⟨⟨hx, rfl, -⟩, locs, X, -⟩ := X
  exact r.st fun u kk => Jvm.Free.XT.i2l X.here hx rfl hd rfl kk
theorem l2i (X : St p l e R s m args below meth c Z B own nm ml ret n0 T h k n) {pc : Nat} {Ls : Array Slot} {st : List Value} {x : Int64} (hd : decode B pc = .ok (.l2i, 1)) 
    (r : Go p e below s n0 Q kC kS (T.setTop (mkF m (pc + 1) Ls (.int (x.toInt32) :: st)))) : Go p e below s n0 Q kC kS (T.setTop (mkF m pc Ls (.long x :: st))) := by
  obtain ⟨⟨hx, rfl, -⟩, locs, X, -⟩ := X
  exact r.st fun u kk => Jvm.Free.XT.l2i X.here hx rfl hd rfl kk
theorem i2s (X : St p l e R s m args below meth c Z B own nm ml ret n0 T h k n) {pc : Nat} {Ls : Array Slot} {st : List Value} {x : Int32} (hd : decode B pc = .ok (.i2s, 1)) 
    (r : Go p e below s n0 Q kC kS (T.setTop (mkF m (pc + 1) Ls (.int (x.toInt16.toInt32) :: st)))) : Go p e below s n0 Q kC kS (T.setTop (mkF m pc Ls (.int x :: st))) := by
  obtain ⟨⟨hx, rfl, -⟩, locs, X, -⟩ := X
  exact r.st fun u kk => Jvm.Free.XT.i2s X.here hx rfl hd rfl kk
theorem i2c (X : St p l e R s m args below meth c Z B own nm ml ret n0 T h k n) {pc : Nat} {Ls : Array Slot} {st : List Value} {x : Int32} (hd : decode B pc = .ok (.i2c, 1)) 
    (r : Go p e below s n0 Q kC kS (T.setTop (mkF m (pc + 1) Ls (.int (x.toUInt32.toUInt16.toUInt32.toInt32) :: st)))) : Go p e below s n0 Q kC kS (T.setTop (mkF m pc Ls (.int x :: st))) := by
  obtain ⟨⟨hx, rfl, -⟩, locs, X, -⟩ := X
  exact r.st fun u kk => Jvm.Free.XT.i2c X.here hx rfl hd rfl kk
theorem lshr (X : St p l e R s m args below meth c Z B own nm ml ret n0 T h k n) {pc : Nat} {Ls : Array Slot} {st : List Value} {x : Int64} {y : Int32} (hd : decode B pc = .ok (.lshr, 1)) 
    (r : Go p e below s n0 Q kC kS (T.setTop (mkF m (pc + 1) Ls (.long (x >>> (y.toInt64 &&& 63)) :: st)))) : Go p e below s n0 Q kC kS (T.setTop (mkF m pc Ls (.int y :: .long x :: st))) := by
  obtain ⟨⟨hx, rfl, -⟩, locs, X, -⟩ := X
  exact r.st fun u kk => Jvm.Free.XT.lshr X.here hx rfl hd rfl kk
theorem lshl (X : St p l e R s m args below meth c Z B own nm ml ret n0 T h k n) {pc : Nat} {Ls : Array Slot} {st : List Value} {x : Int64} {y : Int32} (hd : decode B pc = .ok (.lshl, 1)) 
    (r : Go p e below s n0 Q kC kS (T.setTop (mkF m (pc + 1) Ls (.long (x <<< (y.toInt64 &&& 63)) :: st)))) : Go p e below s n0 Q kC kS (T.setTop (mkF m pc Ls (.int y :: .long x :: st))) := by
  obtain ⟨⟨hx, rfl, -⟩, locs, X, -⟩ := X
  exact r.st fun u kk => Jvm.Free.XT.lshl X.here hx rfl hd rfl kk
theorem i2d (X : St p l e R s m args below meth c Z B own nm ml ret n0 T h k n) {pc : Nat} {Ls : Array Slot} {st : List Value} {x : Int32} {v : UInt64} (hd : decode B pc = .ok (.i2d, 1)) (hv : FP.i2d x = v)
    (r : Go p e below s n0 Q kC kS (T.setTop (mkF m (pc + 1) Ls (.double v :: st)))) : Go p e below s n0 Q kC kS (T.setTop (mkF m pc Ls (.int x :: st))) := by
  obtain ⟨⟨hx, rfl, -⟩, locs, X, -⟩ := X
  exact r.st fun u kk => XS.i2dS X.here hx rfl hd rfl hv kk
theorem l2d (X : St p l e R s m args below meth c Z B own nm ml ret n0 T h k n) {pc : Nat} {Ls : Array Slot} {st : List Value} {x : Int64} {v : UInt64} (hd : decode B pc = .ok (.l2d, 1)) (hv : FP.l2d x = v)
    (r : Go p e below s n0 Q kC kS (T.setTop (mkF m (pc + 1) Ls (.double v :: st)))) : Go p e below s n0 Q kC kS (T.setTop (mkF m pc Ls (.long x :: st))) := by
  obtain ⟨⟨hx, rfl, -⟩, locs, X, -⟩ := X
  exact r.st fun u kk => XS.l2dS X.here hx rfl hd rfl hv kk
theorem dneg (X : St p l e R s m args below meth c Z B own nm ml ret n0 T h k n) {pc : Nat} {Ls : Array Slot} {st : List Value} {x v : UInt64} (hd : decode B pc = .ok (.dneg, 1)) (hv : FP.dneg x = v)
    (r : Go p e below s n0 Q kC kS (T.setTop (mkF m (pc + 1) Ls (.double v :: st)))) : Go p e below s n0 Q kC kS (T.setTop (mkF m pc Ls (.double x :: st))) := by
  obtain ⟨⟨hx, rfl, -⟩, locs, X, -⟩ := X
  exact r.st fun u kk => XS.dnegS X.here hx rfl hd rfl hv kk
theorem dadd (X : St p l e R s m args below meth c Z B own nm ml ret n0 T h k n) {pc : Nat} {Ls : Array Slot} {st : List Value} {x y v : UInt64} (hd : decode B pc = .ok (.dadd, 1)) (hv : FP.dadd x y = v) (hn : NoNaN64 v)
    (r : Go p e below s n0 Q kC kS (T.setTop (mkF m (pc + 1) Ls (.double v :: st)))) : Go p e below s n0 Q kC kS (T.setTop (mkF m pc Ls (.double y :: .double x :: st))) := by
  obtain ⟨⟨hx, rfl, -⟩, locs, X, -⟩ := X
  exact r.st fun u kk => XS.daddS X.here hx rfl hd rfl (hv.symm ▸ hn) hv kk
theorem dsub (X : St p l e R s m args below meth c Z B own nm ml ret n0 T h k n) {pc : Nat} {Ls : Array Slot} {st : List Value} {x y v : UInt64} (hd : decode B pc = .ok (.dsub, 1)) (hv : FP.dsub x y = v) (hn : NoNaN64 v)
    (r : Go p e below s n0 Q kC kS (T.setTop (mkF m (pc + 1) Ls (.double v :: st)))) : Go p e below s n0 Q kC kS (T.setTop (mkF m pc Ls (.double y :: .double x :: st))) := by
  obtain ⟨⟨hx, rfl, -⟩, locs, X, -⟩ := X
  exact r.st fun u kk => XS.dsubS X.here hx rfl hd rfl (hv.symm ▸ hn) hv kk
theorem dmul (X : St p l e R s m args below meth c Z B own nm ml ret n0 T h k n) {pc : Nat} {Ls : Array Slot} {st : List Value} {x y v : UInt64} (hd : decode B pc = .ok (.dmul, 1)) (hv : FP.dmul x y = v) (hn : NoNaN64 v)
    (r : Go p e below s n0 Q kC kS (T.setTop (mkF m (pc + 1) Ls (.double v :: st)))) : Go p e below s n0 Q kC kS (T.setTop (mkF m pc Ls (.double y :: .double x :: st))) := by
  obtain ⟨⟨hx, rfl, -⟩, locs, X, -⟩ := X
  exact r.st fun u kk => XS.dmulS X.here hx rfl hd rfl (hv.symm ▸ hn) hv kk
theorem ddiv (X : St p l e R s m args below meth c Z B own nm ml ret n0 T h k n) {pc : Nat} {Ls : Array Slot} {st : List Value} {x y v : UInt64} (hd : decode B pc = .ok (.ddiv, 1)) (hv : FP.ddiv x y = v) (hn : NoNaN64 v)
    (r : Go p e below s n0 Q kC kS (T.setTop (mkF m (pc + 1) Ls (.double v :: st)))) : Go p e below s n0 Q kC kS (T.setTop (mkF m pc Ls (.double y :: .double x :: st))) := by
  obtain ⟨⟨hx, rfl, -⟩, locs, X, -⟩ := X
  exact r.st fun u kk => XS.ddivS X.here hx rfl hd rfl (hv.symm ▸ hn) hv kk
theorem dup (X : St p l e R s m args below meth c Z B own nm ml ret n0 T h k n) {pc : Nat} {Ls : Array Slot} {st : List Value} {x : Value} (hd : decode B pc = .ok (.dup, 1)) (hc : x.category = 1)
    (r : Go p e below s n0 Q kC kS (T.setTop (mkF m (pc + 1) Ls (x :: x :: st)))) : Go p e below s n0 Q kC kS (T.setTop (mkF m pc Ls (x :: st))) := by
  obtain ⟨⟨hx, rfl, -⟩, locs, X, -⟩ := X
  exact r.st fun u kk => XS.dup X.here hx rfl hd rfl hc kk
theorem pop (X : St p l e R s m args below meth c Z B own nm ml ret n0 T h k n) {pc : Nat} {Ls : Array Slot} {st : List Value} {x : Value} (hd : decode B pc = .ok (.pop, 1)) (hc : x.category = 1)
    (r : Go p e below s n0 Q kC kS (T.setTop (mkF m (pc + 1) Ls (st)))) : Go p e below s n0 Q kC kS (T.setTop (mkF m pc Ls (x :: st))) := by
  obtain ⟨⟨hx, rfl, -⟩, locs, X, -⟩ := X
  exact r.st fun u kk => Jvm.Free.XT.pop X.here hx rfl hd rfl hc kk
theorem iinc (X : St p l e R s m args below meth c Z B own nm ml ret n0 T h k n) {pc : Nat} {Ls : Array Slot} {st : List Value} {j : Nat} {cst : Int} {x : Int32} {l' : Array Slot} (hd : decode B pc = .ok (.iinc j cst, 3)) (hl : Ls[j]? = some (.val (.int x))) (hl' : storeLocals Ls j (.int (x + Int32.ofInt cst)) = some l')
    (r : Go p e below s n0 Q kC kS (T.setTop (mkF m (pc + 3) l' (st)))) : Go p e below s n0 Q kC kS (T.setTop (mkF m pc Ls (st))) := by
  obtain ⟨⟨hx, rfl, -⟩, locs, X, -⟩ := X
  exact r.st fun u kk => XS.iinc X.here hx rfl hd hl hl' kk
theorem goto_ (X : St p l e R s m args below meth c Z B own nm ml ret n0 T h k n) {pc pc' : Nat} {Ls : Array Slot} {st : List Value} {o : Int} (hd : decode B pc = .ok (.goto o, 3)) (hp : (decide (0 ≤ (pc : Int) + o) && decide (((pc : Int) + o).toNat = pc')) = true)
    (r : Go p e below s n0 Q kC kS (T.setTop (mkF m pc' Ls st))) : Go p e below s n0 Q kC kS (T.setTop (mkF m pc Ls st)) := by
  obtain ⟨⟨hx, rfl, -⟩, locs, X, -⟩ := X
  simp only [Bool.and_eq_true, decide_eq_true_eq] at hp
  exact r.st fun u kk => XS.goto X.here hx rfl rfl hd hp.1 hp.2 kk
/-- what a comparison asks, of whole numbers -/
def cmpI : ClassFile.Cond → Int → Int → Prop
  | .eq, a, b => a = b
  | .ne, a, b => ¬ (a = b)
  | .lt, a, b => a < b
  | .ge, a, b => b ≤ a
  | .gt, a, b => b < a
  | .le, a, b => a ≤ b
theorem holds_I (cd : ClassFile.Cond) (x y : Int32) : if_icmp.holds cd x y = true ↔ cmpI cd x.toInt y.toInt := by
  cases cd <;> simp [if_icmp.holds, cmpI, Int32.lt_iff_toInt_lt, Int32.le_iff_toInt_le, ← Int32.toInt_inj]
theorem holds_0 (cd : ClassFile.Cond) (x : Int32) : ifCond.holds cd x = true ↔ cmpI cd x.toInt 0 := by
  rw [if0]; exact holds_I cd x 0
theorem iff_ (X : St p l e R s m args below meth c Z B own nm ml ret n0 T h k n) {pc pc' : Nat} {Ls : Array Slot} {st : List Value} {cd : ClassFile.Cond} {o : Int} {x : Int32} (hd : decode B pc = .ok (.ifCond cd o, 3)) (hp : (decide (0 ≤ (pc : Int) + o) && decide (((pc : Int) + o).toNat = pc')) = true)
    (r1 : cmpI cd x.toInt 0 → Go p e below s n0 Q kC kS (T.setTop (mkF m pc' Ls st))) (r2 : ¬ cmpI cd x.toInt 0 → Go p e below s n0 Q kC kS (T.setTop (mkF m (pc + 3) Ls st))) : Go p e below s n0 Q kC kS (T.setTop (mkF m pc Ls (.int x :: st))) := by
  obtain ⟨⟨hx, rfl, -⟩, locs, X, -⟩ := X
  simp only [Bool.and_eq_true, decide_eq_true_eq] at hp
  by_cases q : ifCond.holds cd x = true
  · exact (r1 ((holds_0 cd x).mp q)).st fun u kk => XS.ifYes X.here hx rfl rfl hd rfl q hp.1 hp.2 kk
  · exact (r2 fun z => q ((holds_0 cd x).mpr z)).st fun u kk => XS.ifNo X.here hx rfl hd rfl (by simpa using q) kk
theorem icmp_ (X : St p l e R s m args below meth c Z B own nm ml ret n0 T h k n) {pc pc' : Nat} {Ls : Array Slot} {st : List Value} {cd : ClassFile.Cond} {o : Int} {x y : Int32} (hd : decode B pc = .ok (.if_icmp cd o, 3)) (hp : (decide (0 ≤ (pc : Int) + o) && decide (((pc : Int) + o).toNat = pc')) = true)
    (r1 : cmpI cd x.toInt y.toInt → Go p e below s n0 Q kC kS (T.setTop (mkF m pc' Ls st))) (r2 : ¬ cmpI cd x.toInt y.toInt → Go p e below s n0 Q kC kS (T.setTop (mkF m (pc + 3) Ls st))) : Go p e below s n0 Q kC kS (T.setTop (mkF m pc Ls (.int y :: .int x :: st))) := by
  obtain ⟨⟨hx, rfl, -⟩, locs, X, -⟩ := X
  simp only [Bool.and_eq_true, decide_eq_true_eq] at hp
  by_cases q : if_icmp.holds cd x y = true
  · exact (r1 ((holds_I cd x y).mp q)).st fun u kk => XS.icmpYes X.here hx rfl rfl hd rfl q hp.1 hp.2 kk
  · exact (r2 fun z => q ((holds_I cd x y).mpr z)).st fun u kk => XS.icmpNo X.here hx rfl hd rfl (by simpa using q) kk
/-- a boolean of the walk: 1 where P, else 0 -/
abbrev bo (P : Prop) [Decidable P] : Int32 := if P then 1 else 0
theorem bo_I (P : Prop) [Decidable P] : (bo P).toInt = if P then 1 else 0 := by unfold bo; split <;> rfl
theorem bo_t {P : Prop} [Decidable P] (q : P) : (1 : Int32) = bo P := (if_pos q).symm
theorem bo_f {P : Prop} [Decidable P] (q : ¬ P) : (0 : Int32) = bo P := (if_neg q).symm
theorem bo_c {P P' : Prop} [Decidable P] [Decidable P'] (q : P ↔ P') : bo P = bo P' := by unfold bo; by_cases z : P <;> simp [z, q.mp, q.mpr, ← q]
theorem iff_and {A P : Prop} (h : A) : P ↔ A ∧ P := ⟨fun q => ⟨h, q⟩, fun q => q.2⟩
theorem iff_or {A P : Prop} (h : ¬ A) : P ↔ A ∨ P := ⟨Or.inr, fun q => q.resolve_left h⟩
theorem iff_l {A P P' : Prop} (h : A) : P ↔ (A ∧ P) ∨ (¬ A ∧ P') := ⟨fun q => Or.inl ⟨h, q⟩, fun q => q.elim (fun z => z.2) (fun z => absurd h z.1)⟩
theorem iff_r {A P P' : Prop} (h : ¬ A) : P ↔ (A ∧ P') ∨ (¬ A ∧ P) := ⟨fun q => Or.inr ⟨h, q⟩, fun q => q.elim (fun z => absurd z.1 h) (fun z => z.2)⟩
theorem nar_bo (P : Prop) [Decidable P] : narrow .boolean (.int (bo P)) = .int (bo P) := by unfold bo; split <;> rfl
theorem fits_bo (P : Prop) [Decidable P] : fits .boolean (.int (bo P)) = true := by unfold bo; split <;> rfl
theorem nar_z {z : Int32} (q : z &&& 1 = z) : narrow .boolean (.int z) = .int z := by show Value.int (z &&& 1) = _; rw [q]
theorem fits_z {z : Int32} (q : z &&& 1 = z) : fits .boolean (.int z) = true := by rcases and_one z with w | w <;> rw [q] at w <;> subst w <;> rfl
theorem bo0 (P : Prop) [Decidable P] : (bo P).toInt = 0 ↔ ¬ P := by rw [bo_I]; by_cases q : P <;> simp [q]
theorem ifeqB (X : St p l e R s m args below meth c Z B own nm ml ret n0 T h k n) {pc pc' : Nat} {Ls : Array Slot} {st : List Value} {o : Int} {P : Prop} [Decidable P] (hd : decode B pc = .ok (.ifCond .eq o, 3)) (hp : (decide (0 ≤ (pc : Int) + o) && decide (((pc : Int) + o).toNat = pc')) = true)
    (r1 : ¬ P → Go p e below s n0 Q kC kS (T.setTop (mkF m pc' Ls st))) (r2 : P → Go p e below s n0 Q kC kS (T.setTop (mkF m (pc + 3) Ls st))) : Go p e below s n0 Q kC kS (T.setTop (mkF m pc Ls (.int (bo P) :: st))) := by
  refine iff_ X hd hp (fun q => r1 fun z => ?_) (fun q => r2 (Classical.byContradiction fun z => q ?_))
  · rw [cmpI, bo_I, if_pos z] at q; cases q
  · rw [cmpI, bo_I, if_neg z]
theorem ifneB (X : St p l e R s m args below meth c Z B own nm ml ret n0 T h k n) {pc pc' : Nat} {Ls : Array Slot} {st : List Value} {o : Int} {P : Prop} [Decidable P] (hd : decode B pc = .ok (.ifCond .ne o, 3)) (hp : (decide (0 ≤ (pc : Int) + o) && decide (((pc : Int) + o).toNat = pc')) = true)
    (r1 : P → Go p e below s n0 Q kC kS (T.setTop (mkF m pc' Ls st))) (r2 : ¬ P → Go p e below s n0 Q kC kS (T.setTop (mkF m (pc + 3) Ls st))) : Go p e below s n0 Q kC kS (T.setTop (mkF m pc Ls (.int (bo P) :: st))) := by
  refine iff_ X hd hp (fun q => r1 (Classical.byContradiction fun z => q ?_)) (fun q => r2 fun z => q ?_)
  · rw [bo_I, if_neg z]
  · rw [cmpI, bo_I, if_pos z]; decide
theorem bo_eq (P P' : Prop) [Decidable P] [Decidable P'] : (bo P).toInt = (bo P').toInt ↔ (P ↔ P') := by
  rw [bo_I, bo_I]; by_cases a : P <;> by_cases b : P' <;> simp [a, b]
theorem icmpneB (X : St p l e R s m args below meth c Z B own nm ml ret n0 T h k n) {pc pc' : Nat} {Ls : Array Slot} {st : List Value} {o : Int} {P P' : Prop} [Decidable P] [Decidable P'] (hd : decode B pc = .ok (.if_icmp .ne o, 3)) (hp : (decide (0 ≤ (pc : Int) + o) && decide (((pc : Int) + o).toNat = pc')) = true)
    (r1 : ¬ (P ↔ P') → Go p e below s n0 Q kC kS (T.setTop (mkF m pc' Ls st))) (r2 : (P ↔ P') → Go p e below s n0 Q kC kS (T.setTop (mkF m (pc + 3) Ls st))) : Go p e below s n0 Q kC kS (T.setTop (mkF m pc Ls (.int (bo P') :: .int (bo P) :: st))) := by
  refine icmp_ X hd hp (fun q => r1 fun z => q ((bo_eq P P').mpr z)) (fun q => r2 (Classical.byContradiction fun z => q fun w => z ((bo_eq P P').mp w)))
theorem icmpeqB (X : St p l e R s m args below meth c Z B own nm ml ret n0 T h k n) {pc pc' : Nat} {Ls : Array Slot} {st : List Value} {o : Int} {P P' : Prop} [Decidable P] [Decidable P'] (hd : decode B pc = .ok (.if_icmp .eq o, 3)) (hp : (decide (0 ≤ (pc : Int) + o) && decide (((pc : Int) + o).toNat = pc')) = true)
    (r1 : (P ↔ P') → Go p e below s n0 Q kC kS (T.setTop (mkF m pc' Ls st))) (r2 : ¬ (P ↔ P') → Go p e below s n0 Q kC kS (T.setTop (mkF m (pc + 3) Ls st))) : Go p e below s n0 Q kC kS (T.setTop (mkF m pc Ls (.int (bo P') :: .int (bo P) :: st))) := by
  refine icmp_ X hd hp (fun q => r1 ((bo_eq P P').mp q)) (fun q => r2 fun z => q ((bo_eq P P').mpr z))
theorem ifnullY (X : St p l e R s m args below meth c Z B own nm ml ret n0 T h k n) {pc pc' : Nat} {Ls : Array Slot} {st : List Value} {o : Int} (hd : decode B pc = .ok (.ifnull o, 3)) (hp : (decide (0 ≤ (pc : Int) + o) && decide (((pc : Int) + o).toNat = pc')) = true)
    (r : Go p e below s n0 Q kC kS (T.setTop (mkF m pc' Ls st))) : Go p e below s n0 Q kC kS (T.setTop (mkF m pc Ls (.null :: st))) := by
  obtain ⟨⟨hx, rfl, -⟩, locs, X, -⟩ := X
  simp only [Bool.and_eq_true, decide_eq_true_eq] at hp
  exact r.st fun u kk => XS.ifnullYes X.here hx rfl rfl hd rfl hp.1 hp.2 kk
theorem ifnonnullY (X : St p l e R s m args below meth c Z B own nm ml ret n0 T h k n) {pc pc' : Nat} {Ls : Array Slot} {st : List Value} {o : Int} {b : Addr} (hd : decode B pc = .ok (.ifnonnull o, 3)) (hp : (decide (0 ≤ (pc : Int) + o) && decide (((pc : Int) + o).toNat = pc')) = true)
    (r : Go p e below s n0 Q kC kS (T.setTop (mkF m pc' Ls st))) : Go p e below s n0 Q kC kS (T.setTop (mkF m pc Ls (.ref b :: st))) := by
  obtain ⟨⟨hx, rfl, -⟩, locs, X, -⟩ := X
  simp only [Bool.and_eq_true, decide_eq_true_eq] at hp
  exact r.st fun u kk => Jvm.Free.XT.ifnonnullYes X.here hx rfl rfl hd rfl hp.1 hp.2 kk
theorem ifnullN (X : St p l e R s m args below meth c Z B own nm ml ret n0 T h k n) {pc : Nat} {Ls : Array Slot} {st : List Value} {o : Int} {b : Addr} (hd : decode B pc = .ok (.ifnull o, 3)) 
    (r : Go p e below s n0 Q kC kS (T.setTop (mkF m (pc + 3) Ls (st)))) : Go p e below s n0 Q kC kS (T.setTop (mkF m pc Ls (.ref b :: st))) := by
  obtain ⟨⟨hx, rfl, -⟩, locs, X, -⟩ := X
  exact r.st fun u kk => XS.ifnullNo X.here hx rfl hd rfl kk
theorem ifnonnullN (X : St p l e R s m args below meth c Z B own nm ml ret n0 T h k n) {pc : Nat} {Ls : Array Slot} {st : List Value} {o : Int} (hd : decode B pc = .ok (.ifnonnull o, 3)) 
    (r : Go p e below s n0 Q kC kS (T.setTop (mkF m (pc + 3) Ls (st)))) : Go p e below s n0 Q kC kS (T.setTop (mkF m pc Ls (.null :: st))) := by
  obtain ⟨⟨hx, rfl, -⟩, locs, X, -⟩ := X
  exact r.st fun u kk => Jvm.Free.XT.ifnonnullNo X.here hx rfl hd rfl kk
/-- a double's number, in units of 2^-1074 -/
def dz (x : UInt64) : Int := FP.Core.zval FP.Core.b64 (FP.Core.val64 x)
theorem nn_val {x : UInt64} (q : NoNaN64 x) : FP.Core.val64 x ≠ .nan := (FP.Core.notNaN_iff x).mp (noNaN64_no.mp q)
theorem dcmp_dz {x y : UInt64} (nx : NoNaN64 x) (ny : NoNaN64 y) : FP.dcmp x y = some (compare (dz x) (dz y)) := FP.Core.dcmp_zval (nn_val nx) (nn_val ny)
theorem cmpV_dz {x y : UInt64} (nx : NoNaN64 x) (ny : NoNaN64 y) (cd : ClassFile.Cond) (o : CmpOp) : cmpI cd (cmpValue (FP.dcmp x y) o).toInt 0 ↔ cmpI cd (dz x) (dz y) := by
  rw [dcmp_dz nx ny]
  have key : (cmpValue (some (compare (dz x) (dz y))) o).toInt = if dz x < dz y then -1 else if dz x = dz y then 0 else 1 := by
    rw [FP.Core.compare_ite]; split
    · cases o <;> rfl
    · split
      · cases o <;> rfl
      · cases o <;> rfl
  rw [key]
  split
  · cases cd <;> simp [cmpI] <;> omega
  · split
    · cases cd <;> simp [cmpI] <;> omega
    · cases cd <;> simp [cmpI] <;> omega
/-- dcmpl | dcmpg and the branch behind it, of two that are no NaN -/
theorem dcmpF (X : St p l e R s m args below meth c Z B own nm ml ret n0 T h k n) {pc pc' : Nat} {Ls : Array Slot} {st : List Value} {cd : ClassFile.Cond} {op : CmpOp} {o : Int} {x y : UInt64} (hd1 : decode B pc = .ok (.dcmp op, 1)) (hd : decode B (pc + 1) = .ok (.ifCond cd o, 3)) (hp : (decide (0 ≤ ((pc + 1 : Nat) : Int) + o) && decide ((((pc + 1 : Nat) : Int) + o).toNat = pc')) = true) (nx : NoNaN64 x) (ny : NoNaN64 y)
    (r1 : cmpI cd (dz x) (dz y) → Go p e below s n0 Q kC kS (T.setTop (mkF m pc' Ls st))) (r2 : ¬ cmpI cd (dz x) (dz y) → Go p e below s n0 Q kC kS (T.setTop (mkF m (pc + 1 + 3) Ls st))) : Go p e below s n0 Q kC kS (T.setTop (mkF m pc Ls (.double y :: .double x :: st))) := by
  have r : Go p e below s n0 Q kC kS (T.setTop (mkF m (pc + 1) Ls (.int (cmpValue (FP.dcmp x y) op) :: st))) :=
    iff_ X hd hp (fun q => r1 ((cmpV_dz nx ny cd op).mp q)) (fun q => r2 fun z => q ((cmpV_dz nx ny cd op).mpr z))
  obtain ⟨⟨hx, rfl, -⟩, locs, X, -⟩ := X
  exact r.st fun u kk => XS.dcmpS X.here hx rfl hd1 rfl rfl kk
theorem cmpL_I (x y : Int64) (cd : ClassFile.Cond) : cmpI cd (Jvm.Free.XT.cmpL x y).toInt 0 ↔ cmpI cd x.toInt y.toInt := by
  have key : (Jvm.Free.XT.cmpL x y).toInt = if y.toInt < x.toInt then 1 else if x.toInt = y.toInt then 0 else -1 := by
    simp only [Jvm.Free.XT.cmpL, Int64.lt_iff_toInt_lt, ← Int64.toInt_inj]
    split
    · rfl
    · split <;> rfl
  rw [key]
  split
  · cases cd <;> simp [cmpI] <;> omega
  · split
    · cases cd <;> simp [cmpI] <;> omega
    · cases cd <;> simp [cmpI] <;> omega
theorem lcmpF (X : St p l e R s m args below meth c Z B own nm ml ret n0 T h k n) {pc pc' : Nat} {Ls : Array Slot} {st : List Value} {cd : ClassFile.Cond} {o : Int} {x y : Int64} (hd1 : decode B pc = .ok (.lcmp, 1)) (hd : decode B (pc + 1) = .ok (.ifCond cd o, 3)) (hp : (decide (0 ≤ ((pc + 1 : Nat) : Int) + o) && decide ((((pc + 1 : Nat) : Int) + o).toNat = pc')) = true)
    (r1 : cmpI cd x.toInt y.toInt → Go p e below s n0 Q kC kS (T.setTop (mkF m pc' Ls st))) (r2 : ¬ cmpI cd x.toInt y.toInt → Go p e below s n0 Q kC kS (T.setTop (mkF m (pc + 1 + 3) Ls st))) : Go p e below s n0 Q kC kS (T.setTop (mkF m pc Ls (.long y :: .long x :: st))) := by
  have r : Go p e below s n0 Q kC kS (T.setTop (mkF m (pc + 1) Ls (.int (Jvm.Free.XT.cmpL x y) :: st))) :=
    iff_ X hd hp (fun q => r1 ((cmpL_I x y cd).mp q)) (fun q => r2 fun z => q ((cmpL_I x y cd).mpr z))
  obtain ⟨⟨hx, rfl, -⟩, locs, X, -⟩ := X
  exact r.st fun u kk => Jvm.Free.XT.lcmp X.here hx rfl hd1 rfl kk
theorem ldcI (X : St p l e R s m args below meth c Z B own nm ml ret n0 T h k n) {a0 : Array Value} {pc index : Nat} {Ls : Array Slot} {st : List Value} {v : Int32} (hd : decode B pc = .ok (.ldc index, 2)) (w : (Cond.constant own index v).before a0 Z = true)
    (r : Go p e below s n0 Q kC kS (T.setTop (mkF m (pc + 2) Ls (.int v :: st)))) : Go p e below s n0 Q kC kS (T.setTop (mkF m pc Ls st)) := by
  obtain ⟨⟨hx, rfl, hZ, hown, -⟩, locs, X, -⟩ := X
  exact r.st fun u kk => X.ldcInt (g := mkF m pc Ls st) hx hown (mvT hZ w) rfl hd u kk
theorem ldc2J (X : St p l e R s m args below meth c Z B own nm ml ret n0 T h k n) {a0 : Array Value} {pc index : Nat} {Ls : Array Slot} {st : List Value} {v : Int64} (hd : decode B pc = .ok (.ldc2_w index, 3)) (w : (Cond.constantLong own index v).before a0 Z = true)
    (r : Go p e below s n0 Q kC kS (T.setTop (mkF m (pc + 3) Ls (.long v :: st)))) : Go p e below s n0 Q kC kS (T.setTop (mkF m pc Ls st)) := by
  obtain ⟨⟨hx, rfl, hZ, hown, -⟩, locs, X, -⟩ := X
  exact r.st fun u kk => X.ldc2Long (g := mkF m pc Ls st) hx hown (mvT hZ w) rfl hd u kk
theorem ldc2D (X : St p l e R s m args below meth c Z B own nm ml ret n0 T h k n) {a0 : Array Value} {pc index : Nat} {Ls : Array Slot} {st : List Value} {v : UInt64} (hd : decode B pc = .ok (.ldc2_w index, 3)) (w : (Cond.constantDouble own index v).before a0 Z = true)
    (r : Go p e below s n0 Q kC kS (T.setTop (mkF m (pc + 3) Ls (.double v :: st)))) : Go p e below s n0 Q kC kS (T.setTop (mkF m pc Ls st)) := by
  obtain ⟨⟨hx, rfl, hZ, hown, -⟩, locs, X, -⟩ := X
  exact r.st fun u kk => X.ldc2DoubleC (g := mkF m pc Ls st) hx hown (mvT hZ w) rfl hd u kk
theorem leaveG (X : St p l e R s m args below meth c Z B own nm ml ret n0 T h k n) {v : Option Value} {t : State} (hv : meth.sig.returnType = none → v = none) (hQ : Q v h) (hk : k ≤ kC) (hn : n ≤ kS)
    (st : ∀ (locs : List Loc) (fs : List Frame), p.tables.exec = Jvm.exec → c.code = B → meth.sig.returnType = ret → Stand p l e R s m args below meth c T locs k n → (∀ (f : JFrame) (acts : List Action), f.method = m → f.locked = none → f.entered = [] → (doReturn e (T.setTop f) acts v).1 = T.setFrames fs) → Steps p.tables e below t (T.setFrames fs)) : Go p e below s n0 Q kC kS t := by
  obtain ⟨⟨hx, hby, hZ, hown, hml, hret, hlocks, hnm⟩, locs, X, eT, N⟩ := X
  obtain ⟨fs, hr, hrun, hended, hW, hsame⟩ := X.leave (v := v) hv hlocks
  refine ⟨_, _, st locs fs hx hby hret X hr, hrun, hended, _, _, rfl, ⟨?_, N⟩, ⟨_, rfl⟩, hW, hsame.mono hk hn⟩
  show Q v T.heap
  rw [eT]; exact hQ
theorem retV (X : St p l e R s m args below meth c Z B own nm ml none n0 T h k n) {pc : Nat} {Ls : Array Slot} (hd : decode B pc = .ok (.return_, 1)) (hQ : Q none h) (hk : k ≤ kC) (hn : n ≤ kS) : Go p e below s n0 Q kC kS (T.setTop (mkF m pc Ls [])) :=
  leaveG X (v := none) (fun _ => rfl) hQ hk hn fun locs fs hx hby hret X hr => X.returnOut hx hret (by rw [hby]; exact hd) hr
theorem retB (X : St p l e R s m args below meth c Z B own nm ml (some .boolean) n0 T h k n) {pc : Nat} {Ls : Array Slot} {st : List Value} {z : Int32} (hd : decode B pc = .ok (.ireturn, 1)) (hz : z &&& 1 = z) (hQ : Q (some (.int z)) h) (hk : k ≤ kC) (hn : n ≤ kS) : Go p e below s n0 Q kC kS (T.setTop (mkF m pc Ls (.int z :: st))) :=
  leaveG X (v := some (.int z)) (fun q => by rw [X.1.2.2.2.2.2.1] at q; cases q) hQ hk hn fun locs fs hx hby hret X hr => retN X hx (t := .boolean) hret (by simp) (by rw [hby]; exact hd) (by intro f acts h1 h2 h3; rw [show nar .boolean z = z from hz]; exact hr f acts h1 h2 h3)
theorem bo_and (P : Prop) [Decidable P] : bo P &&& 1 = bo P := by unfold bo; split <;> decide
theorem retO (w : Value) (t : FieldType) {i : Instr} (X : St p l e R s m args below meth c Z B own nm ml (some t) n0 T h k n) {pc : Nat} {Ls : Array Slot} {st : List Value} (hd : decode B pc = .ok (i, 1)) (hw : narrow t w = w)
    (hi : (i = .ireturn ∧ (t = .int ∨ t = .boolean ∨ t = .byte ∨ t = .char ∨ t = .short) ∧ ∃ z, w = .int z) ∨ (i = .lreturn ∧ t = .long ∧ ∃ z, w = .long z) ∨ (i = .dreturn ∧ t = .double ∧ ∃ z, w = .double z) ∨ (i = .freturn ∧ t = .float ∧ ∃ z, w = .float z) ∨ (i = .areturn ∧ t.isReference = true ∧ w.isRef = true))
    (hQ : Q (some w) h) (hk : k ≤ kC) (hn : n ≤ kS) : Go p e below s n0 Q kC kS (T.setTop (mkF m pc Ls (w :: st))) :=
  leaveG X (v := some w) (fun q => by rw [X.1.2.2.2.2.2.1] at q; cases q) hQ hk hn fun locs fs hx hby hret X hr => retOut X hx hret hw hi (by rw [hby]; exact hd) hr
theorem retI (X : St p l e R s m args below meth c Z B own nm ml (some .int) n0 T h k n) {pc : Nat} {Ls : Array Slot} {st : List Value} {z : Int32} (hd : decode B pc = .ok (.ireturn, 1)) (hQ : Q (some (.int z)) h) (hk : k ≤ kC) (hn : n ≤ kS) : Go p e below s n0 Q kC kS (T.setTop (mkF m pc Ls (.int z :: st))) :=
  retO (.int z) .int X hd rfl (Or.inl ⟨rfl, Or.inl rfl, z, rfl⟩) hQ hk hn
theorem retD (X : St p l e R s m args below meth c Z B own nm ml (some .double) n0 T h k n) {pc : Nat} {Ls : Array Slot} {st : List Value} {z : UInt64} (hd : decode B pc = .ok (.dreturn, 1)) (hQ : Q (some (.double z)) h) (hk : k ≤ kC) (hn : n ≤ kS) : Go p e below s n0 Q kC kS (T.setTop (mkF m pc Ls (.double z :: st))) :=
  retO (.double z) .double X hd rfl (Or.inr (Or.inr (Or.inl ⟨rfl, rfl, z, rfl⟩))) hQ hk hn
theorem retA {t : FieldType} (X : St p l e R s m args below meth c Z B own nm ml (some t) n0 T h k n) {pc : Nat} {Ls : Array Slot} {st : List Value} {v : Value} (hd : decode B pc = .ok (.areturn, 1)) (ht : t.isReference = true) (hv : v.isRef = true) (hw : narrow t v = v) (hQ : Q (some v) h) (hk : k ≤ kC) (hn : n ≤ kS) : Go p e below s n0 Q kC kS (T.setTop (mkF m pc Ls (v :: st))) :=
  retO v t X hd hw (Or.inr (Or.inr (Or.inr (Or.inr ⟨rfl, ht, hv⟩)))) hQ hk hn
theorem getF_ (X : St p l e R s m args below meth c Z B own nm ml ret n0 T h k n) {a0 : Array Value} {R0 O f d host : String} {index pc : Nat} {Ls : Array Slot} {st : List Value} {a : Addr} {v : Value} (hd : decode B pc = .ok (.getfield index, 3)) (w : (Cond.fieldLink own index R0 f d).before a0 Z = true ∨ (Cond.fieldLinkNest own index R0 f d host).before a0 Z = true) (via : Via Z R0 O f d) (F : Fld Z h a O f d v)
    (r : ∀ T', St p l e R s m args below meth c Z B own nm ml ret n0 T' h k n → Go p e below s n0 Q kC kS (T'.setTop (mkF m (pc + 3) Ls (v :: st)))) : Go p e below s n0 Q kC kS (T.setTop (mkF m pc Ls (.ref a :: st))) := by
  obtain ⟨⟨hx, hby, hZ, hown, q⟩, locs, X, eT, N⟩ := X
  obtain ⟨T', X', e', st'⟩ := getF X hx hZ hown w via eT F (g := mkF m pc Ls (.ref a :: st)) rfl rfl (by rw [hby]; exact hd)
  exact (r T' ⟨⟨hx, hby, hZ, hown, q⟩, locs, X', e', N⟩).st st'
theorem putF_ (X : St p l e R s m args below meth c Z B own nm ml ret n0 T h k n) {a0 : Array Value} {R0 O f d host C : String} {index kk pc : Nat} {ty : FieldType} {Ls : Array Slot} {st : List Value} {a : Addr} {v old : Value} (hd : decode B pc = .ok (.putfield index, 3)) (w : (Cond.fieldLink own index R0 f d).before a0 Z = true ∨ (Cond.fieldLinkNest own index R0 f d host).before a0 Z = true) (via : Via Z R0 O f d) (F : Fld Z h a O f d old) (E : Exa Z h a C)
    (L : (Cond.lays C O f d).before a0 Z = true ∨ ((Cond.laysFinal C O f d).before a0 Z = true ∧ own = O ∧ nm = "<init>")) (wi : (Cond.instantiable C kk).before a0 Z = true) (hty : parseFieldDescriptor d = some ty) (hv : narrow ty v = v) (hf : fits ty v = true) (ha : n0 ≤ a)
    (r : ∀ T' h', St p l e R s m args below meth c Z B own nm ml ret n0 T' h' k n → Wr h h' a (Jvm.RoadKit.slotOf Z O f d) v → Go p e below s n0 Q kC kS (T'.setTop (mkF m (pc + 3) Ls st))) : Go p e below s n0 Q kC kS (T.setTop (mkF m pc Ls (v :: .ref a :: st))) := by
  obtain ⟨⟨hx, hby, hZ, hown, q1, q2, q3, q4⟩, locs, X, eT, N⟩ := X
  obtain ⟨T', h', X', e', W', st'⟩ := putF X hx hZ hown w via eT F E (L.imp id fun ⟨z1, z2, z3⟩ => ⟨z1, z2, q4.trans z3⟩) wi hty hv hf (g := mkF m pc Ls (v :: .ref a :: st)) rfl rfl (by rw [hby]; exact hd)
  exact (r T' h' ⟨⟨hx, hby, hZ, hown, q1, q2, q3, q4⟩, _, X', e', Fr.snoc X' N ha⟩ W').st st'
theorem getS_ (X : St p l e R s m args below meth c Z B own nm ml ret n0 T h k n) {a0 : Array Value} {R0 O f d host : String} {index pc : Nat} {Ls : Array Slot} {st : List Value} {v : Value} (hd : decode B pc = .ok (.getstatic index, 3)) (w : (Cond.fieldLink own index R0 f d).before a0 Z = true ∨ (Cond.fieldLinkNest own index R0 f d host).before a0 Z = true) (via : Via Z R0 O f d) (F : Sta Z h O f d v)
    (r : ∀ T', St p l e R s m args below meth c Z B own nm ml ret n0 T' h k n → Go p e below s n0 Q kC kS (T'.setTop (mkF m (pc + 3) Ls (v :: st)))) : Go p e below s n0 Q kC kS (T.setTop (mkF m pc Ls st)) := by
  obtain ⟨⟨hx, hby, hZ, hown, q⟩, locs, X, eT, N⟩ := X
  obtain ⟨T', X', e', st'⟩ := getS2 X hx hZ hown w via eT F (g := mkF m pc Ls st) rfl (by rw [hby]; exact hd)
  exact (r T' ⟨⟨hx, hby, hZ, hown, q⟩, locs, X', e', N⟩).st st'
theorem newO_ (X : St p l e R s m args below meth c Z B own nm ml ret n0 T h k n) {a0 : Array Value} {C : String} {index cnt pc : Nat} {Ls : Array Slot} {st : List Value} (hd : decode B pc = .ok (.new index, 3)) (w : (Cond.classLink own index C).before a0 Z = true) (wi : (Cond.instantiable C cnt).before a0 Z = true) (wz : (Cond.initialized C).before a0 Z = true) (hc : k + 1 ≤ R.cells) (hl : n + cnt ≤ R.slots)
    (r : ∀ T' h' a, a = h.size → St p l e R s m args below meth c Z B own nm ml ret n0 T' h' (k + 1) (n + cnt) → Ext h h' → Exa Z h' a C → (∀ {O f d : String} {ty : FieldType}, Laid Z a0 C O f d → parseFieldDescriptor d = some ty → Fld Z h' a O f d (defaultValue ty)) → Go p e below s n0 Q kC kS (T'.setTop (mkF m (pc + 3) Ls (.ref a :: st)))) : Go p e below s n0 Q kC kS (T.setTop (mkF m pc Ls st)) := by
  obtain ⟨⟨hx, hby, hZ, hown, q⟩, locs, X, eT, N⟩ := X
  obtain ⟨T', h', X', e', E', A', D', -, st'⟩ := newO X hx hZ hown w wi wz eT (g := mkF m pc Ls st) rfl (by rw [hby]; exact hd) hc hl
  exact (r T' h' _ rfl ⟨⟨hx, hby, hZ, hown, q⟩, locs, X', e', N⟩ E' A' D').st st'
theorem initO_ (X : St p l e R s m args below meth c Z B own nm ml ret n0 T h k n) {a0 : Array Value} {idx W pc : Nat} {Ls : Array Slot} {st : List Value} {a : Addr} (hd : decode B pc = .ok (.invokespecial idx, 3)) (w1 : (Cond.methodLink own idx Lib.objectInit).before a0 Z = true) (w2 : (Cond.instanceMethod Lib.objectInit).before a0 Z = true) (w3 : (Cond.code Lib.objectInit ⟨#[0xb1]⟩ 1 none).before a0 Z = true) (hsz : Ls.size = ml)
    (hf : 1 ≤ R.frames) (hW : 2 * 0 + (st.map fun v => v.category).sum ≤ W) (hl : W + 12 ≤ R.locals)
    (r : ∀ T', St p l e R s m args below meth c Z B own nm ml ret n0 T' h k n → Go p e below s n0 Q kC kS (T'.setTop (mkF m (pc + 3) Ls st))) : Go p e below s n0 Q kC kS (T.setTop (mkF m pc Ls (.ref a :: st))) := by
  obtain ⟨⟨hx, hby, hZ, hown, hml, q⟩, locs, X, eT, N⟩ := X
  obtain ⟨T', X', e', st'⟩ := initO X hx hZ hown w1 w2 w3 eT (g := mkF m pc Ls (.ref a :: st)) rfl (by rw [hml]; exact hsz) rfl (by rw [hby]; exact hd) hf hW hl
  exact (r T' ⟨⟨hx, hby, hZ, hown, hml, q⟩, locs, X', e', N⟩).st st'

theorem newP_ (X : St p l e R s m args below meth c Z B own nm ml ret n0 T h k n) {a0 : Array Value} {aty : ArrayType} {z : Int32} {pc : Nat} {Ls : Array Slot} {st : List Value} (cap : Nat) (ty : FieldType) (dv : Value) (ad : String) (hd : decode B pc = .ok (.newarray aty, 2)) (hty : newarray.typeOf aty = ty) (hdv : defaultValue ty = dv) (had : "[" ++ ty.toString = ad) (w : (Cond.arrayClass ty).before a0 Z = true) (hz : ¬ z < 0) (hcap : z.toNatClampNeg ≤ cap) (hb : cap * 8 ≤ 536870912) (hc : k + 1 ≤ R.cells) (hl : n + cap ≤ R.slots)
    (r : ∀ T' h' a kk, a = h.size → St p l e R s m args below meth c Z B own nm ml ret n0 T' h' (k + 1) (n + cap) → Ext h h' → Arv Z h' a kk ty z [] dv → Exa Z h' a ad → Go p e below s n0 Q kC kS (T'.setTop (mkF m (pc + 2) Ls (.ref a :: st)))) : Go p e below s n0 Q kC kS (T.setTop (mkF m pc Ls (.int z :: st))) := by
  subst hty hdv
  obtain ⟨⟨hx, hby, hZ, q⟩, locs, X, eT, N⟩ := X
  obtain ⟨T', h', cA, X', e', E', A', G', st'⟩ := newPE X hx hZ w eT (g := mkF m pc Ls (.int z :: st)) rfl (by rw [hby]; exact hd) rfl hz hcap hb hc hl had
  exact (r T' h' _ cA rfl ⟨⟨hx, hby, hZ, q⟩, locs, X', e', N⟩ E' (Arv.new A' hz) G').st st'
theorem alen_ (X : St p l e R s m args below meth c Z B own nm ml ret n0 T h k n) {kk : ClassId} {ty : FieldType} {z : Int32} {vs : List Value} {dv : Value} {a : Addr} {pc : Nat} {Ls : Array Slot} {st : List Value} (hd : decode B pc = .ok (.arraylength, 1)) (A : Arv Z h a kk ty z vs dv)
    (r : Go p e below s n0 Q kC kS (T.setTop (mkF m (pc + 1) Ls (.int z :: st)))) : Go p e below s n0 Q kC kS (T.setTop (mkF m pc Ls (.ref a :: st))) := by
  obtain ⟨⟨hx, rfl, hZ, -⟩, locs, X, eT, -⟩ := X
  obtain ⟨cl, A, -, S, hz, -⟩ := A
  rw [← len_of S hz] at r
  exact r.st fun u kk => X.arraylength (g := mkF m pc Ls (.ref a :: st)) hx (by rw [eT]; exact A.1) (State.isArrayOf_alike hZ.alike A.2.1) rfl rfl hd u kk
theorem daload_ (X : St p l e R s m args below meth c Z B own nm ml ret n0 T h k n) {kk : ClassId} {z j : Int32} {vs : List Value} {dv : Value} {v : UInt64} {a : Addr} {pc : Nat} {Ls : Array Slot} {st : List Value} (hd : decode B pc = .ok (.daload, 1)) (A : Arv Z h a kk .double z vs dv) (hj : ¬ j < 0 ∧ j < z) (hv : vs.getD j.toNatClampNeg dv = .double v)
    (r : Go p e below s n0 Q kC kS (T.setTop (mkF m (pc + 1) Ls (.double v :: st)))) : Go p e below s n0 Q kC kS (T.setTop (mkF m pc Ls (.int j :: .ref a :: st))) := by
  obtain ⟨⟨hx, rfl, hZ, -⟩, locs, X, eT, -⟩ := X
  obtain ⟨cl, A, -, S, hz, H, -⟩ := A
  exact r.st fun u kk => X.daload (g := mkF m pc Ls (.int j :: .ref a :: st)) hx (by rw [eT]; exact A.1) (State.isArrayOf_alike hZ.alike A.2.1) A.2.2 (inb_of S hj) (H.at (inb_of S hj) hv) rfl rfl hd u kk
theorem iaload_ (X : St p l e R s m args below meth c Z B own nm ml ret n0 T h k n) {kk : ClassId} {z j : Int32} {vs : List Value} {dv : Value} {v : Int32} {a : Addr} {pc : Nat} {Ls : Array Slot} {st : List Value} (hd : decode B pc = .ok (.iaload, 1)) (A : Arv Z h a kk .int z vs dv) (hj : ¬ j < 0 ∧ j < z) (hv : vs.getD j.toNatClampNeg dv = .int v)
    (r : Go p e below s n0 Q kC kS (T.setTop (mkF m (pc + 1) Ls (.int v :: st)))) : Go p e below s n0 Q kC kS (T.setTop (mkF m pc Ls (.int j :: .ref a :: st))) := by
  obtain ⟨⟨hx, rfl, hZ, -⟩, locs, X, eT, -⟩ := X
  obtain ⟨cl, A, -, S, hz, H, -⟩ := A
  exact r.st fun u kk => X.iaload (g := mkF m pc Ls (.int j :: .ref a :: st)) hx (by rw [eT]; exact A.1) (State.isArrayOf_alike hZ.alike A.2.1) A.2.2 (inb_of S hj) (H.at (inb_of S hj) hv) rfl rfl hd u kk
theorem laload_ (X : St p l e R s m args below meth c Z B own nm ml ret n0 T h k n) {kk : ClassId} {z j : Int32} {vs : List Value} {dv : Value} {v : Int64} {a : Addr} {pc : Nat} {Ls : Array Slot} {st : List Value} (hd : decode B pc = .ok (.laload, 1)) (A : Arv Z h a kk .long z vs dv) (hj : ¬ j < 0 ∧ j < z) (hv : vs.getD j.toNatClampNeg dv = .long v)
    (r : Go p e below s n0 Q kC kS (T.setTop (mkF m (pc + 1) Ls (.long v :: st)))) : Go p e below s n0 Q kC kS (T.setTop (mkF m pc Ls (.int j :: .ref a :: st))) := by
  obtain ⟨⟨hx, rfl, hZ, -⟩, locs, X, eT, -⟩ := X
  obtain ⟨cl, A, -, S, hz, H, -⟩ := A
  exact r.st fun u kk => X.laload (g := mkF m pc Ls (.int j :: .ref a :: st)) hx (by rw [eT]; exact A.1) (State.isArrayOf_alike hZ.alike A.2.1) A.2.2 (inb_of S hj) (H.at (inb_of S hj) hv) rfl rfl hd u kk
theorem aaload_ (X : St p l e R s m args below meth c Z B own nm ml ret n0 T h k n) {kk : ClassId} {ty : FieldType} {z j : Int32} {vs : List Value} {dv v : Value} {a : Addr} {pc : Nat} {Ls : Array Slot} {st : List Value} (hd : decode B pc = .ok (.aaload, 1)) (A : Arv Z h a kk ty z vs dv) (hty : ty.isReference = true) (hj : ¬ j < 0 ∧ j < z) (hv : vs.getD j.toNatClampNeg dv = v)
    (r : Go p e below s n0 Q kC kS (T.setTop (mkF m (pc + 1) Ls (v :: st)))) : Go p e below s n0 Q kC kS (T.setTop (mkF m pc Ls (.int j :: .ref a :: st))) := by
  obtain ⟨⟨hx, rfl, hZ, -⟩, locs, X, eT, -⟩ := X
  obtain ⟨cl, A, -, S, hz, H, -⟩ := A
  exact r.st fun u kk => X.aaload (g := mkF m pc Ls (.int j :: .ref a :: st)) hx (by rw [eT]; exact A.1) (State.isArrayOf_alike hZ.alike A.2.1) hty A.2.2 (inb_of S hj) (H.at (inb_of S hj) hv) rfl rfl hd u kk
theorem dastore_ (X : St p l e R s m args below meth c Z B own nm ml ret n0 T h k n) {kk : ClassId} {z j : Int32} {vs : List Value} {dv : Value} {v : UInt64} {a : Addr} {pc : Nat} {Ls : Array Slot} {st : List Value} (i : Nat) (hd : decode B pc = .ok (.dastore, 1)) (A : Arv Z h a kk .double z vs dv) (hj : ¬ j < 0 ∧ j < z) (hi : j.toNatClampNeg = i) (hl : i < vs.length) (ha : n0 ≤ a)
    (r : ∀ T' h', St p l e R s m args below meth c Z B own nm ml ret n0 T' h' k n → Wr h h' a j.toNatClampNeg (.double v) → Arv Z h' a kk .double z (vs.set i (.double v)) dv → Go p e below s n0 Q kC kS (T'.setTop (mkF m (pc + 1) Ls st))) : Go p e below s n0 Q kC kS (T.setTop (mkF m pc Ls (.double v :: .int j :: .ref a :: st))) := by
  obtain ⟨⟨hx, hby, hZ, q⟩, locs, X, eT, N⟩ := X
  obtain ⟨cl, A, q1, S, hz, H, F⟩ := A
  obtain ⟨T', h', X', e', W', st'⟩ := stD X hx hZ eT A (inb_of S hj) (g := mkF m pc Ls (.double v :: .int j :: .ref a :: st)) rfl rfl (by rw [hby]; exact hd)
  exact (r T' h' ⟨⟨hx, hby, hZ, q⟩, _, X', e', Fr.snoc X' N ha⟩ W' (Arv.set A q1 S hz H F rfl W' i hi hl)).st st'
theorem iastore_ (X : St p l e R s m args below meth c Z B own nm ml ret n0 T h k n) {kk : ClassId} {z j : Int32} {vs : List Value} {dv : Value} {v : Int32} {a : Addr} {pc : Nat} {Ls : Array Slot} {st : List Value} (i : Nat) (hd : decode B pc = .ok (.iastore, 1)) (A : Arv Z h a kk .int z vs dv) (hj : ¬ j < 0 ∧ j < z) (hi : j.toNatClampNeg = i) (hl : i < vs.length) (ha : n0 ≤ a)
    (r : ∀ T' h', St p l e R s m args below meth c Z B own nm ml ret n0 T' h' k n → Wr h h' a j.toNatClampNeg (.int v) → Arv Z h' a kk .int z (vs.set i (.int v)) dv → Go p e below s n0 Q kC kS (T'.setTop (mkF m (pc + 1) Ls st))) : Go p e below s n0 Q kC kS (T.setTop (mkF m pc Ls (.int v :: .int j :: .ref a :: st))) := by
  obtain ⟨⟨hx, hby, hZ, q⟩, locs, X, eT, N⟩ := X
  obtain ⟨cl, A, q1, S, hz, H, F⟩ := A
  obtain ⟨T', h', X', e', W', st'⟩ := stI X hx hZ eT A (inb_of S hj) (g := mkF m pc Ls (.int v :: .int j :: .ref a :: st)) rfl rfl (by rw [hby]; exact hd)
  exact (r T' h' ⟨⟨hx, hby, hZ, q⟩, _, X', e', Fr.snoc X' N ha⟩ W' (Arv.set A q1 S hz H F rfl W' i hi hl)).st st'
theorem lastore_ (X : St p l e R s m args below meth c Z B own nm ml ret n0 T h k n) {kk : ClassId} {z j : Int32} {vs : List Value} {dv : Value} {v : Int64} {a : Addr} {pc : Nat} {Ls : Array Slot} {st : List Value} (i : Nat) (hd : decode B pc = .ok (.lastore, 1)) (A : Arv Z h a kk .long z vs dv) (hj : ¬ j < 0 ∧ j < z) (hi : j.toNatClampNeg = i) (hl : i < vs.length) (ha : n0 ≤ a)
    (r : ∀ T' h', St p l e R s m args below meth c Z B own nm ml ret n0 T' h' k n → Wr h h' a j.toNatClampNeg (.long v) → Arv Z h' a kk .long z (vs.set i (.long v)) dv → Go p e below s n0 Q kC kS (T'.setTop (mkF m (pc + 1) Ls st))) : Go p e below s n0 Q kC kS (T.setTop (mkF m pc Ls (.long v :: .int j :: .ref a :: st))) := by
  obtain ⟨⟨hx, hby, hZ, q⟩, locs, X, eT, N⟩ := X
  obtain ⟨cl, A, q1, S, hz, H, F⟩ := A
  obtain ⟨T', h', X', e', W', st'⟩ := stJ X hx hZ eT A (inb_of S hj) (g := mkF m pc Ls (.long v :: .int j :: .ref a :: st)) rfl rfl (by rw [hby]; exact hd)
  exact (r T' h' ⟨⟨hx, hby, hZ, q⟩, _, X', e', Fr.snoc X' N ha⟩ W' (Arv.set A q1 S hz H F rfl W' i hi hl)).st st'
theorem newRA_ (X : St p l e R s m args below meth c Z B own nm ml ret n0 T h k n) {a0 : Array Value} {C ad : String} {ty : FieldType} {index : Nat} {z : Int32} {pc : Nat} {Ls : Array Slot} {st : List Value} (cap : Nat) (hd : decode B pc = .ok (.anewarray index, 3)) (hC : (FieldType.array ty).toString = C) (had : "[" ++ C = ad) (w1 : (Cond.classLink own index C).before a0 Z = true) (w2 : (Cond.arrayOver (.array ty)).before a0 Z = true) (hz : ¬ z < 0) (hcap : z.toNatClampNeg ≤ cap) (hb : cap * 8 ≤ 536870912) (hc : k + 1 ≤ R.cells) (hl : n + cap ≤ R.slots)
    (r : ∀ T' h' a kk, a = h.size → St p l e R s m args below meth c Z B own nm ml ret n0 T' h' (k + 1) (n + cap) → Ext h h' → Arv Z h' a kk (.array ty) z [] .null → Exa Z h' a ad → OvrA Z kk ty C → Go p e below s n0 Q kC kS (T'.setTop (mkF m (pc + 3) Ls (.ref a :: st)))) : Go p e below s n0 Q kC kS (T.setTop (mkF m pc Ls (.int z :: st))) := by
  obtain ⟨⟨hx, hby, hZ, hown, q⟩, locs, X, eT, N⟩ := X
  obtain ⟨T', h', cA, X', e', E', A', G', O', st'⟩ := newRA X hx hZ hown hC w1 w2 eT (g := mkF m pc Ls (.int z :: st)) rfl (by rw [hby]; exact hd) rfl hz hcap hb hc hl had
  exact (r T' h' _ cA rfl ⟨⟨hx, hby, hZ, hown, q⟩, locs, X', e', N⟩ E' (Arv.new A' hz) G' O').st st'
theorem newRE_ (X : St p l e R s m args below meth c Z B own nm ml ret n0 T h k n) {a0 : Array Value} {C ad : String} {index : Nat} {z : Int32} {pc : Nat} {Ls : Array Slot} {st : List Value} (cap : Nat) (hd : decode B pc = .ok (.anewarray index, 3)) (had : "[" ++ (FieldType.object C).toString = ad) (w1 : (Cond.classLink own index C).before a0 Z = true) (w2 : (Cond.arrayOver (.object C)).before a0 Z = true) (hz : ¬ z < 0) (hcap : z.toNatClampNeg ≤ cap) (hb : cap * 8 ≤ 536870912) (hc : k + 1 ≤ R.cells) (hl : n + cap ≤ R.slots)
    (r : ∀ T' h' a kk, a = h.size → St p l e R s m args below meth c Z B own nm ml ret n0 T' h' (k + 1) (n + cap) → Ext h h' → Arv Z h' a kk (.object C) z [] .null → Exa Z h' a ad → Ovr Z kk C → Go p e below s n0 Q kC kS (T'.setTop (mkF m (pc + 3) Ls (.ref a :: st)))) : Go p e below s n0 Q kC kS (T.setTop (mkF m pc Ls (.int z :: st))) := by
  obtain ⟨⟨hx, hby, hZ, hown, q⟩, locs, X, eT, N⟩ := X
  obtain ⟨T', h', cA, X', e', E', A', G', O', st'⟩ := newRE X hx hZ hown w1 w2 eT (g := mkF m pc Ls (.int z :: st)) rfl (by rw [hby]; exact hd) rfl hz hcap hb hc hl had
  exact (r T' h' _ cA rfl ⟨⟨hx, hby, hZ, hown, q⟩, locs, X', e', N⟩ E' (Arv.new A' hz) G' O').st st'
theorem aastore_ (X : St p l e R s m args below meth c Z B own nm ml ret n0 T h k n) {kk : ClassId} {ty : FieldType} {z j : Int32} {vs : List Value} {dv v : Value} {a : Addr} {pc : Nat} {Ls : Array Slot} {st : List Value} (i : Nat) (hd : decode B pc = .ok (.aastore, 1)) (A : Arv Z h a kk ty z vs dv) (hty : ty.isReference = true) (hj : ¬ j < 0 ∧ j < z) (hi : j.toNatClampNeg = i) (hl : i < vs.length) (ha : n0 ≤ a) (hf : fits ty v = true) (F : ∀ cl : Cell, Arr Z h a cl ty → cl.cls = kk → Sto Z h a v)
    (r : ∀ T' h', St p l e R s m args below meth c Z B own nm ml ret n0 T' h' k n → Wr h h' a j.toNatClampNeg v → Arv Z h' a kk ty z (vs.set i v) dv → Go p e below s n0 Q kC kS (T'.setTop (mkF m (pc + 1) Ls st))) : Go p e below s n0 Q kC kS (T.setTop (mkF m pc Ls (v :: .int j :: .ref a :: st))) := by
  obtain ⟨⟨hx, hby, hZ, q⟩, locs, X, eT, N⟩ := X
  obtain ⟨cl, A, q1, S, hz, H, G⟩ := A
  obtain ⟨T', h', X', e', W', st'⟩ := stR X hx hZ eT A (inb_of S hj) hty (F cl A q1) (g := mkF m pc Ls (v :: .int j :: .ref a :: st)) rfl rfl (by rw [hby]; exact hd)
  exact (r T' h' ⟨⟨hx, hby, hZ, q⟩, _, X', e', Fr.snoc X' N ha⟩ W' (Arv.set A q1 S hz H G hf W' i hi hl)).st st'
theorem acmp_ (X : St p l e R s m args below meth c Z B own nm ml ret n0 T h k n) {cd : ACond} {pc pc' : Nat} {Ls : Array Slot} {st : List Value} {o : Int} {x y : Value} {same : Bool} (hd : decode B pc = .ok (.if_acmp cd o, 3)) (h1 : x.isRef = true) (h2 : y.isRef = true) (hq : decide (x = y) = same) (ho : 0 ≤ (pc : Int) + o) (hp : pc' = if acV cd same = true then ((pc : Int) + o).toNat else pc + 3)
    (r : Go p e below s n0 Q kC kS (T.setTop (mkF m pc' Ls st))) : Go p e below s n0 Q kC kS (T.setTop (mkF m pc Ls (y :: x :: st))) := by
  obtain ⟨⟨hx, rfl, -⟩, locs, X, -⟩ := X
  exact r.st fun u kk => Jvm.RoadKit.acmp (g := mkF m pc Ls (y :: x :: st)) X hx rfl h1 h2 rfl hd rfl hq ho hp kk

theorem gridM3_ (X : St p l e R s m args below meth c Z B own nm ml ret n0 T h k n) {a0 : Array Value} {C ad : String} {ty : FieldType} {index : Nat} {zk : Int32} {pc : Nat} {Ls : Array Slot} {st : List Value} (cap : Nat) (dv : Value) (hd : decode B pc = .ok (.multianewarray index 2, 4)) (hC : (FieldType.array ty).toString = C) (had : "[" ++ C = ad) (w1 : (Cond.classLink own index ad).before a0 Z = true) (w2 : (Cond.arrayOver (.array ty)).before a0 Z = true) (w3 : (Cond.arrayClass ty).before a0 Z = true) (hdv : defaultValue ty = dv) (hk : ¬ zk < 0) (hcap : zk.toNatClampNeg ≤ cap) (hb : cap * 8 ≤ 536870912) (hdf : fits ty (defaultValue ty) = true) (hdd : (defaultValue ty).isDefault = true) (hc : k + (1 + 3) ≤ R.cells) (hl : n + (3 + 3 * cap) ≤ R.slots)
    (r : ∀ T' h' a x0 x1 x2 kk comp, a = h.size → x0 = a + 1 → x1 = a + 2 → x2 = a + 3 → St p l e R s m args below meth c Z B own nm ml ret n0 T' h' (k + (1 + 3)) (n + (3 + 3 * cap)) → Ext h h' → Arv Z h' a kk (.array ty) 3 [.ref x0, .ref x1, .ref x2] .null → OvrA Z kk ty C → Exa Z h' a ad → Arv Z h' x0 comp ty zk [] dv → Arv Z h' x1 comp ty zk [] dv → Arv Z h' x2 comp ty zk [] dv → Exa Z h' x0 C → Exa Z h' x1 C → Exa Z h' x2 C → Go p e below s n0 Q kC kS (T'.setTop (mkF m (pc + 4) Ls (.ref a :: st)))) : Go p e below s n0 Q kC kS (T.setTop (mkF m pc Ls (.int zk :: .int 3 :: st))) := by
  subst hdv
  obtain ⟨⟨hx, hby, hZ, hown, q⟩, locs, X, eT, N⟩ := X
  obtain ⟨T', h', cA, comp, X', e', E', A', O', G', I', st'⟩ := gridM X hx hZ hown hC had w1 w2 w3 eT (g := mkF m pc Ls (.int zk :: .int 3 :: st)) rfl (by rw [hby]; exact hd) rfl (by decide) hk (xs := [h.size + 1 + 0, h.size + 1 + 1, h.size + 1 + 2]) (N := 3) rfl rfl hcap hb (by decide) hdf hdd hc hl
  exact (r T' h' _ _ _ _ cA comp rfl rfl rfl rfl ⟨⟨hx, hby, hZ, hown, q⟩, locs, X', e', N⟩ E' A' O' G' (Arv.new (I' 0 _ rfl).1 hk) (Arv.new (I' 1 _ rfl).1 hk) (Arv.new (I' 2 _ rfl).1 hk) (I' 0 _ rfl).2 (I' 1 _ rfl).2 (I' 2 _ rfl).2).st st'

theorem callS_ (X : St p l e R s m args below meth c Z B own nm ml ret n0 T h k n) {a0 : Array Value} {idx W pc : Nat} {Ls : Array Slot} {rest : List Value} {argsL : List Value} {y : MethodName} {bytes : ByteArray} {maxL : Nat} {rt : Option FieldType} {rm : Room} {Qc : Option Value → Heap → Prop} (hd : decode B pc = .ok (.invokestatic idx, 3)) (w1 : (Cond.methodLink own idx y).before a0 Z = true) (w2 : (Cond.static y).before a0 Z = true) (w3 : (Cond.initialized y.cls).before a0 Z = true) (w4 : (Cond.code y bytes maxL rt).before a0 Z = true)
    (hy : y.cls ≠ "java/lang/invoke/MethodHandle" ∧ y.cls ≠ "java/lang/invoke/VarHandle") (hM : Con l Z y [] bytes maxL rt rm argsL.toArray h n0 Qc) (hlen : ∀ sig, parseMethodDescriptor y.desc = some sig → argsL.length = sig.parameters.length) (hsz : Ls.size = ml) {stk : List Value} (hs : stk = argsL.reverse ++ rest)
    (hW : 2 * 0 + (rest.map fun v => v.category).sum ≤ W) (hf : rm.frames + 1 ≤ R.frames) (hl : W + (maxL + 11) + rm.locals ≤ R.locals) (hc : k + rm.cells ≤ R.cells) (hn : n + rm.slots ≤ R.slots)
    (r : ∀ T' h' v, St p l e R s m args below meth c Z B own nm ml ret n0 T' h' (k + rm.cells) (n + rm.slots) → Qc v h' → Go p e below s n0 Q kC kS (T'.setTop (mkF m (pc + 3) Ls (v.toList ++ rest)))) : Go p e below s n0 Q kC kS (T.setTop (mkF m pc Ls stk)) := by
  obtain ⟨⟨hx, hby, hZ, hown, hml, q⟩, locs, X, eT, N⟩ := X
  obtain ⟨v, vm1, ⟨T', L', k', n'⟩, -, X', ⟨Lc, ⟨hQ, N'⟩, l1, l2, l3⟩, st'⟩ := Jvm.LawKit.callS X hx (y := y) hown (mvT hZ w1) (mvT hZ w2) (mvT hZ w3) (mvT hZ w4) hy (backOf (Q := fun v h L => Qc v h ∧ Fr n0 L) hM hZ w4 w3 hf hl) (g := mkF m pc Ls stk) rfl (by rw [hml]; exact hsz) (argsL := argsL) (rest := rest) hlen hs hW (by rw [hby]; exact hd) (fun _ _ => ⟨rfl, eT, hc, hn⟩)
  dsimp only [Pt.U, Pt.locs, Pt.cells, Pt.slots] at X' l1 l2 l3 st' hQ
  subst l1 l2 l3
  exact (r T' T'.heap v ⟨⟨hx, hby, hZ, hown, hml, q⟩, _, X', rfl, Fr.app N N'⟩ hQ).st st'
theorem Go.tr {t t' : State} (r : Go p e below s n0 Q kC kS t') (q : Steps p.tables e below t t') : Go p e below s n0 Q kC kS t := r.st fun u kk => q.trans kk
theorem callI_ (X : St p l e R s m args below meth c Z B own nm ml ret n0 T h k n) {a0 : Array Value} {idx W pc : Nat} {Ls : Array Slot} {rest : List Value} {argsL : List Value} {a : Addr} {y : MethodName} {bytes : ByteArray} {maxL : Nat} {rm : Room} {Qc : Option Value → Heap → Prop} (hd : decode B pc = .ok (.invokespecial idx, 3)) (hin : y.name = "<init>") (w1 : (Cond.methodLink own idx y).before a0 Z = true) (w2 : (Cond.instanceMethod y).before a0 Z = true) (w3 : (Cond.initialized y.cls).before a0 Z = true) (w4 : (Cond.code y bytes maxL none).before a0 Z = true)
    (hy : y.cls ≠ "java/lang/invoke/MethodHandle" ∧ y.cls ≠ "java/lang/invoke/VarHandle") (hM : Con l Z y [] bytes maxL none rm (.ref a :: argsL).toArray h n0 Qc) (hlen : ∀ sig, parseMethodDescriptor y.desc = some sig → argsL.length = sig.parameters.length) (hsz : Ls.size = ml) {stk : List Value} (hs : stk = argsL.reverse ++ .ref a :: rest)
    (hW : 2 * 0 + (rest.map fun v => v.category).sum ≤ W) (hf : rm.frames + 1 ≤ R.frames) (hl : W + (maxL + 11) + rm.locals ≤ R.locals) (hc : k + rm.cells ≤ R.cells) (hn : n + rm.slots ≤ R.slots)
    (r : ∀ T' h' v, St p l e R s m args below meth c Z B own nm ml ret n0 T' h' (k + rm.cells) (n + rm.slots) → Qc v h' → Go p e below s n0 Q kC kS (T'.setTop (mkF m (pc + 3) Ls (v.toList ++ rest)))) : Go p e below s n0 Q kC kS (T.setTop (mkF m pc Ls stk)) := by
  obtain ⟨⟨hx, hby, hZ, hown, hml, q⟩, locs, X, eT, N⟩ := X
  obtain ⟨v, vm1, ⟨T', L', k', n'⟩, -, X', ⟨Lc, ⟨hQ, N'⟩, l1, l2, l3⟩, st'⟩ := X.specialBack hx (y := y) hin hown (mvT hZ w1) (mvT hZ w2) (mvT hZ w4) hy (backOf (Q := fun v h L => Qc v h ∧ Fr n0 L) hM hZ w4 w3 hf hl) (g := mkF m pc Ls stk) rfl (by rw [hml]; exact hsz) (Steps.refl _) (a := a) (argsL := argsL) (rest := rest) hlen hs hW (by rw [hby]; exact hd) (fun _ _ => ⟨rfl, eT, hc, hn⟩)
  dsimp only [Pt.U, Pt.locs, Pt.cells, Pt.slots] at X' l1 l2 l3 st' hQ
  subst l1 l2 l3
  exact (r T' T'.heap v ⟨⟨hx, hby, hZ, hown, hml, q⟩, _, X', rfl, Fr.app N N'⟩ hQ).tr st'
theorem callV_ (X : St p l e R s m args below meth c Z B own nm ml ret n0 T h k n) {a0 : Array Value} {idx W pc : Nat} {Ls : Array Slot} {rest : List Value} {argsL : List Value} {a : Addr} {C : String} {y z : MethodName} {bytes : ByteArray} {maxL : Nat} {rt : Option FieldType} {rm : Room} {Qc : Option Value → Heap → Prop} (hd : decode B pc = .ok (.invokevirtual idx, 3)) (w1 : (Cond.methodLink own idx y).before a0 Z = true) (w2 : (Cond.declares y).before a0 Z = true) (w5 : (Cond.selects C y z).before a0 Z = true) (w6 : (Cond.instanceMethod z).before a0 Z = true) (hzy : z = y) (w3 : (Cond.initialized z.cls).before a0 Z = true) (w4 : (Cond.code z bytes maxL rt).before a0 Z = true)
    (hy : y.cls ≠ "java/lang/invoke/MethodHandle" ∧ y.cls ≠ "java/lang/invoke/VarHandle") (E : Exa Z h a C) (hM : Con l Z z [] bytes maxL rt rm (.ref a :: argsL).toArray h n0 Qc) (hlen : ∀ sig, parseMethodDescriptor y.desc = some sig → argsL.length = sig.parameters.length) (hsz : Ls.size = ml) {stk : List Value} (hs : stk = argsL.reverse ++ .ref a :: rest)
    (hW : 2 * 0 + (rest.map fun v => v.category).sum ≤ W) (hf : rm.frames + 1 ≤ R.frames) (hl : W + (maxL + 11) + rm.locals ≤ R.locals) (hc : k + rm.cells ≤ R.cells) (hn : n + rm.slots ≤ R.slots)
    (r : ∀ T' h' v, St p l e R s m args below meth c Z B own nm ml ret n0 T' h' (k + rm.cells) (n + rm.slots) → Qc v h' → Go p e below s n0 Q kC kS (T'.setTop (mkF m (pc + 3) Ls (v.toList ++ rest)))) : Go p e below s n0 Q kC kS (T.setTop (mkF m pc Ls stk)) := by
  obtain ⟨⟨hx, hby, hZ, hown, hml, q⟩, locs, X, eT, N⟩ := X
  subst hzy
  obtain ⟨cq, kq, qa, qb, qc⟩ := isOf hZ eT E
  obtain ⟨v, vm1, ⟨T', L', k', n'⟩, -, X', ⟨Lc, ⟨hQ, N'⟩, l1, l2, l3⟩, st'⟩ := X.virtualBack hx (y := z) (z := z) hown (mvT hZ w1) (mvT hZ w2) (notFace_of_selects (args := #[]) (mvT hZ w5)) (mvT hZ w5) (mvT hZ w6) hy (backOf (Q := fun v h L => Qc v h ∧ Fr n0 L) hM hZ w4 w3 hf hl) qa qc (g := mkF m pc Ls stk) rfl (by rw [hml]; exact hsz) (Steps.refl _) (argsL := argsL) (rest := rest) hlen hs hW (by rw [hby]; exact hd) (fun _ _ => ⟨rfl, eT, hc, hn⟩)
  dsimp only [Pt.U, Pt.locs, Pt.cells, Pt.slots] at X' l1 l2 l3 st' hQ
  subst l1 l2 l3
  exact (r T' T'.heap v ⟨⟨hx, hby, hZ, hown, hml, q⟩, _, X', rfl, Fr.app N N'⟩ hQ).tr st'

theorem absD_ (X : St p l e R s m args below meth c Z B own nm ml ret n0 T h k n) {a0 : Array Value} {idx W pc : Nat} {Ls : Array Slot} {st : List Value} {x : UInt64} (hd : decode B pc = .ok (.invokestatic idx, 3)) (w1 : (Cond.methodLink own idx Jvm.Free.Fl.Abs.absDN).before a0 Z = true) (w2 : (Cond.static Jvm.Free.Fl.Abs.absDN).before a0 Z = true) (w3 : (Cond.initialized "java/lang/Math").before a0 Z = true) (w4 : (Cond.code Jvm.Free.Fl.Abs.absDN Jvm.Free.Fl.Abs.absDCode 2 (some .double)).before a0 Z = true) (nx : NoNaN64 x) (hlen : ∀ sig, parseMethodDescriptor "(D)D" = some sig → [Value.double x].length = sig.parameters.length) (hsz : Ls.size = ml)
    (hW : 2 * 0 + (st.map fun v => v.category).sum ≤ W) (hf : 1 ≤ R.frames) (hl : W + 13 ≤ R.locals) (hk : k ≤ R.cells) (hn : n ≤ R.slots)
    (r : ∀ T', St p l e R s m args below meth c Z B own nm ml ret n0 T' h k n → Go p e below s n0 Q kC kS (T'.setTop (mkF m (pc + 3) Ls (.double (x &&& 0x7fffffffffffffff) :: st)))) : Go p e below s n0 Q kC kS (T.setTop (mkF m pc Ls (.double x :: st))) := by
  obtain ⟨⟨hx, hby, hZ, hown, hml, q⟩, locs, X, eT, N⟩ := X
  obtain ⟨T', X', e', st'⟩ := natS X hx hZ hown w1 w2 w3 w4 (by decide) eT (W := W) (fun hc => Jvm.Free.Fl.Abs.absD_pays x hc hf hl) (g := mkF m pc Ls (.double x :: st)) rfl (by rw [hml]; exact hsz) (argsL := [.double x]) (rest := st) hlen rfl hW (by rw [hby]; exact hd) hk hn ⟨rfl, nx⟩ rfl
  exact (r T' ⟨⟨hx, hby, hZ, hown, hml, q⟩, locs, X', e', N⟩).st st'

theorem callP_ (X : St p l e R s m args below meth c Z B own nm ml ret n0 T h k n) {a0 : Array Value} {idx W pc : Nat} {Ls : Array Slot} {rest : List Value} {argsL : List Value} {a : Addr} {C D : String} {y z' z : MethodName} {bytes : ByteArray} {maxL : Nat} {rt : Option FieldType} {rm : Room} {Qc : Option Value → Heap → Prop} (hd : decode B pc = .ok (.invokevirtual idx, 3)) (w1 : (Cond.methodLink own idx y).before a0 Z = true) (w2 : (Cond.instanceMethod y).before a0 Z = true) (w5 : (Cond.selects D z' z).before a0 Z = true) (hz : z.cls = y.cls) (w6 : (Cond.privateMethod y).before a0 Z = true) (w3 : (Cond.initialized y.cls).before a0 Z = true) (w4 : (Cond.code y bytes maxL rt).before a0 Z = true)
    (hy : y.cls ≠ "java/lang/invoke/MethodHandle" ∧ y.cls ≠ "java/lang/invoke/VarHandle") (E : Exa Z h a C) (hM : Con l Z y [] bytes maxL rt rm (.ref a :: argsL).toArray h n0 Qc) (hlen : ∀ sig, parseMethodDescriptor y.desc = some sig → argsL.length = sig.parameters.length) (hsz : Ls.size = ml) {stk : List Value} (hs : stk = argsL.reverse ++ .ref a :: rest)
    (hW : 2 * 0 + (rest.map fun v => v.category).sum ≤ W) (hf : rm.frames + 1 ≤ R.frames) (hl : W + (maxL + 11) + rm.locals ≤ R.locals) (hc : k + rm.cells ≤ R.cells) (hn : n + rm.slots ≤ R.slots)
    (r : ∀ T' h' v, St p l e R s m args below meth c Z B own nm ml ret n0 T' h' (k + rm.cells) (n + rm.slots) → Qc v h' → Go p e below s n0 Q kC kS (T'.setTop (mkF m (pc + 3) Ls (v.toList ++ rest)))) : Go p e below s n0 Q kC kS (T.setTop (mkF m pc Ls stk)) := by
  obtain ⟨⟨hx, hby, hZ, hown, hml, q⟩, locs, X, eT, N⟩ := X
  obtain ⟨mk, methM, hnamed, hmethM, hstM, habM⟩ := Cond.instanceMethod_spec (args := args) (mvT hZ w2)
  obtain ⟨methM', cM, hmethM', -, -, -, -, -, -, hsigM⟩ := Cond.code_spec hnamed (mvT (args := args) hZ w4)
  cases hmethM.symm.trans hmethM'
  obtain ⟨c2, r2, m2, -, -, q3, -, kP, hkP, hkPi⟩ := Cond.selects_spec (args := args) (mvT hZ w5)
  have hcl : m2.cls = mk.cls := Option.some.inj ((findClass_of_methodNamed q3).symm.trans (by rw [hz]; exact findClass_of_methodNamed hnamed))
  rw [hcl] at hkP
  obtain ⟨cell, hcell, hobj⟩ := E.cell
  have hsel : selectMethod e.platform s.vm cell.cls mk = .method mk := selectMethod_private hmethM (Cond.privateMethod_at (mvP hZ w6 (args := args)) mk methM hnamed hmethM)
  obtain ⟨vm1, X1, step1⟩ := X.invokevirtual hx hown (mvT hZ w1) hnamed hmethM hstM hkP hkPi hy (a := a) (cell := cell) (by rw [eT]; exact hcell) hobj hsel hmethM habM hkP hkPi (g := mkF m pc Ls stk) rfl (argsL := argsL) (rest := rest) (hlen _ hsigM) hs (by rw [hby]; exact hd)
  obtain ⟨v, ⟨T', L', k', n'⟩, X', ⟨Lc, ⟨hQ, N'⟩, l1, l2, l3⟩, st'⟩ := (backOf (Q := fun v h L => Qc v h ∧ Fr n0 L) hM hZ w4 w3 hf hl) m meth c ⟨T.setVm vm1, locs, k, n⟩ { mkF m pc Ls stk with stack := rest } (.invokevirtual idx) mk (.ref a :: argsL).toArray X1 rfl (by rw [hml]; exact hsz) (by rw [hby]; exact hd) hW (X1.named hnamed) ⟨rfl, eT, hc, hn⟩
  dsimp only [Pt.U, Pt.locs, Pt.cells, Pt.slots] at X' l1 l2 l3 st' hQ
  subst l1 l2 l3
  exact (r T' T'.heap v ⟨⟨hx, hby, hZ, hown, hml, q⟩, _, X', rfl, Fr.app N N'⟩ hQ).tr ((step1 _ fun acts => by rw [doInvoke_state]; exact Steps.refl _).trans st')

theorem callSN_ (X : St p l e R s m args below meth c Z B own nm ml ret n0 T h k n) {a0 : Array Value} {host : String} {idx W pc : Nat} {Ls : Array Slot} {rest : List Value} {argsL : List Value} {y : MethodName} {bytes : ByteArray} {maxL : Nat} {rt : Option FieldType} {rm : Room} {Qc : Option Value → Heap → Prop} (hd : decode B pc = .ok (.invokestatic idx, 3)) (w1 : (Cond.methodLinkNest own idx y host).before a0 Z = true) (w2 : (Cond.static y).before a0 Z = true) (w3 : (Cond.initialized y.cls).before a0 Z = true) (w4 : (Cond.code y bytes maxL rt).before a0 Z = true)
    (hy : y.cls ≠ "java/lang/invoke/MethodHandle" ∧ y.cls ≠ "java/lang/invoke/VarHandle") (hM : Con l Z y [] bytes maxL rt rm argsL.toArray h n0 Qc) (hlen : ∀ sig, parseMethodDescriptor y.desc = some sig → argsL.length = sig.parameters.length) (hsz : Ls.size = ml) {stk : List Value} (hs : stk = argsL.reverse ++ rest)
    (hW : 2 * 0 + (rest.map fun v => v.category).sum ≤ W) (hf : rm.frames + 1 ≤ R.frames) (hl : W + (maxL + 11) + rm.locals ≤ R.locals) (hc : k + rm.cells ≤ R.cells) (hn : n + rm.slots ≤ R.slots)
    (r : ∀ T' h' v, St p l e R s m args below meth c Z B own nm ml ret n0 T' h' (k + rm.cells) (n + rm.slots) → Qc v h' → Go p e below s n0 Q kC kS (T'.setTop (mkF m (pc + 3) Ls (v.toList ++ rest)))) : Go p e below s n0 Q kC kS (T.setTop (mkF m pc Ls stk)) := by
  obtain ⟨⟨hx, hby, hZ, hown, hml, q⟩, locs, X, eT, N⟩ := X
  obtain ⟨v, vm1, ⟨T', L', k', n'⟩, -, X', ⟨Lc, ⟨hQ, N'⟩, l1, l2, l3⟩, st'⟩ := Jvm.RoadKit.callSN X hx (y := y) hown ((Cond.methodLinkNest_wide hZ w1 :) ) (mvT hZ w2) (mvT hZ w3) (mvT hZ w4) hy (backOf (Q := fun v h L => Qc v h ∧ Fr n0 L) hM hZ w4 w3 hf hl) (g := mkF m pc Ls stk) rfl (by rw [hml]; exact hsz) (argsL := argsL) (rest := rest) hlen hs hW (by rw [hby]; exact hd) (fun _ _ => ⟨rfl, eT, hc, hn⟩)
  dsimp only [Pt.U, Pt.locs, Pt.cells, Pt.slots] at X' l1 l2 l3 st' hQ
  subst l1 l2 l3
  exact (r T' T'.heap v ⟨⟨hx, hby, hZ, hown, hml, q⟩, _, X', rfl, Fr.app N N'⟩ hQ).tr st'

theorem signD_ (X : St p l e R s m args below meth c Z B own nm ml ret n0 T h k n) {a0 : Array Value} {idx W pc maxL : Nat} {bytes : ByteArray} {Ls : Array Slot} {st : List Value} {x : UInt64} (hd : decode B pc = .ok (.invokestatic idx, 3)) (w1 : (Cond.methodLink own idx Jvm.Free.NT.mathSignum64N).before a0 Z = true) (w2 : (Cond.static Jvm.Free.NT.mathSignum64N).before a0 Z = true) (w3 : (Cond.initialized "java/lang/Math").before a0 Z = true) (w4 : (Cond.code Jvm.Free.NT.mathSignum64N bytes maxL (some .double)).before a0 Z = true) (nx : NoNaN64 x) (hlen : ∀ sig, parseMethodDescriptor "(D)D" = some sig → [Value.double x].length = sig.parameters.length) (hsz : Ls.size = ml)
    (hW : 2 * 0 + (st.map fun v => v.category).sum ≤ W) (hf : 1 ≤ R.frames) (hl : W + (maxL + 11) ≤ R.locals) (hk : k ≤ R.cells) (hn : n ≤ R.slots)
    (r : ∀ T', St p l e R s m args below meth c Z B own nm ml ret n0 T' h k n → Go p e below s n0 Q kC kS (T'.setTop (mkF m (pc + 3) Ls (.double (Jvm.signum64 x) :: st)))) : Go p e below s n0 Q kC kS (T.setTop (mkF m pc Ls (.double x :: st))) := by
  obtain ⟨⟨hx, hby, hZ, hown, hml, q⟩, locs, X, eT, N⟩ := X
  obtain ⟨T', X', e', st'⟩ := natS X hx hZ hown w1 w2 w3 w4 (by decide) eT (W := W) (F := fun a' => a' = #[.double x] ∧ NoNaN64 x) (val := .double (Jvm.signum64 x)) (fun hc => by
    intro m' meth' c' A g ig mk a' X1 hg hsize hdg hW' hnamed ⟨_, _, ha', ha⟩
    obtain ⟨v, B', X2, ⟨hB, hv⟩, st2⟩ := (Jvm.Free.NT.Signum64.pays hc (mvT hZ w2) hf hl) m' meth' c' A g ig mk a' X1 hg hsize hdg hW' hnamed ⟨x, ha', Jvm.Free.Fl.Abs.dIsNaN_false ha⟩
    exact ⟨v, B', X2, ⟨hv x ⟨ha', Jvm.Free.Fl.Abs.dIsNaN_false ha⟩, hB⟩, st2⟩) (g := mkF m pc Ls (.double x :: st)) rfl (by rw [hml]; exact hsz) (argsL := [.double x]) (rest := st) hlen rfl hW (by rw [hby]; exact hd) hk hn ⟨rfl, nx⟩ rfl
  exact (r T' ⟨⟨hx, hby, hZ, hown, hml, q⟩, locs, X', e', N⟩).st st'
theorem nn_sign {x : UInt64} (h : NoNaN64 x) : NoNaN64 (Jvm.signum64 x) := by
  obtain ⟨o, ho⟩ := Jvm.Free.Fl.dcmp_of_noNaN h (b := 0) (by unfold NoNaN64; decide)
  cases o with
  | lt => rw [Jvm.FP.V.signum_neg ho]; unfold NoNaN64; decide
  | gt => rw [Jvm.FP.V.signum_pos ho]; unfold NoNaN64; decide
  | eq => rw [Jvm.FP.V.signum_zero ho]; exact h

theorem cpA_ (X : St p l e R s m args below meth c Z B own nm ml ret n0 T h k n) {a0 : Array Value} {idx W pc : Nat} {Ls : Array Slot} {rest : List Value} {a b : Addr} {ka kb : ClassId} {ty : FieldType} {z z' sp dp nn : Int32} {vs vd us : List Value} {dv dd : Value} (hd : decode B pc = .ok (.invokestatic idx, 3)) (w1 : (Cond.methodLink own idx Jvm.Stand.acN).before a0 Z = true) (w2 : (Cond.native Jvm.Stand.acN).before a0 Z = true) (w3 : (Cond.static Jvm.Stand.acN).before a0 Z = true) (w4 : (Cond.initialized "java/lang/System").before a0 Z = true)
    (A : Arv Z h a ka ty z vs dv) (V : Arv Z h b kb ty z' vd dd) (hty : refKind ty = false) (h1 : ¬ sp < 0) (h2 : ¬ dp < 0) (h3 : ¬ nn < 0) (h4 : sp.toNatClampNeg + nn.toNatClampNeg ≤ z.toNatClampNeg) (h5 : dp.toNatClampNeg + nn.toNatClampNeg ≤ z'.toNatClampNeg) (hus : us = (List.range nn.toNatClampNeg).map fun i => vs.getD (sp.toNatClampNeg + i) dv) (hl : dp.toNatClampNeg + nn.toNatClampNeg ≤ vd.length) (ge : n0 ≤ b) (hsz : Ls.size = ml)
    (hf : 1 ≤ R.frames) (hW : 2 * 0 + (rest.map fun v => v.category).sum ≤ W) (hlo : W + (nativeFrameWords "java/lang/System" "arraycopy" 5 + 11) ≤ R.locals)
    (r : ∀ T' h', St p l e R s m args below meth c Z B own nm ml ret n0 T' h' k n → Keep h h' [b] → Arv Z h' b kb ty z' (vd.take dp.toNatClampNeg ++ us ++ vd.drop (dp.toNatClampNeg + nn.toNatClampNeg)) dd → Go p e below s n0 Q kC kS (T'.setTop (mkF m (pc + 3) Ls rest))) : Go p e below s n0 Q kC kS (T.setTop (mkF m pc Ls (.int nn :: .int dp :: .ref b :: .int sp :: .ref a :: rest))) := by
  obtain ⟨⟨hx, hby, hZ, hown, hml, q⟩, locs, X, eT, N⟩ := X
  obtain ⟨T', h', L', X', e', N', K', V', st'⟩ := cpA X hx hZ hown w1 w2 w3 w4 eT A V (Or.inl ⟨rfl, hty⟩) h1 h2 h3 h4 h5 hus hl N ge (g := mkF m pc Ls (.int nn :: .int dp :: .ref b :: .int sp :: .ref a :: rest)) rfl (by rw [hml]; exact hsz) rfl (by rw [hby]; exact hd) hf hW hlo
  exact (r T' h' ⟨⟨hx, hby, hZ, hown, hml, q⟩, L', X', e', N'⟩ K' V').st st'
theorem clone_ (X : St p l e R s m args below meth c Z B own nm ml ret n0 T h k n) {a0 : Array Value} {ad : String} {idx W pc : Nat} {Ls : Array Slot} {rest : List Value} {a : Addr} {ka : ClassId} {ty : FieldType} {z : Int32} {vs : List Value} {dv : Value} (cap : Nat) (hd : decode B pc = .ok (.invokevirtual idx, 3)) (w1 : (Cond.methodLink own idx ⟨ad, "clone", "()Ljava/lang/Object;"⟩).before a0 Z = true) (w2 : (Cond.sameMethod ad "java/lang/Object" "clone" "()Ljava/lang/Object;").before a0 Z = true) (w3 : (Cond.native ⟨"java/lang/Object", "clone", "()Ljava/lang/Object;"⟩).before a0 Z = true)
    (w4 : (Cond.instanceMethod ⟨"java/lang/Object", "clone", "()Ljava/lang/Object;"⟩).before a0 Z = true) (w5 : (Cond.selects ad ⟨ad, "clone", "()Ljava/lang/Object;"⟩ ⟨"java/lang/Object", "clone", "()Ljava/lang/Object;"⟩).before a0 Z = true) (w6 : (Cond.castable ad "java/lang/Cloneable").before a0 Z = true)
    (F : Arv Z h a ka ty z vs dv) (E : Exa Z h a ad) (hsz : Ls.size = ml) (hf : 1 ≤ R.frames) (hW : 2 * 0 + (rest.map fun v => v.category).sum ≤ W) (hl : W + 14 ≤ R.locals) (hcap : z.toNatClampNeg ≤ cap) (hc : k + 1 ≤ R.cells) (hsl : n + cap ≤ R.slots)
    (r : ∀ T' h' b, b = h.size → St p l e R s m args below meth c Z B own nm ml ret n0 T' h' (k + 1) (n + cap) → Ext h h' → Arv Z h' b ka ty z vs dv → Exa Z h' b ad → Go p e below s n0 Q kC kS (T'.setTop (mkF m (pc + 3) Ls (.ref b :: rest)))) : Go p e below s n0 Q kC kS (T.setTop (mkF m pc Ls (.ref a :: rest))) := by
  obtain ⟨⟨hx, hby, hZ, hown, hml, q⟩, locs, X, eT, N⟩ := X
  obtain ⟨T', h', X', e', E', V', G', st'⟩ := cloneH X hx hZ hown w1 w2 w3 w4 w5 w6 eT F.arh E (g := mkF m pc Ls (.ref a :: rest)) rfl (by rw [hml]; exact hsz) rfl (by rw [hby]; exact hd) hf hW hl hcap hc hsl
  exact (r T' h' _ rfl ⟨⟨hx, hby, hZ, hown, hml, q⟩, locs, X', e', N⟩ E' V' G').st st'
theorem cast_ (X : St p l e R s m args below meth c Z B own nm ml ret n0 T h k n) {a0 : Array Value} {K : String} {idx pc : Nat} {Ls : Array Slot} {rest : List Value} {a : Addr} (hd : decode B pc = .ok (.checkcast idx, 3)) (w : (Cond.classLink own idx K).before a0 Z = true) (F : Ins Z h a K true)
    (r : ∀ T', St p l e R s m args below meth c Z B own nm ml ret n0 T' h k n → Go p e below s n0 Q kC kS (T'.setTop (mkF m (pc + 3) Ls (.ref a :: rest)))) : Go p e below s n0 Q kC kS (T.setTop (mkF m pc Ls (.ref a :: rest))) := by
  obtain ⟨⟨hx, hby, hZ, hown, q⟩, locs, X, eT, N⟩ := X
  obtain ⟨T', X', e', st'⟩ := castY X hx hZ hown w eT F (g := mkF m pc Ls (.ref a :: rest)) rfl rfl (by rw [hby]; exact hd)
  exact (r T' ⟨⟨hx, hby, hZ, hown, q⟩, locs, X', e', N⟩).st st'

theorem enter {y : MethodName} {ws : List Jvm.Cond} {rm : Room} {as : Array Value} {h0 : Heap} {Ls : Array Slot} {own nm : String} (hpl : plainFor y = true) (ho : y.cls = own) (hnm : y.name = nm) (hef : ∀ m, entryFrame m as ml = mkF m 0 Ls [])
    (body : ∀ p e s m below meth c T, St p l e rm s m as below meth c Z B own nm ml ret n0 T h0 0 0 → Go p e below s n0 Q rm.cells rm.slots (T.setTop (mkF m 0 Ls []))) : Con l Z y ws B ml ret rm as h0 n0 Q := by
  refine MetFree.of_bodySF hpl hisR ?_
  intro p e s m args below meth c s₁ Bd hml0 hP hK
  obtain ⟨rfl, hZ, hh⟩ := hP
  have X0 : Stand p l e rm s m _ below meth c s₁ [] 0 0 := Stand.of_body Bd
  have e0 : s₁.heap = h0 := by rw [← hh, Bd.state]; rfl
  rw [hef]
  exact body p e s m below meth c s₁ ⟨⟨Bd.exec, Bd.bytes, hZ, ho ▸ findClass_of_methodNamed Bd.named, hml0, Bd.returns, Bd.notSynchronized, (name_of_methodNamed Bd.named Bd.method).1.trans hnm⟩, [], X0, e0, Fr.nil n0⟩
theorem Con.imp {y : MethodName} {ws : List Jvm.Cond} {rm : Room} {as : Array Value} {h0 : Heap} {Q' : Option Value → Heap → Prop} (C : Con l Z y ws B ml ret rm as h0 n0 Q') (q : ∀ v h, Q' v h → Q v h) : Con l Z y ws B ml ret rm as h0 n0 Q := by
  intro p e ha hc hk s m args below hf happ hP hK
  obtain ⟨n, o, h1, h2, h3, v, L, h4, ⟨h5, h6⟩, h7⟩ := C p e ha hc hk s m args below hf happ hP hK
  exact ⟨n, o, h1, h2, h3, v, L, h4, ⟨q _ _ h5, h6⟩, h7⟩
end Kit
end Jvm.Own

namespace Jvm.Own
open Jvm.FP Jvm.FP.Core Jvm.Free.Fl
/-- one, in units of 2^-1074 -/
def U : Int := (one64 : Int)
theorem U_pos : 0 < U := by unfold U; have := one64_pos; omega
theorem U_pow : U = 2 ^ 1074 := by unfold U one64; exact Int.natCast_pow 2 1074
theorem U_lt {a b : Int} : a * U < b * U ↔ a < b := Int.mul_lt_mul_right U_pos
theorem U_le {a b : Int} : a * U ≤ b * U ↔ a ≤ b := Int.mul_le_mul_right U_pos
theorem U_eq {a b : Int} : a * U = b * U ↔ a = b := Int.mul_eq_mul_right_iff (by have := U_pos; omega)
theorem nn_0 : NoNaN64 0 := by unfold NoNaN64; decide
theorem nn_1 : NoNaN64 4607182418800017408 := by unfold NoNaN64; decide
theorem fin_0 : Fin64 0 := by unfold Fin64; decide
theorem fin_1 : Fin64 4607182418800017408 := by unfold Fin64; decide
theorem dz_0 : dz 0 = 0 := zval64_zero
theorem dz_int {i : Int} {v : UInt64} (h : DInt i v) : Fin64 v ∧ dz v = i * U := by
  refine ⟨fin64_core.mpr ?_, DInt_zval h⟩
  unfold DInt at h
  cases hv : val64 v with
  | nan => rw [hv] at h; exact h.elim
  | inf q => rw [hv] at h; exact h.elim
  | fin s c q => exact ⟨s, c, q, hv⟩
theorem dz_1 : dz 4607182418800017408 = U := by rw [(dz_int dint_one).2, Int.one_mul]
theorem i2d_v {x : Int32} {v : UInt64} (h : FP.i2d x = v) : Fin64 v ∧ dz v = x.toInt * U := h ▸ dz_int (i2d_int x)
theorem l2d_v {x : Int64} {v : UInt64} (h : FP.l2d x = v) (hx : x.toInt.natAbs ≤ 2 ^ 53) : Fin64 v ∧ dz v = x.toInt * U := h ▸ dz_int (l2d_int hx)
theorem fin_val {x : UInt64} (h : Fin64 x) : ∃ s c q, val64 x = .fin s c q := fin64_core.mp h
/-- the greatest magnitude, and one more -/
def Top : Nat := b64.tails * 2 ^ (b64.exps - 2)
theorem Top_pow : Top = 2 ^ 2098 := by unfold Top; rw [tails_b64, show b64.exps - 2 = 2046 from by decide, ← Nat.pow_add]
theorem fin_lt {x : UInt64} (h : Fin64 x) : (dz x).natAbs < Top := by
  have := (fin64_core.mp h).zval_lt
  show (signed _ _).natAbs < _
  rw [natAbs_signed]; exact this
theorem fin_of {x : UInt64} (h : NoNaN64 x) (q : (dz x).natAbs < Top) : Fin64 x := by
  refine fin64_core.mpr ?_
  cases hv : val64 x with
  | nan => exact absurd hv (val64_no.mp h)
  | inf s =>
    have : (dz x).natAbs = Top := by
      show (signed _ (zmag b64 (val64 x))).natAbs = _
      rw [natAbs_signed, hv]; rfl
    omega
  | fin s c q => exact ⟨s, c, q, hv⟩
/-- a number of at most 53 digits, at any place within reach, is a double -/
theorem rep (k : Int) (j : Nat) (hk : k.natAbs < 2 ^ 53) (hj : j ≤ 2040) : ∃ V : UInt64, Fin64 V ∧ dz V = k * 2 ^ j := by
  obtain ⟨c', q', h1, h2⟩ := round_exact good_b64 (decide (k < 0)) (c := k.natAbs) (q := b64.qmin + (j : Int)) hk (by omega) (by
    have : b64.qmax = b64.qmin + 2045 := by decide
    omega)
  have hf : Core.fits b64 (.fin (decide (k < 0)) c' q') := h1 ▸ round_fits good_b64 _
  refine ⟨of64 (.fin (decide (k < 0)) c' q'), fin64_core.mpr ⟨_, _, _, val64_of64 hf⟩, ?_⟩
  show zval b64 (val64 _) = _
  rw [val64_of64 hf]
  show signed _ (inUnits c' q' b64.qmin) = _
  rw [h2]
  unfold inUnits
  rw [show (b64.qmin + (j : Int) - b64.qmin).toNat = j by omega, signed_mul, show ((2 ^ j : Nat) : Int) = 2 ^ j from Int.natCast_pow 2 j]
  congr 1
  unfold signed
  by_cases q : k < 0 <;> simp [q, sgn] <;> omega
theorem repU (k : Int) (j : Nat) (hk : k.natAbs < 2 ^ 53) (hj : j ≤ 1074) : ∃ V : UInt64, Fin64 V ∧ dz V * 2 ^ j = k * U := by
  obtain ⟨V, h1, h2⟩ := rep k (1074 - j) hk (by omega)
  refine ⟨V, h1, ?_⟩
  rw [h2, Int.mul_assoc, ← Int.pow_add, show 1074 - j + j = 1074 by omega, U_pow]
/-! sums -/
theorem dadd_le {a b V : UInt64} (fa : Fin64 a) (fb : Fin64 b) (nV : NoNaN64 V) (h : dz a + dz b ≤ dz V) : dz (FP.dadd a b) ≤ dz V := by
  show zval b64 (val64 (Core.dadd a b)) ≤ _
  rw [val64_dadd]
  exact sum_le good_b64 (fin_val fa) (fin_val fb) (val64_fits a) (val64_fits b) (val64_fits V) (nn_val nV) h
theorem dadd_ge {a b V : UInt64} (fa : Fin64 a) (fb : Fin64 b) (nV : NoNaN64 V) (h : dz V ≤ dz a + dz b) : dz V ≤ dz (FP.dadd a b) := by
  show _ ≤ zval b64 (val64 (Core.dadd a b))
  rw [val64_dadd]
  exact sum_ge good_b64 (fin_val fa) (fin_val fb) (val64_fits a) (val64_fits b) (val64_fits V) (nn_val nV) h
theorem neg_fin {d : Datum} (h : ∃ s c q, d = .fin s c q) : ∃ s c q, negate d = .fin s c q := by
  obtain ⟨s, c, q, rfl⟩ := h; exact ⟨_, _, _, rfl⟩
theorem dsub_le {a b V : UInt64} (fa : Fin64 a) (fb : Fin64 b) (nV : NoNaN64 V) (h : dz a - dz b ≤ dz V) : dz (FP.dsub a b) ≤ dz V := by
  show zval b64 (val64 (Core.dsub a b)) ≤ _
  rw [val64_dsub]
  refine sum_le good_b64 (fin_val fa) (neg_fin (fin_val fb)) (val64_fits a) (negate_fits (val64_fits b)) (val64_fits V) (nn_val nV) ?_
  rw [zval_negate]; exact h
theorem dsub_ge {a b V : UInt64} (fa : Fin64 a) (fb : Fin64 b) (nV : NoNaN64 V) (h : dz V ≤ dz a - dz b) : dz V ≤ dz (FP.dsub a b) := by
  show _ ≤ zval b64 (val64 (Core.dsub a b))
  rw [val64_dsub]
  refine sum_ge good_b64 (fin_val fa) (neg_fin (fin_val fb)) (val64_fits a) (negate_fits (val64_fits b)) (val64_fits V) (nn_val nV) ?_
  rw [zval_negate]; exact h
/-- a sum that is a double is exact -/
theorem dadd_x {a b v V : UInt64} (e : FP.dadd a b = v) (fa : Fin64 a) (fb : Fin64 b) (fV : Fin64 V) (h : dz a + dz b = dz V) : Fin64 v ∧ dz v = dz a + dz b := by
  subst e
  have q : dz (FP.dadd a b) = dz a + dz b := by
    have h1 := dadd_le fa fb fV.noNaN (Int.le_of_eq h)
    have h2 := dadd_ge fa fb fV.noNaN (Int.le_of_eq h.symm)
    omega
  exact ⟨fin_of (dadd_out fa.noNaN fb) (by rw [q, h]; exact fin_lt fV), q⟩
theorem dsub_x {a b v V : UInt64} (e : FP.dsub a b = v) (fa : Fin64 a) (fb : Fin64 b) (fV : Fin64 V) (h : dz a - dz b = dz V) : Fin64 v ∧ dz v = dz a - dz b := by
  subst e
  have q : dz (FP.dsub a b) = dz a - dz b := by
    have h1 := dsub_le fa fb fV.noNaN (Int.le_of_eq h)
    have h2 := dsub_ge fa fb fV.noNaN (Int.le_of_eq h.symm)
    omega
  exact ⟨fin_of (dsub_out fa.noNaN fb) (by rw [q, h]; exact fin_lt fV), q⟩
/-! products -/
theorem zval_fin (f : Fmt) (s : Bool) (c : Nat) (q : Int) : zval f (.fin s c q) = signed s (inUnits c q f.qmin) := rfl
theorem signed_xor' (s t : Bool) (c d : Nat) : signed (s != t) (c * d) = signed s c * signed t d := signed_xor s t c d
theorem pow_two_qmin : ((2 ^ (b64.qmin - 2 * b64.qmin).toNat : Nat) : Int) = U := by
  unfold U; rw [← pow_qmin64]; rfl
theorem dmul_le {a b V : UInt64} (fa : Fin64 a) (fb : Fin64 b) (nV : NoNaN64 V) (h : dz a * dz b ≤ dz V * U) : dz (FP.dmul a b) ≤ dz V := by
  obtain ⟨s, c, q, ha⟩ := fin_val fa
  obtain ⟨t, d, r, hb⟩ := fin_val fb
  have fa' := val64_fits a
  have fb' := val64_fits b
  unfold dz at h ⊢
  show zval b64 (val64 (Core.dmul a b)) ≤ _
  rw [val64_dmul]
  rw [ha] at fa' h ⊢
  rw [hb] at fb' h ⊢
  obtain ⟨h1, h2, h3⟩ := product_units fa' fb'
  rw [h1]
  refine zval_round_le good_b64 (val64_fits V) (nn_val nV) (e0 := 2 * b64.qmin) (by decide) h2 ?_
  rw [h3, pow_two_qmin, signed_xor']
  exact h
theorem dmul_ge {a b V : UInt64} (fa : Fin64 a) (fb : Fin64 b) (nV : NoNaN64 V) (h : dz V * U ≤ dz a * dz b) : dz V ≤ dz (FP.dmul a b) := by
  obtain ⟨s, c, q, ha⟩ := fin_val fa
  obtain ⟨t, d, r, hb⟩ := fin_val fb
  have fa' := val64_fits a
  have fb' := val64_fits b
  unfold dz at h ⊢
  show _ ≤ zval b64 (val64 (Core.dmul a b))
  rw [val64_dmul]
  rw [ha] at fa' h ⊢
  rw [hb] at fb' h ⊢
  obtain ⟨h1, h2, h3⟩ := product_units fa' fb'
  rw [h1]
  refine zval_round_ge good_b64 (val64_fits V) (nn_val nV) (e0 := 2 * b64.qmin) (by decide) h2 ?_
  rw [h3, pow_two_qmin, signed_xor']
  exact h
theorem dmul_x {a b v V : UInt64} (e : FP.dmul a b = v) (fa : Fin64 a) (fb : Fin64 b) (fV : Fin64 V) (h : dz a * dz b = dz V * U) : Fin64 v ∧ dz v = dz V := by
  subst e
  have q : dz (FP.dmul a b) = dz V := by
    have h1 := dmul_le fa fb fV.noNaN (Int.le_of_eq h)
    have h2 := dmul_ge fa fb fV.noNaN (Int.le_of_eq h.symm)
    omega
  exact ⟨fin_of (dmul_out fa fb) (by rw [q]; exact fin_lt fV), q⟩
/-! quotients -/
theorem nz_of {b : UInt64} (h : dz b ≠ 0) : Nz64 b := nz64_core.mpr fun ⟨s, q, e⟩ => h (by
  show zval b64 (val64 b) = 0
  rw [e, zval_fin]; unfold inUnits; rw [Nat.zero_mul]; exact signed_zero s)
theorem quo_mag {s t : Bool} {c d : Nat} {q r : Int} (hx : Core.fits b64 (.fin s c q)) (hy : Core.fits b64 (.fin t d r)) :
    inUnits c (q - r) (2 * b64.qmin - r) = zmag b64 (.fin s c q) * one64 ∧ 2 ^ (b64.qmin - (2 * b64.qmin - r)).toNat * d = zmag b64 (.fin t d r) := by
  have h1 := hx.2.1
  have h2 := hy.2.1
  have hq : b64.qmin = -1074 := qmin_b64
  constructor
  · rw [← pow_qmin64]
    show c * _ = c * _ * _
    rw [Nat.mul_assoc, ← Nat.pow_add]; congr 2; omega
  · show _ = d * _
    rw [Nat.mul_comm]; congr 2; omega
theorem ddiv_val {a b : UInt64} {s t : Bool} {c d : Nat} {q r : Int} (ha : val64 a = .fin s c q) (hb : val64 b = .fin t d r) (hd : d ≠ 0) : val64 (FP.ddiv a b) = roundRatio b64 (s != t) c d (q - r) := by
  show val64 (Core.ddiv a b) = _
  rw [val64_ddiv, ha, hb]; simp only [quotient, if_neg hd]
theorem ddiv_zm {a b : UInt64} (fa : Fin64 a) (fb : Fin64 b) (hb : dz b ≠ 0) :
    sgn (val64 (FP.ddiv a b)) = (sgn (val64 a) != sgn (val64 b)) ∧
    (∀ V : UInt64, NoNaN64 V → zmag b64 (val64 a) * one64 ≤ zmag b64 (val64 V) * zmag b64 (val64 b) → zmag b64 (val64 (FP.ddiv a b)) ≤ zmag b64 (val64 V)) ∧
    (∀ V : UInt64, zmag b64 (val64 V) * zmag b64 (val64 b) ≤ zmag b64 (val64 a) * one64 → zmag b64 (val64 V) ≤ zmag b64 (val64 (FP.ddiv a b))) := by
  obtain ⟨s, c, q, ha⟩ := fin_val fa
  obtain ⟨t, d, r, hb'⟩ := fin_val fb
  have fa' := val64_fits a
  have fb' := val64_fits b
  rw [ha] at fa'
  rw [hb'] at fb'
  have hd : d ≠ 0 := by
    rintro rfl
    apply hb
    show zval b64 (val64 b) = 0
    rw [hb', zval_fin]; unfold inUnits; rw [Nat.zero_mul]; exact signed_zero t
  have hv := ddiv_val ha hb' hd
  obtain ⟨e1, e2⟩ := quo_mag fa' fb'
  have hq1 := fa'.2.1
  have hq2 := fb'.2.1
  have hqm : b64.qmin = -1074 := qmin_b64
  refine ⟨?_, fun V nV h => ?_, fun V h => ?_⟩
  · rw [hv, sgn_roundRatio, ha, hb']; rfl
  · rw [hv]
    refine zmag_roundRatio_le good_b64 (by omega) (val64_fits V) (nn_val nV) (e0 := 2 * b64.qmin - r) (by omega) (by omega) ?_
    rw [e1, Nat.mul_assoc, e2]
    rw [ha, hb'] at h
    exact h
  · rw [hv]
    refine zmag_roundRatio_ge good_b64 (by omega) (val64_fits V) (e0 := 2 * b64.qmin - r) (by omega) (by omega) ?_
    rw [e1, Nat.mul_assoc, e2]
    rw [ha, hb'] at h
    exact h
theorem dz_def (x : UInt64) : dz x = signed (sgn (val64 x)) (zmag b64 (val64 x)) := rfl
theorem ddiv_le {a b V : UInt64} (fa : Fin64 a) (fb : Fin64 b) (hb : 0 < dz b) (nV : NoNaN64 V) (h : dz a * U ≤ dz V * dz b) : dz (FP.ddiv a b) ≤ dz V := by
  obtain ⟨h1, h2, h3⟩ := ddiv_zm fa fb (by omega)
  have h2 := h2 V nV
  have h3 := h3 V
  have hU : U = (one64 : Int) := rfl
  rw [dz_def (FP.ddiv a b), h1]
  rw [hU] at h
  rw [dz_def V] at h ⊢
  rw [dz_def a] at h
  rw [dz_def b] at h hb
  have p1 := one64_pos
  generalize zmag b64 (val64 (FP.ddiv a b)) = R at *
  generalize zmag b64 (val64 V) = v at *
  generalize zmag b64 (val64 a) = x at *
  generalize zmag b64 (val64 b) = y at *
  generalize sgn (val64 a) = sa at *
  generalize sgn (val64 b) = sb at *
  generalize sgn (val64 V) = sv at *
  cases sb with
  | true => simp only [signed, if_true] at hb; omega
  | false =>
    simp only [signed, Bool.false_eq_true, if_false] at hb h ⊢
    have key : signed sv v * (y : Int) = signed sv (v * y) := (signed_mul sv v y).symm
    have key2 : signed sa x * (one64 : Int) = signed sa (x * one64) := (signed_mul sa x one64).symm
    have yp : 0 < y := by omega
    change signed sa x * (one64 : Int) ≤ signed sv v * (y : Int) at h
    change signed (sa != false) R ≤ signed sv v
    rw [key, key2] at h
    have z1 : x * one64 = 0 → x = 0 := fun e => (Nat.mul_eq_zero.mp e).resolve_right (by omega)
    have z2 : v * y = 0 → v = 0 := fun e => (Nat.mul_eq_zero.mp e).resolve_right (by omega)
    have z3 : v = 0 → v * y = 0 := fun e => by rw [e, Nat.zero_mul]
    have z4 : x = 0 → x * one64 = 0 := fun e => by rw [e, Nat.zero_mul]
    generalize v * y = vy at *
    generalize x * one64 = xo at *
    cases sa <;> cases sv <;> simp only [signed, Bool.bne_false, Bool.false_eq_true, if_true, if_false] at h ⊢
    · have := h2 (by omega); omega
    · have := h2 (by omega); omega
    · omega
    · have := h3 (by omega); omega
theorem ddiv_ge {a b V : UInt64} (fa : Fin64 a) (fb : Fin64 b) (hb : 0 < dz b) (nV : NoNaN64 V) (h : dz V * dz b ≤ dz a * U) : dz V ≤ dz (FP.ddiv a b) := by
  obtain ⟨h1, h2, h3⟩ := ddiv_zm fa fb (by omega)
  have h2 := h2 V nV
  have h3 := h3 V
  have hU : U = (one64 : Int) := rfl
  rw [dz_def (FP.ddiv a b), h1]
  rw [hU] at h
  rw [dz_def V] at h ⊢
  rw [dz_def a] at h
  rw [dz_def b] at h hb
  have p1 := one64_pos
  generalize zmag b64 (val64 (FP.ddiv a b)) = R at *
  generalize zmag b64 (val64 V) = v at *
  generalize zmag b64 (val64 a) = x at *
  generalize zmag b64 (val64 b) = y at *
  generalize sgn (val64 a) = sa at *
  generalize sgn (val64 b) = sb at *
  generalize sgn (val64 V) = sv at *
  cases sb with
  | true => simp only [signed, if_true] at hb; omega
  | false =>
    simp only [signed, Bool.false_eq_true, if_false] at hb h ⊢
    have key : signed sv v * (y : Int) = signed sv (v * y) := (signed_mul sv v y).symm
    have key2 : signed sa x * (one64 : Int) = signed sa (x * one64) := (signed_mul sa x one64).symm
    have yp : 0 < y := by omega
    change signed sv v * (y : Int) ≤ signed sa x * (one64 : Int) at h
    change signed sv v ≤ signed (sa != false) R
    rw [key, key2] at h
    have z1 : x * one64 = 0 → x = 0 := fun e => (Nat.mul_eq_zero.mp e).resolve_right (by omega)
    have z2 : v * y = 0 → v = 0 := fun e => (Nat.mul_eq_zero.mp e).resolve_right (by omega)
    have z3 : v = 0 → v * y = 0 := fun e => by rw [e, Nat.zero_mul]
    have z4 : x = 0 → x * one64 = 0 := fun e => by rw [e, Nat.zero_mul]
    generalize v * y = vy at *
    generalize x * one64 = xo at *
    cases sa <;> cases sv <;> simp only [signed, Bool.bne_false, Bool.false_eq_true, if_true, if_false] at h ⊢
    · have := h3 (by omega); omega
    · omega
    · have := h2 (by omega); omega
    · have := h2 (by omega); omega
theorem ddiv_nn {a b : UInt64} (fa : Fin64 a) (fb : Fin64 b) (hb : dz b ≠ 0) : NoNaN64 (FP.ddiv a b) := ddiv_out fa.noNaN fb (nz_of hb)
theorem ddiv_x {a b v V : UInt64} (e : FP.ddiv a b = v) (fa : Fin64 a) (fb : Fin64 b) (hb : 0 < dz b) (fV : Fin64 V) (h : dz a * U = dz V * dz b) : Fin64 v ∧ dz v = dz V := by
  subst e
  have q : dz (FP.ddiv a b) = dz V := by
    have h1 := ddiv_le fa fb hb fV.noNaN (Int.le_of_eq h)
    have h2 := ddiv_ge fa fb hb fV.noNaN (Int.le_of_eq h.symm)
    omega
  exact ⟨fin_of (ddiv_nn fa fb (by omega)) (by rw [q]; exact fin_lt fV), q⟩
/-! the sign turned -/
theorem xor_top (a : UInt64) : a.toNat = (FP.dneg a).toNat + 2 ^ 63 ∨ (FP.dneg a).toNat = a.toNat + 2 ^ 63 := by
  have hlt := a.toNat_lt
  have e : (FP.dneg a).toNat = a.toNat ^^^ 2 ^ 63 := by rw [dneg_xor, UInt64.toNat_xor]; rfl
  have hd : (FP.dneg a).toNat % 2 ^ 63 = a.toNat % 2 ^ 63 := by
    rw [e]
    apply Nat.eq_of_testBit_eq; intro i
    simp only [Nat.testBit_mod_two_pow, Nat.testBit_xor, Nat.testBit_two_pow]
    by_cases q : i < 63
    · have : ¬ (63 = i) := by omega
      simp [q, this]
    · simp [q]
  have hb : (FP.dneg a).toNat.testBit 63 = !(a.toNat.testBit 63) := by
    rw [e, Nat.testBit_xor, Nat.testBit_two_pow_self]; simp
  have hl2 : (FP.dneg a).toNat < 2 ^ 64 := (FP.dneg a).toNat_lt
  generalize (FP.dneg a).toNat = y at *
  generalize a.toNat = x at *
  simp only [Nat.testBit, Nat.shiftRight_eq_div_pow, Nat.and_comm 1, Nat.and_one_is_mod, bne_iff_ne] at hb
  by_cases q : x < 2 ^ 63
  · right
    have h1 : x / 2 ^ 63 = 0 := Nat.div_eq_of_lt q
    have h2 : y / 2 ^ 63 ≠ 0 := by
      intro z; rw [h1, z] at hb; simp at hb
    have h3 : ¬ y < 2 ^ 63 := fun z => h2 (Nat.div_eq_of_lt z)
    omega
  · left
    have h1 : x / 2 ^ 63 = 1 := by omega
    have h3 : y < 2 ^ 63 := by
      refine Nat.lt_of_not_le fun z => ?_
      have : y / 2 ^ 63 = 1 := by omega
      rw [h1, this] at hb; simp at hb
    omega
theorem dneg_val (a : UInt64) : val64 (FP.dneg a) = negate (val64 a) := val64_neg_bits (xor_top a)
theorem dz_neg (a : UInt64) : dz (FP.dneg a) = -dz a := by unfold dz; rw [dneg_val, zval_negate]
theorem nn_neg {a : UInt64} (h : NoNaN64 a) : NoNaN64 (FP.dneg a) := val64_no.mpr (by rw [dneg_val]; exact negate_ne_nan (val64_no.mp h))
theorem fin_neg {a : UInt64} (h : Fin64 a) : Fin64 (FP.dneg a) := fin_of (nn_neg h.noNaN) (by rw [dz_neg, Int.natAbs_neg]; exact fin_lt h)
end Jvm.Own
namespace Jvm.Own
open Jvm.FP Jvm.FP.Core Jvm.Free.Fl
theorem p2_pos (j : Nat) : (0 : Int) < 2 ^ j := Int.pow_pos (by decide)
/-! against k / 2^j: what is at most (at least) that rounds to at most (at least) that -/
theorem quo_le {a b v : UInt64} {p q : Int} (e : FP.ddiv a b = v) (fa : Fin64 a) (fb : Fin64 b) (ha : dz a = p * U) (hb : dz b = q * U) (hq : 0 < q) (k : Int) (j : Nat) (hk : k.natAbs < 2 ^ 53) (hj : j ≤ 1074) (h : p * 2 ^ j ≤ k * q) : dz v * 2 ^ j ≤ k * U := by
  obtain ⟨V, fV, hV⟩ := repU k j hk hj
  have hU := U_pos
  have hp := p2_pos j
  have hbp : 0 < dz b := by rw [hb]; exact Int.mul_pos hq hU
  have key : dz a * U ≤ dz V * dz b := by
    refine Int.le_of_mul_le_mul_right ?_ hp
    rw [ha, hb, show p * U * U * 2 ^ j = p * 2 ^ j * (U * U) by generalize U = u; ac_rfl, show dz V * (q * U) * 2 ^ j = dz V * 2 ^ j * (q * U) by generalize U = u; ac_rfl, hV, show k * U * (q * U) = k * q * (U * U) by generalize U = u; ac_rfl]
    exact Int.mul_le_mul_of_nonneg_right h (Int.le_of_lt (Int.mul_pos hU hU))
  rw [← hV, ← e]
  exact Int.mul_le_mul_of_nonneg_right (ddiv_le fa fb hbp fV.noNaN key) (Int.le_of_lt hp)
theorem quo_ge {a b v : UInt64} {p q : Int} (e : FP.ddiv a b = v) (fa : Fin64 a) (fb : Fin64 b) (ha : dz a = p * U) (hb : dz b = q * U) (hq : 0 < q) (k : Int) (j : Nat) (hk : k.natAbs < 2 ^ 53) (hj : j ≤ 1074) (h : k * q ≤ p * 2 ^ j) : k * U ≤ dz v * 2 ^ j := by
  obtain ⟨V, fV, hV⟩ := repU k j hk hj
  have hU := U_pos
  have hp := p2_pos j
  have hbp : 0 < dz b := by rw [hb]; exact Int.mul_pos hq hU
  have key : dz V * dz b ≤ dz a * U := by
    refine Int.le_of_mul_le_mul_right ?_ hp
    rw [ha, hb, show p * U * U * 2 ^ j = p * 2 ^ j * (U * U) by generalize U = u; ac_rfl, show dz V * (q * U) * 2 ^ j = dz V * 2 ^ j * (q * U) by generalize U = u; ac_rfl, hV, show k * U * (q * U) = k * q * (U * U) by generalize U = u; ac_rfl]
    exact Int.mul_le_mul_of_nonneg_right h (Int.le_of_lt (Int.mul_pos hU hU))
  rw [← hV, ← e]
  exact Int.mul_le_mul_of_nonneg_right (ddiv_ge fa fb hbp fV.noNaN key) (Int.le_of_lt hp)
theorem Top_U : (2 : Int) ^ 1000 * U < (Top : Int) := by
  rw [U_pow, ← Int.pow_add, Top_pow, show ((2 ^ 2098 : Nat) : Int) = 2 ^ 2098 from Int.natCast_pow 2 2098]
  exact Int.pow_lt_pow_of_lt (by decide) (by decide)
theorem fin_bd {v : UInt64} (n : NoNaN64 v) (h1 : -(2 ^ 1000 * U) ≤ dz v) (h2 : dz v ≤ 2 ^ 1000 * U) : Fin64 v := fin_of n (by have := Top_U; omega)
theorem add_le {a b v : UInt64} (e : FP.dadd a b = v) (fa : Fin64 a) (fb : Fin64 b) (k : Int) (j : Nat) (hk : k.natAbs < 2 ^ 53) (hj : j ≤ 1074) (h : (dz a + dz b) * 2 ^ j ≤ k * U) : dz v * 2 ^ j ≤ k * U := by
  obtain ⟨V, fV, hV⟩ := repU k j hk hj
  have hp := p2_pos j
  rw [← hV] at h ⊢
  rw [← e]
  exact Int.mul_le_mul_of_nonneg_right (dadd_le fa fb fV.noNaN (Int.le_of_mul_le_mul_right h hp)) (Int.le_of_lt hp)
theorem add_ge {a b v : UInt64} (e : FP.dadd a b = v) (fa : Fin64 a) (fb : Fin64 b) (k : Int) (j : Nat) (hk : k.natAbs < 2 ^ 53) (hj : j ≤ 1074) (h : k * U ≤ (dz a + dz b) * 2 ^ j) : k * U ≤ dz v * 2 ^ j := by
  obtain ⟨V, fV, hV⟩ := repU k j hk hj
  have hp := p2_pos j
  rw [← hV] at h ⊢
  rw [← e]
  exact Int.mul_le_mul_of_nonneg_right (dadd_ge fa fb fV.noNaN (Int.le_of_mul_le_mul_right h hp)) (Int.le_of_lt hp)
theorem sub_le {a b v : UInt64} (e : FP.dsub a b = v) (fa : Fin64 a) (fb : Fin64 b) (k : Int) (j : Nat) (hk : k.natAbs < 2 ^ 53) (hj : j ≤ 1074) (h : (dz a - dz b) * 2 ^ j ≤ k * U) : dz v * 2 ^ j ≤ k * U := by
  obtain ⟨V, fV, hV⟩ := repU k j hk hj
  have hp := p2_pos j
  rw [← hV] at h ⊢
  rw [← e]
  exact Int.mul_le_mul_of_nonneg_right (dsub_le fa fb fV.noNaN (Int.le_of_mul_le_mul_right h hp)) (Int.le_of_lt hp)
theorem sub_ge {a b v : UInt64} (e : FP.dsub a b = v) (fa : Fin64 a) (fb : Fin64 b) (k : Int) (j : Nat) (hk : k.natAbs < 2 ^ 53) (hj : j ≤ 1074) (h : k * U ≤ (dz a - dz b) * 2 ^ j) : k * U ≤ dz v * 2 ^ j := by
  obtain ⟨V, fV, hV⟩ := repU k j hk hj
  have hp := p2_pos j
  rw [← hV] at h ⊢
  rw [← e]
  exact Int.mul_le_mul_of_nonneg_right (dsub_ge fa fb fV.noNaN (Int.le_of_mul_le_mul_right h hp)) (Int.le_of_lt hp)
/-- a sum, a difference of dyadics that is one of at most 53 digits is exact -/
theorem add_x {a b v : UInt64} (e : FP.dadd a b = v) (fa : Fin64 a) (fb : Fin64 b) (k : Int) (j : Nat) (hk : k.natAbs < 2 ^ 53) (hj : j ≤ 1074) (h : (dz a + dz b) * 2 ^ j = k * U) : Fin64 v ∧ dz v = dz a + dz b := by
  obtain ⟨V, fV, hV⟩ := repU k j hk hj
  exact dadd_x e fa fb fV (Int.eq_of_mul_eq_mul_right (by have := p2_pos j; omega) (h.trans hV.symm))
theorem sub_x {a b v : UInt64} (e : FP.dsub a b = v) (fa : Fin64 a) (fb : Fin64 b) (k : Int) (j : Nat) (hk : k.natAbs < 2 ^ 53) (hj : j ≤ 1074) (h : (dz a - dz b) * 2 ^ j = k * U) : Fin64 v ∧ dz v = dz a - dz b := by
  obtain ⟨V, fV, hV⟩ := repU k j hk hj
  exact dsub_x e fa fb fV (Int.eq_of_mul_eq_mul_right (by have := p2_pos j; omega) (h.trans hV.symm))
theorem quo_x {a b v : UInt64} {p q : Int} (e : FP.ddiv a b = v) (fa : Fin64 a) (fb : Fin64 b) (ha : dz a = p * U) (hb : dz b = q * U) (hq : 0 < q) (k : Int) (j : Nat) (hk : k.natAbs < 2 ^ 53) (hj : j ≤ 1074) (h : p * 2 ^ j = k * q) : Fin64 v ∧ dz v * 2 ^ j = k * U := by
  obtain ⟨V, fV, hV⟩ := repU k j hk hj
  have h1 := quo_le e fa fb ha hb hq k j hk hj (Int.le_of_eq h)
  have h2 := quo_ge e fa fb ha hb hq k j hk hj (Int.le_of_eq h.symm)
  have h3 : dz v * 2 ^ j = k * U := by omega
  have h4 : dz v = dz V := Int.eq_of_mul_eq_mul_right (by have := p2_pos j; omega) (h3.trans hV.symm)
  refine ⟨fin_of ?_ (by rw [h4]; exact fin_lt fV), h3⟩
  rw [← e]
  exact ddiv_nn fa fb (by rw [hb]; have := Int.mul_pos hq U_pos; omega)
theorem quo_nn {a b v : UInt64} {q : Int} (e : FP.ddiv a b = v) (fa : Fin64 a) (fb : Fin64 b) (hb : dz b = q * U) (hq : 0 < q) : NoNaN64 v := by
  rw [← e]; exact ddiv_nn fa fb (by rw [hb]; have := Int.mul_pos hq U_pos; omega)
end Jvm.Own
namespace Jvm.Own
open Jvm.FP Jvm.FP.Core Jvm.Free.Fl
theorem fin_2 : Fin64 4611686018427387904 := by unfold Fin64; decide
theorem nz_2 : Nz64 4611686018427387904 := by unfold Nz64; decide
theorem dz_2 : dz 4611686018427387904 = 2 * U := by
  have e : FP.dadd 4607182418800017408 4607182418800017408 = 4611686018427387904 := by decide +kernel
  have h := (add_x e fin_1 fin_1 2 0 (by decide) (by decide) (by rw [dz_1, Int.pow_zero]; omega)).2
  rw [h, dz_1]; omega
end Jvm.Own
namespace Jvm.Own
theorem ite_I {P : Prop} [Decidable P] {a b v : Int32} (e : (if P then a else b) = v) : (P → v.toInt = a.toInt) ∧ (¬ P → v.toInt = b.toInt) := by
  subst e; exact ⟨fun q => by rw [if_pos q], fun q => by rw [if_neg q]⟩
end Jvm.Own
namespace Jvm.Own
open Jvm.FP Jvm.FP.Core Jvm.Free.Fl
theorem add0 {a v : UInt64} (e : FP.dadd a 0 = v) (fa : Fin64 a) : Fin64 v ∧ dz v = dz a := by
  obtain ⟨h1, h2⟩ := dadd_x e fa fin_0 fa (by rw [dz_0]; omega)
  exact ⟨h1, by rw [h2, dz_0]; omega⟩
end Jvm.Own
namespace Jvm.Own
open Jvm.FP Jvm.FP.Core Jvm.Free.Fl
/-! a divisor below nought -/
theorem ddiv_leN {a b V : UInt64} (fa : Fin64 a) (fb : Fin64 b) (hb : dz b < 0) (nV : NoNaN64 V) (h : dz V * dz b ≤ dz a * U) : dz (FP.ddiv a b) ≤ dz V := by
  obtain ⟨h1, h2, h3⟩ := ddiv_zm fa fb (by omega)
  have h2 := h2 V nV
  have h3 := h3 V
  have hU : U = (one64 : Int) := rfl
  rw [dz_def (FP.ddiv a b), h1]
  rw [hU] at h
  rw [dz_def V] at h ⊢
  rw [dz_def a] at h
  rw [dz_def b] at h hb
  have p1 := one64_pos
  generalize zmag b64 (val64 (FP.ddiv a b)) = R at *
  generalize zmag b64 (val64 V) = v at *
  generalize zmag b64 (val64 a) = x at *
  generalize zmag b64 (val64 b) = y at *
  generalize sgn (val64 a) = sa at *
  generalize sgn (val64 b) = sb at *
  generalize sgn (val64 V) = sv at *
  cases sb with
  | false => simp only [signed, Bool.false_eq_true, if_false] at hb; omega
  | true =>
    simp only [signed, if_true] at hb
    change signed sv v * (-(y : Int)) ≤ signed sa x * (one64 : Int) at h
    change signed (sa != true) R ≤ signed sv v
    have key : signed sv v * (y : Int) = signed sv (v * y) := (signed_mul sv v y).symm
    have key2 : signed sa x * (one64 : Int) = signed sa (x * one64) := (signed_mul sa x one64).symm
    have yp : 0 < y := by omega
    rw [Int.mul_neg, key, key2] at h
    have z2 : v * y = 0 → v = 0 := fun e => (Nat.mul_eq_zero.mp e).resolve_right (by omega)
    have z3 : v = 0 → v * y = 0 := fun e => by rw [e, Nat.zero_mul]
    have z4 : x = 0 → x * one64 = 0 := fun e => by rw [e, Nat.zero_mul]
    generalize v * y = vy at *
    generalize x * one64 = xo at *
    cases sa <;> cases sv <;> simp only [signed, Bool.bne_true, Bool.not_false, Bool.not_true, Bool.false_eq_true, if_true, if_false] at h ⊢
    · omega
    · have := h3 (by omega); omega
    · have := h2 (by omega); omega
    · have := h2 (by omega); omega
theorem ddiv_geN {a b V : UInt64} (fa : Fin64 a) (fb : Fin64 b) (hb : dz b < 0) (nV : NoNaN64 V) (h : dz a * U ≤ dz V * dz b) : dz V ≤ dz (FP.ddiv a b) := by
  obtain ⟨h1, h2, h3⟩ := ddiv_zm fa fb (by omega)
  have h2 := h2 V nV
  have h3 := h3 V
  have hU : U = (one64 : Int) := rfl
  rw [dz_def (FP.ddiv a b), h1]
  rw [hU] at h
  rw [dz_def V] at h ⊢
  rw [dz_def a] at h
  rw [dz_def b] at h hb
  have p1 := one64_pos
  generalize zmag b64 (val64 (FP.ddiv a b)) = R at *
  generalize zmag b64 (val64 V) = v at *
  generalize zmag b64 (val64 a) = x at *
  generalize zmag b64 (val64 b) = y at *
  generalize sgn (val64 a) = sa at *
  generalize sgn (val64 b) = sb at *
  generalize sgn (val64 V) = sv at *
  cases sb with
  | false => simp only [signed, Bool.false_eq_true, if_false] at hb; omega
  | true =>
    simp only [signed, if_true] at hb
    change signed sa x * (one64 : Int) ≤ signed sv v * (-(y : Int)) at h
    change signed sv v ≤ signed (sa != true) R
    have key : signed sv v * (y : Int) = signed sv (v * y) := (signed_mul sv v y).symm
    have key2 : signed sa x * (one64 : Int) = signed sa (x * one64) := (signed_mul sa x one64).symm
    have yp : 0 < y := by omega
    rw [Int.mul_neg, key, key2] at h
    have z2 : v * y = 0 → v = 0 := fun e => (Nat.mul_eq_zero.mp e).resolve_right (by omega)
    have z3 : v = 0 → v * y = 0 := fun e => by rw [e, Nat.zero_mul]
    have z4 : x = 0 → x * one64 = 0 := fun e => by rw [e, Nat.zero_mul]
    generalize v * y = vy at *
    generalize x * one64 = xo at *
    cases sa <;> cases sv <;> simp only [signed, Bool.bne_true, Bool.not_false, Bool.not_true, Bool.false_eq_true, if_true, if_false] at h ⊢
    · have := h2 (by omega); omega
    · have := h2 (by omega); omega
    · have := h3 (by omega); omega
    · omega
/-- a whole number's multiple, divided by it -/
theorem ddiv_mul {a b v : UInt64} {m q : Int} (e : FP.ddiv a b = v) (fa : Fin64 a) (fb : Fin64 b) (ha : dz a = m * q * U) (hb : dz b = q * U) (hq : q ≠ 0) (hm : m.natAbs < 2 ^ 53) : NoNaN64 v ∧ dz v = m * U := by
  obtain ⟨V, fV, hV⟩ := repU m 0 hm (by decide)
  rw [Int.pow_zero, Int.mul_one] at hV
  have hU := U_pos
  have k1 : dz a * U = dz V * dz b := by rw [ha, hb, hV]; generalize U = u; ac_rfl
  have hbz : dz b ≠ 0 := by rw [hb]; intro z; rcases Int.mul_eq_zero.mp z with z | z <;> omega
  subst e
  refine ⟨ddiv_nn fa fb hbz, ?_⟩
  rw [← hV]
  rcases Int.lt_or_gt_of_ne hbz with z | z
  · exact Int.le_antisymm (ddiv_leN fa fb z fV.noNaN (Int.le_of_eq k1.symm)) (ddiv_geN fa fb z fV.noNaN (Int.le_of_eq k1))
  · exact Int.le_antisymm (ddiv_le fa fb z fV.noNaN (Int.le_of_eq k1)) (ddiv_ge fa fb z fV.noNaN (Int.le_of_eq k1.symm))
end Jvm.Own
namespace Jvm.Own
open Jvm.FP Jvm.FP.Core Jvm.Free.Fl
theorem abs_max {u : UInt64} (h : Fin64 u) : dz (u &&& 0x7fffffffffffffff) ≤ dz 9218868437227405311 :=
  (dcmp_le.mp ((le_max (noNaN64_no.mp h.noNaN)).mpr (fin64_core.mp h))).2.2
end Jvm.Own
namespace Jvm.Own
open Jvm.FP Jvm.FP.Core Jvm.Free.Fl
/-- finite, and of a magnitude of at most A -/
def Bd (x : UInt64) (A : Int) : Prop := Fin64 x ∧ -(A * U) ≤ dz x ∧ dz x ≤ A * U
theorem Bd.fin {x : UInt64} {A : Int} (h : Bd x A) : Fin64 x := h.1
theorem big_U {A : Int} (h : A.natAbs < 2 ^ 53) : A * U ≤ 2 ^ 1000 * U ∧ -(2 ^ 1000 * U) ≤ A * U := by
  have z : (2 : Int) ^ 53 ≤ 2 ^ 1000 := by
    have h1 := Nat.pow_le_pow_right (n := 2) (by decide) (show 53 ≤ 1000 by decide)
    have e1 : ((2 ^ 53 : Nat) : Int) = 2 ^ 53 := Int.natCast_pow 2 53
    have e2 : ((2 ^ 1000 : Nat) : Int) = 2 ^ 1000 := Int.natCast_pow 2 1000
    rw [← e1, ← e2]; exact Int.ofNat_le.mpr h1
  have e : (2 : Int) ^ 53 = 9007199254740992 := by decide
  have hU := U_pos
  have a1 : A * U ≤ 2 ^ 1000 * U := Int.mul_le_mul_of_nonneg_right (by omega) (Int.le_of_lt hU)
  have a2 : (-(2 ^ 1000)) * U ≤ A * U := Int.mul_le_mul_of_nonneg_right (by omega) (Int.le_of_lt hU)
  rw [Int.neg_mul] at a2
  exact ⟨a1, a2⟩
theorem Bd.int {x : UInt64} {i A : Int} (f : Fin64 x) (z : dz x = i * U) (h1 : -A ≤ i) (h2 : i ≤ A) : Bd x A := by
  have hU := U_pos
  have a1 : i * U ≤ A * U := Int.mul_le_mul_of_nonneg_right h2 (Int.le_of_lt hU)
  have a2 : (-A) * U ≤ i * U := Int.mul_le_mul_of_nonneg_right h1 (Int.le_of_lt hU)
  rw [Int.neg_mul] at a2
  exact ⟨f, by omega, by omega⟩
theorem Bd.add {a b v : UInt64} {A B : Int} (e : FP.dadd a b = v) (ha : Bd a A) (hb : Bd b B) (h : (A + B).natAbs < 2 ^ 53) : Bd v (A + B) := by
  obtain ⟨fa, a1, a2⟩ := ha
  obtain ⟨fb, b1, b2⟩ := hb
  have h1 := add_le e fa fb (A + B) 0 h (by decide) (by rw [Int.pow_zero, Int.mul_one, Int.add_mul]; omega)
  have h2 := add_ge e fa fb (-(A + B)) 0 (by omega) (by decide) (by rw [Int.pow_zero, Int.mul_one, Int.neg_mul, Int.add_mul]; omega)
  rw [Int.pow_zero, Int.mul_one] at h1 h2
  rw [Int.neg_mul] at h2
  have := big_U h
  exact ⟨fin_bd (e ▸ dadd_out fa.noNaN fb) (by omega) (by omega), h2, h1⟩
theorem Bd.sub {a b v : UInt64} {A B : Int} (e : FP.dsub a b = v) (ha : Bd a A) (hb : Bd b B) (h : (A + B).natAbs < 2 ^ 53) : Bd v (A + B) := by
  obtain ⟨fa, a1, a2⟩ := ha
  obtain ⟨fb, b1, b2⟩ := hb
  have h1 := sub_le e fa fb (A + B) 0 h (by decide) (by rw [Int.pow_zero, Int.mul_one, Int.add_mul]; omega)
  have h2 := sub_ge e fa fb (-(A + B)) 0 (by omega) (by decide) (by rw [Int.pow_zero, Int.mul_one, Int.neg_mul, Int.add_mul]; omega)
  rw [Int.pow_zero, Int.mul_one] at h1 h2
  rw [Int.neg_mul] at h2
  have := big_U h
  exact ⟨fin_bd (e ▸ dsub_out fa.noNaN fb) (by omega) (by omega), h2, h1⟩
theorem Bd.mono {x : UInt64} {A B : Int} (h : Bd x A) (q : A ≤ B) : Bd x B := by
  have a1 : A * U ≤ B * U := Int.mul_le_mul_of_nonneg_right q (Int.le_of_lt U_pos)
  exact ⟨h.1, by have := h.2.1; omega, by have := h.2.2; omega⟩
theorem Bd.i2d {x : Int32} {v : UInt64} (e : FP.i2d x = v) : Bd v 2147483648 := by
  obtain ⟨f, z⟩ := i2d_v e
  have h1 := Int32.le_toInt x
  have h2 := Int32.toInt_lt x
  exact Bd.int f z (by omega) (by omega)
end Jvm.Own
namespace Jvm.Own
open Jvm.FP Jvm.FP.Core Jvm.Free.Fl
theorem mul_le' {a b v : UInt64} (e : FP.dmul a b = v) (fa : Fin64 a) (fb : Fin64 b) (k : Int) (hk : k.natAbs < 2 ^ 53) (h : dz a * dz b ≤ k * U * U) : dz v ≤ k * U := by
  obtain ⟨V, fV, hV⟩ := repU k 0 hk (by decide)
  rw [Int.pow_zero, Int.mul_one] at hV
  rw [← hV, ← e]
  exact dmul_le fa fb fV.noNaN (by rw [hV]; exact h)
theorem mul_ge' {a b v : UInt64} (e : FP.dmul a b = v) (fa : Fin64 a) (fb : Fin64 b) (k : Int) (hk : k.natAbs < 2 ^ 53) (h : k * U * U ≤ dz a * dz b) : k * U ≤ dz v := by
  obtain ⟨V, fV, hV⟩ := repU k 0 hk (by decide)
  rw [Int.pow_zero, Int.mul_one] at hV
  rw [← hV, ← e]
  exact dmul_ge fa fb fV.noNaN (by rw [hV]; exact h)
theorem abs_mul_le {x y A B : Int} (h1 : -A ≤ x) (h2 : x ≤ A) (h3 : -B ≤ y) (h4 : y ≤ B) : -(A * B) ≤ x * y ∧ x * y ≤ A * B := by
  have e : (x * y).natAbs = x.natAbs * y.natAbs := Int.natAbs_mul x y
  have e2 : x.natAbs * y.natAbs ≤ A.natAbs * B.natAbs := Nat.mul_le_mul (by omega) (by omega)
  have e3 : (A * B).natAbs = A.natAbs * B.natAbs := Int.natAbs_mul A B
  have e4 : 0 ≤ A * B := Int.mul_nonneg (by omega) (by omega)
  omega
theorem Bd.mul {a b v : UInt64} {A B : Int} (e : FP.dmul a b = v) (ha : Bd a A) (hb : Bd b B) (h : (A * B).natAbs < 2 ^ 53) : Bd v (A * B) := by
  obtain ⟨fa, a1, a2⟩ := ha
  obtain ⟨fb, b1, b2⟩ := hb
  obtain ⟨q1, q2⟩ := abs_mul_le a1 a2 b1 b2
  have r1 : A * U * (B * U) = A * B * U * U := by generalize U = u; ac_rfl
  rw [r1] at q1 q2
  have h1 := mul_le' e fa fb (A * B) h q2
  have h2 := mul_ge' e fa fb (-(A * B)) (by omega) (by rw [Int.neg_mul, Int.neg_mul]; exact q1)
  rw [Int.neg_mul] at h2
  have := big_U h
  exact ⟨fin_bd (e ▸ dmul_out fa fb) (by omega) (by omega), h2, h1⟩
end Jvm.Own

namespace Jvm.Pilot.@@N@@
open Jvm Jvm.ClassFile Sem Op Lib Jvm.Free Jvm.Stand Jvm.LawKit Jvm.RoadKit Bundle Jvm.Free.Fl Jvm.Pilot.@@N@@.Jvm.D
abbrev mn_0 : MethodName := (⟨"java/lang/Math", "min", "(II)I"⟩ : MethodName)
theorem pn_com_example_allocus_allocus_method_Population : plainName "com/example/allocus/allocus/method/Population" = true := by first | (simp [plainName, overriddenIn]; done) | decide +kernel
abbrev mn_1 : MethodName := (⟨"com/example/allocus/allocus/method/Population", "<init>", "(II)V"⟩ : MethodName)
abbrev mn_2 : MethodName := (⟨"com/example/allocus/allocus/method/Population", "put", "(I[ID)V"⟩ : MethodName)
theorem pd_3 : parseMethodDescriptor "(I[ID)V" = some ⟨[.int, (.array .int), .double], none⟩ := by decide +kernel
abbrev mn_4 : MethodName := (⟨"com/example/allocus/allocus/method/Population", "add", "([ID)V"⟩ : MethodName)
abbrev mn_5 : MethodName := (⟨"com/example/allocus/allocus/method/Population", "count", "()I"⟩ : MethodName)
abbrev mn_6 : MethodName := (⟨"com/example/allocus/allocus/method/Population", "bestObjective", "()D"⟩ : MethodName)
abbrev mn_7 : MethodName := (⟨"com/example/allocus/allocus/method/Population", "best", "()[I"⟩ : MethodName)
abbrev mn_8 : MethodName := (⟨"com/example/allocus/allocus/method/Population", "plan", "(I)[I"⟩ : MethodName)
abbrev mn_9 : MethodName := (⟨"com/example/allocus/allocus/method/Population", "isMember", "([ID)Z"⟩ : MethodName)
theorem pd_10 : parseMethodDescriptor "([ID)Z" = some ⟨[(.array .int), .double], some .boolean⟩ := by decide +kernel
abbrev mn_11 : MethodName := (⟨"com/example/allocus/allocus/method/Population", "offer", "([ID)Z"⟩ : MethodName)
theorem pn_com_example_allocus_allocus_method_PopulationAddPinLaw : plainName "com/example/allocus/allocus/method/PopulationAddPinLaw" = true := by first | (simp [plainName, overriddenIn]; done) | decide +kernel
abbrev mn_12 : MethodName := (⟨"com/example/allocus/allocus/method/PopulationAddPinLaw", "sites", "(I)[I"⟩ : MethodName)
abbrev mn_13 : MethodName := (⟨"com/example/allocus/allocus/method/PopulationAddPinLaw", "holds", "([II)Z"⟩ : MethodName)
theorem pd_14 : parseMethodDescriptor "(I)[I" = some ⟨[.int], some (.array .int)⟩ := by decide +kernel
theorem pd_15 : parseMethodDescriptor "(II)I" = some ⟨[.int, .int], some .int⟩ := by decide +kernel
theorem pd_16 : parseMethodDescriptor "(II)V" = some ⟨[.int, .int], none⟩ := by decide +kernel
theorem pd_17 : parseMethodDescriptor "([ID)V" = some ⟨[(.array .int), .double], none⟩ := by decide +kernel
theorem pd_18 : parseMethodDescriptor "()I" = some ⟨[], some .int⟩ := by decide +kernel
theorem pd_19 : parseMethodDescriptor "()D" = some ⟨[], some .double⟩ := by decide +kernel
theorem pd_20 : parseMethodDescriptor "()[I" = some ⟨[], some (.array .int)⟩ := by decide +kernel
theorem pd_21 : parseMethodDescriptor "([II)Z" = some ⟨[(.array .int), .int], some .boolean⟩ := by decide +kernel
theorem d2_0 : decode jdk_29_method_69_code 0 = .ok (.iload_n 0, 1) := by decide +kernel
theorem d2_1 : decode jdk_29_method_69_code 1 = .ok (.iload_n 1, 1) := by decide +kernel
theorem d2_2 : decode jdk_29_method_69_code 2 = .ok (.if_icmp .gt 7, 3) := by decide +kernel
theorem d2_9 : decode jdk_29_method_69_code 9 = .ok (.iload_n 1, 1) := by decide +kernel
theorem d2_5 : decode jdk_29_method_69_code 5 = .ok (.iload_n 0, 1) := by decide +kernel
theorem d2_6 : decode jdk_29_method_69_code 6 = .ok (.goto 4, 3) := by decide +kernel
theorem d2_10 : decode jdk_29_method_69_code 10 = .ok (.ireturn, 1) := by decide +kernel
theorem d3_0 : decode prog_48_method_1_code 0 = .ok (.aload_n 0, 1) := by decide +kernel
theorem d3_1 : decode prog_48_method_1_code 1 = .ok (.invokespecial 1, 3) := by decide +kernel
theorem d3_4 : decode prog_48_method_1_code 4 = .ok (.aload_n 0, 1) := by decide +kernel
theorem d3_5 : decode prog_48_method_1_code 5 = .ok (.iload_n 1, 1) := by decide +kernel
theorem d3_6 : decode prog_48_method_1_code 6 = .ok (.iload_n 2, 1) := by decide +kernel
theorem d3_7 : decode prog_48_method_1_code 7 = .ok (.multianewarray 7 2, 4) := by decide +kernel
theorem d3_11 : decode prog_48_method_1_code 11 = .ok (.putfield 9, 3) := by decide +kernel
theorem d3_14 : decode prog_48_method_1_code 14 = .ok (.aload_n 0, 1) := by decide +kernel
theorem d3_15 : decode prog_48_method_1_code 15 = .ok (.iload_n 1, 1) := by decide +kernel
theorem d3_16 : decode prog_48_method_1_code 16 = .ok (.newarray .double, 2) := by decide +kernel
theorem d3_18 : decode prog_48_method_1_code 18 = .ok (.putfield 14, 3) := by decide +kernel
theorem d3_21 : decode prog_48_method_1_code 21 = .ok (.aload_n 0, 1) := by decide +kernel
theorem d3_22 : decode prog_48_method_1_code 22 = .ok (.iload_n 1, 1) := by decide +kernel
theorem d3_23 : decode prog_48_method_1_code 23 = .ok (.newarray .long, 2) := by decide +kernel
theorem d3_25 : decode prog_48_method_1_code 25 = .ok (.putfield 18, 3) := by decide +kernel
theorem d3_28 : decode prog_48_method_1_code 28 = .ok (.return_, 1) := by decide +kernel
theorem d6_0 : decode prog_48_method_10_code 0 = .ok (.aload_n 2, 1) := by decide +kernel
theorem d6_1 : decode prog_48_method_10_code 1 = .ok (.iconst 0, 1) := by decide +kernel
theorem d6_2 : decode prog_48_method_10_code 2 = .ok (.aload_n 0, 1) := by decide +kernel
theorem d6_3 : decode prog_48_method_10_code 3 = .ok (.getfield 9, 3) := by decide +kernel
theorem d6_6 : decode prog_48_method_10_code 6 = .ok (.iload_n 1, 1) := by decide +kernel
theorem d6_7 : decode prog_48_method_10_code 7 = .ok (.aaload, 1) := by decide +kernel
theorem d6_8 : decode prog_48_method_10_code 8 = .ok (.iconst 0, 1) := by decide +kernel
theorem d6_9 : decode prog_48_method_10_code 9 = .ok (.aload_n 2, 1) := by decide +kernel
theorem d6_10 : decode prog_48_method_10_code 10 = .ok (.arraylength, 1) := by decide +kernel
theorem d6_11 : decode prog_48_method_10_code 11 = .ok (.invokestatic 46, 3) := by decide +kernel
theorem d6_14 : decode prog_48_method_10_code 14 = .ok (.aload_n 0, 1) := by decide +kernel
theorem d6_15 : decode prog_48_method_10_code 15 = .ok (.getfield 14, 3) := by decide +kernel
theorem d6_18 : decode prog_48_method_10_code 18 = .ok (.iload_n 1, 1) := by decide +kernel
theorem d6_19 : decode prog_48_method_10_code 19 = .ok (.dload_n 3, 1) := by decide +kernel
theorem d6_20 : decode prog_48_method_10_code 20 = .ok (.dastore, 1) := by decide +kernel
theorem d6_21 : decode prog_48_method_10_code 21 = .ok (.aload_n 0, 1) := by decide +kernel
theorem d6_22 : decode prog_48_method_10_code 22 = .ok (.getfield 18, 3) := by decide +kernel
theorem d6_25 : decode prog_48_method_10_code 25 = .ok (.iload_n 1, 1) := by decide +kernel
theorem d6_26 : decode prog_48_method_10_code 26 = .ok (.aload_n 0, 1) := by decide +kernel
theorem d6_27 : decode prog_48_method_10_code 27 = .ok (.getfield 52, 3) := by decide +kernel
theorem d6_30 : decode prog_48_method_10_code 30 = .ok (.lastore, 1) := by decide +kernel
theorem d6_31 : decode prog_48_method_10_code 31 = .ok (.aload_n 0, 1) := by decide +kernel
theorem d6_32 : decode prog_48_method_10_code 32 = .ok (.dup, 1) := by decide +kernel
theorem d6_33 : decode prog_48_method_10_code 33 = .ok (.getfield 52, 3) := by decide +kernel
theorem d6_36 : decode prog_48_method_10_code 36 = .ok (.lconst 1, 1) := by decide +kernel
theorem d6_37 : decode prog_48_method_10_code 37 = .ok (.ladd, 1) := by decide +kernel
theorem d6_38 : decode prog_48_method_10_code 38 = .ok (.putfield 52, 3) := by decide +kernel
theorem d6_41 : decode prog_48_method_10_code 41 = .ok (.return_, 1) := by decide +kernel
theorem d5_0 : decode prog_48_method_5_code 0 = .ok (.aload_n 0, 1) := by decide +kernel
theorem d5_1 : decode prog_48_method_5_code 1 = .ok (.getfield 22, 3) := by decide +kernel
theorem d5_4 : decode prog_48_method_5_code 4 = .ok (.istore 4, 2) := by decide +kernel
theorem d5_6 : decode prog_48_method_5_code 6 = .ok (.aload_n 0, 1) := by decide +kernel
theorem d5_7 : decode prog_48_method_5_code 7 = .ok (.dup, 1) := by decide +kernel
theorem d5_8 : decode prog_48_method_5_code 8 = .ok (.getfield 22, 3) := by decide +kernel
theorem d5_11 : decode prog_48_method_5_code 11 = .ok (.iconst 1, 1) := by decide +kernel
theorem d5_12 : decode prog_48_method_5_code 12 = .ok (.iadd, 1) := by decide +kernel
theorem d5_13 : decode prog_48_method_5_code 13 = .ok (.putfield 22, 3) := by decide +kernel
theorem d5_16 : decode prog_48_method_5_code 16 = .ok (.aload_n 0, 1) := by decide +kernel
theorem d5_17 : decode prog_48_method_5_code 17 = .ok (.iload 4, 2) := by decide +kernel
theorem d5_19 : decode prog_48_method_5_code 19 = .ok (.aload_n 1, 1) := by decide +kernel
theorem d5_20 : decode prog_48_method_5_code 20 = .ok (.dload_n 2, 1) := by decide +kernel
theorem d5_21 : decode prog_48_method_5_code 21 = .ok (.invokevirtual 26, 3) := by decide +kernel
theorem d5_24 : decode prog_48_method_5_code 24 = .ok (.iload 4, 2) := by decide +kernel
theorem d5_26 : decode prog_48_method_5_code 26 = .ok (.ifCond .eq 17, 3) := by decide +kernel
theorem d5_43 : decode prog_48_method_5_code 43 = .ok (.aload_n 0, 1) := by decide +kernel
theorem d5_44 : decode prog_48_method_5_code 44 = .ok (.iload 4, 2) := by decide +kernel
theorem d5_46 : decode prog_48_method_5_code 46 = .ok (.putfield 30, 3) := by decide +kernel
theorem d5_49 : decode prog_48_method_5_code 49 = .ok (.iload 4, 2) := by decide +kernel
theorem d5_51 : decode prog_48_method_5_code 51 = .ok (.ifCond .eq 17, 3) := by decide +kernel
theorem d5_68 : decode prog_48_method_5_code 68 = .ok (.aload_n 0, 1) := by decide +kernel
theorem d5_69 : decode prog_48_method_5_code 69 = .ok (.iload 4, 2) := by decide +kernel
theorem d5_71 : decode prog_48_method_5_code 71 = .ok (.putfield 33, 3) := by decide +kernel
theorem d5_74 : decode prog_48_method_5_code 74 = .ok (.return_, 1) := by decide +kernel
theorem d5_29 : decode prog_48_method_5_code 29 = .ok (.dload_n 2, 1) := by decide +kernel
theorem d5_30 : decode prog_48_method_5_code 30 = .ok (.aload_n 0, 1) := by decide +kernel
theorem d5_31 : decode prog_48_method_5_code 31 = .ok (.getfield 14, 3) := by decide +kernel
theorem d5_34 : decode prog_48_method_5_code 34 = .ok (.aload_n 0, 1) := by decide +kernel
theorem d5_35 : decode prog_48_method_5_code 35 = .ok (.getfield 30, 3) := by decide +kernel
theorem d5_38 : decode prog_48_method_5_code 38 = .ok (.daload, 1) := by decide +kernel
theorem d5_39 : decode prog_48_method_5_code 39 = .ok (.dcmp .l, 1) := by decide +kernel
theorem d5_40 : decode prog_48_method_5_code 40 = .ok (.ifCond .le 9, 3) := by decide +kernel
theorem d5_54 : decode prog_48_method_5_code 54 = .ok (.dload_n 2, 1) := by decide +kernel
theorem d5_55 : decode prog_48_method_5_code 55 = .ok (.aload_n 0, 1) := by decide +kernel
theorem d5_56 : decode prog_48_method_5_code 56 = .ok (.getfield 14, 3) := by decide +kernel
theorem d5_59 : decode prog_48_method_5_code 59 = .ok (.aload_n 0, 1) := by decide +kernel
theorem d5_60 : decode prog_48_method_5_code 60 = .ok (.getfield 33, 3) := by decide +kernel
theorem d5_63 : decode prog_48_method_5_code 63 = .ok (.daload, 1) := by decide +kernel
theorem d5_64 : decode prog_48_method_5_code 64 = .ok (.dcmp .g, 1) := by decide +kernel
theorem d5_65 : decode prog_48_method_5_code 65 = .ok (.ifCond .ge 9, 3) := by decide +kernel
theorem d7_0 : decode prog_48_method_4_code 0 = .ok (.aload_n 0, 1) := by decide +kernel
theorem d7_1 : decode prog_48_method_4_code 1 = .ok (.getfield 22, 3) := by decide +kernel
theorem d7_4 : decode prog_48_method_4_code 4 = .ok (.ireturn, 1) := by decide +kernel
theorem d8_0 : decode prog_48_method_9_code 0 = .ok (.aload_n 0, 1) := by decide +kernel
theorem d8_1 : decode prog_48_method_9_code 1 = .ok (.getfield 14, 3) := by decide +kernel
theorem d8_4 : decode prog_48_method_9_code 4 = .ok (.aload_n 0, 1) := by decide +kernel
theorem d8_5 : decode prog_48_method_9_code 5 = .ok (.getfield 33, 3) := by decide +kernel
theorem d8_8 : decode prog_48_method_9_code 8 = .ok (.daload, 1) := by decide +kernel
theorem d8_9 : decode prog_48_method_9_code 9 = .ok (.dreturn, 1) := by decide +kernel
theorem d9_0 : decode prog_48_method_8_code 0 = .ok (.aload_n 0, 1) := by decide +kernel
theorem d9_1 : decode prog_48_method_8_code 1 = .ok (.getfield 9, 3) := by decide +kernel
theorem d9_4 : decode prog_48_method_8_code 4 = .ok (.aload_n 0, 1) := by decide +kernel
theorem d9_5 : decode prog_48_method_8_code 5 = .ok (.getfield 33, 3) := by decide +kernel
theorem d9_8 : decode prog_48_method_8_code 8 = .ok (.aaload, 1) := by decide +kernel
theorem d9_9 : decode prog_48_method_8_code 9 = .ok (.invokevirtual 40, 3) := by decide +kernel
theorem d9_12 : decode prog_48_method_8_code 12 = .ok (.checkcast 41, 3) := by decide +kernel
theorem d9_15 : decode prog_48_method_8_code 15 = .ok (.areturn, 1) := by decide +kernel
theorem d13_0 : decode prog_48_method_7_code 0 = .ok (.aload_n 0, 1) := by decide +kernel
theorem d13_1 : decode prog_48_method_7_code 1 = .ok (.getfield 9, 3) := by decide +kernel
theorem d13_4 : decode prog_48_method_7_code 4 = .ok (.iload_n 1, 1) := by decide +kernel
theorem d13_5 : decode prog_48_method_7_code 5 = .ok (.aaload, 1) := by decide +kernel
theorem d13_6 : decode prog_48_method_7_code 6 = .ok (.areturn, 1) := by decide +kernel
theorem d12_0 : decode prog_48_method_11_code 0 = .ok (.iconst 0, 1) := by decide +kernel
theorem d12_1 : decode prog_48_method_11_code 1 = .ok (.istore 4, 2) := by decide +kernel
theorem d12_3 : decode prog_48_method_11_code 3 = .ok (.iload 4, 2) := by decide +kernel
theorem d12_5 : decode prog_48_method_11_code 5 = .ok (.aload_n 0, 1) := by decide +kernel
theorem d12_6 : decode prog_48_method_11_code 6 = .ok (.getfield 22, 3) := by decide +kernel
theorem d12_9 : decode prog_48_method_11_code 9 = .ok (.if_icmp .ge 37, 3) := by decide +kernel
theorem d12_12 : decode prog_48_method_11_code 12 = .ok (.aload_n 0, 1) := by decide +kernel
theorem d12_13 : decode prog_48_method_11_code 13 = .ok (.getfield 14, 3) := by decide +kernel
theorem d12_16 : decode prog_48_method_11_code 16 = .ok (.iload 4, 2) := by decide +kernel
theorem d12_18 : decode prog_48_method_11_code 18 = .ok (.daload, 1) := by decide +kernel
theorem d12_19 : decode prog_48_method_11_code 19 = .ok (.dload_n 2, 1) := by decide +kernel
theorem d12_20 : decode prog_48_method_11_code 20 = .ok (.dcmp .l, 1) := by decide +kernel
theorem d12_21 : decode prog_48_method_11_code 21 = .ok (.ifCond .ne 19, 3) := by decide +kernel
theorem d12_40 : decode prog_48_method_11_code 40 = .ok (.iinc 4 1, 3) := by decide +kernel
theorem d12_43 : decode prog_48_method_11_code 43 = .ok (.goto (-40), 3) := by decide +kernel
theorem d12_46 : decode prog_48_method_11_code 46 = .ok (.iconst 0, 1) := by decide +kernel
theorem d12_47 : decode prog_48_method_11_code 47 = .ok (.ireturn, 1) := by decide +kernel
theorem d11_0 : decode prog_48_method_6_code 0 = .ok (.dload_n 2, 1) := by decide +kernel
theorem d11_1 : decode prog_48_method_6_code 1 = .ok (.aload_n 0, 1) := by decide +kernel
theorem d11_2 : decode prog_48_method_6_code 2 = .ok (.getfield 14, 3) := by decide +kernel
theorem d11_5 : decode prog_48_method_6_code 5 = .ok (.aload_n 0, 1) := by decide +kernel
theorem d11_6 : decode prog_48_method_6_code 6 = .ok (.getfield 30, 3) := by decide +kernel
theorem d11_9 : decode prog_48_method_6_code 9 = .ok (.daload, 1) := by decide +kernel
theorem d11_10 : decode prog_48_method_6_code 10 = .ok (.dcmp .g, 1) := by decide +kernel
theorem d11_11 : decode prog_48_method_6_code 11 = .ok (.ifCond .ge 12, 3) := by decide +kernel
theorem d11_14 : decode prog_48_method_6_code 14 = .ok (.aload_n 0, 1) := by decide +kernel
theorem d11_15 : decode prog_48_method_6_code 15 = .ok (.aload_n 1, 1) := by decide +kernel
theorem d11_16 : decode prog_48_method_6_code 16 = .ok (.dload_n 2, 1) := by decide +kernel
theorem d11_17 : decode prog_48_method_6_code 17 = .ok (.invokevirtual 36, 3) := by decide +kernel
theorem d11_20 : decode prog_48_method_6_code 20 = .ok (.ifCond .eq 5, 3) := by decide +kernel
theorem d11_25 : decode prog_48_method_6_code 25 = .ok (.dload_n 2, 1) := by decide +kernel
theorem d11_26 : decode prog_48_method_6_code 26 = .ok (.aload_n 0, 1) := by decide +kernel
theorem d11_27 : decode prog_48_method_6_code 27 = .ok (.getfield 14, 3) := by decide +kernel
theorem d11_30 : decode prog_48_method_6_code 30 = .ok (.aload_n 0, 1) := by decide +kernel
theorem d11_31 : decode prog_48_method_6_code 31 = .ok (.getfield 33, 3) := by decide +kernel
theorem d11_34 : decode prog_48_method_6_code 34 = .ok (.daload, 1) := by decide +kernel
theorem d11_35 : decode prog_48_method_6_code 35 = .ok (.dcmp .g, 1) := by decide +kernel
theorem d11_36 : decode prog_48_method_6_code 36 = .ok (.ifCond .ge 7, 3) := by decide +kernel
theorem d11_39 : decode prog_48_method_6_code 39 = .ok (.iconst 1, 1) := by decide +kernel
theorem d11_40 : decode prog_48_method_6_code 40 = .ok (.goto 4, 3) := by decide +kernel
theorem d11_44 : decode prog_48_method_6_code 44 = .ok (.istore 4, 2) := by decide +kernel
theorem d11_46 : decode prog_48_method_6_code 46 = .ok (.aload_n 0, 1) := by decide +kernel
theorem d11_47 : decode prog_48_method_6_code 47 = .ok (.getfield 30, 3) := by decide +kernel
theorem d11_50 : decode prog_48_method_6_code 50 = .ok (.istore 5, 2) := by decide +kernel
theorem d11_52 : decode prog_48_method_6_code 52 = .ok (.aload_n 0, 1) := by decide +kernel
theorem d11_53 : decode prog_48_method_6_code 53 = .ok (.iload 5, 2) := by decide +kernel
theorem d11_55 : decode prog_48_method_6_code 55 = .ok (.aload_n 1, 1) := by decide +kernel
theorem d11_56 : decode prog_48_method_6_code 56 = .ok (.dload_n 2, 1) := by decide +kernel
theorem d11_57 : decode prog_48_method_6_code 57 = .ok (.invokevirtual 26, 3) := by decide +kernel
theorem d11_60 : decode prog_48_method_6_code 60 = .ok (.iload 4, 2) := by decide +kernel
theorem d11_62 : decode prog_48_method_6_code 62 = .ok (.ifCond .eq 9, 3) := by decide +kernel
theorem d11_65 : decode prog_48_method_6_code 65 = .ok (.aload_n 0, 1) := by decide +kernel
theorem d11_66 : decode prog_48_method_6_code 66 = .ok (.iload 5, 2) := by decide +kernel
theorem d11_68 : decode prog_48_method_6_code 68 = .ok (.putfield 33, 3) := by decide +kernel
theorem d11_71 : decode prog_48_method_6_code 71 = .ok (.aload_n 0, 1) := by decide +kernel
theorem d11_72 : decode prog_48_method_6_code 72 = .ok (.iconst 0, 1) := by decide +kernel
theorem d11_73 : decode prog_48_method_6_code 73 = .ok (.putfield 30, 3) := by decide +kernel
theorem d11_76 : decode prog_48_method_6_code 76 = .ok (.iconst 1, 1) := by decide +kernel
theorem d11_77 : decode prog_48_method_6_code 77 = .ok (.istore 6, 2) := by decide +kernel
theorem d11_79 : decode prog_48_method_6_code 79 = .ok (.iload 6, 2) := by decide +kernel
theorem d11_81 : decode prog_48_method_6_code 81 = .ok (.aload_n 0, 1) := by decide +kernel
theorem d11_82 : decode prog_48_method_6_code 82 = .ok (.getfield 22, 3) := by decide +kernel
theorem d11_85 : decode prog_48_method_6_code 85 = .ok (.if_icmp .ge 75, 3) := by decide +kernel
theorem d11_88 : decode prog_48_method_6_code 88 = .ok (.aload_n 0, 1) := by decide +kernel
theorem d11_89 : decode prog_48_method_6_code 89 = .ok (.getfield 14, 3) := by decide +kernel
theorem d11_92 : decode prog_48_method_6_code 92 = .ok (.iload 6, 2) := by decide +kernel
theorem d11_94 : decode prog_48_method_6_code 94 = .ok (.daload, 1) := by decide +kernel
theorem d11_95 : decode prog_48_method_6_code 95 = .ok (.aload_n 0, 1) := by decide +kernel
theorem d11_96 : decode prog_48_method_6_code 96 = .ok (.getfield 14, 3) := by decide +kernel
theorem d11_99 : decode prog_48_method_6_code 99 = .ok (.aload_n 0, 1) := by decide +kernel
theorem d11_100 : decode prog_48_method_6_code 100 = .ok (.getfield 30, 3) := by decide +kernel
theorem d11_103 : decode prog_48_method_6_code 103 = .ok (.daload, 1) := by decide +kernel
theorem d11_104 : decode prog_48_method_6_code 104 = .ok (.dcmp .l, 1) := by decide +kernel
theorem d11_105 : decode prog_48_method_6_code 105 = .ok (.ifCond .gt 43, 3) := by decide +kernel
theorem d11_148 : decode prog_48_method_6_code 148 = .ok (.aload_n 0, 1) := by decide +kernel
theorem d11_149 : decode prog_48_method_6_code 149 = .ok (.iload 6, 2) := by decide +kernel
theorem d11_151 : decode prog_48_method_6_code 151 = .ok (.putfield 30, 3) := by decide +kernel
theorem d11_108 : decode prog_48_method_6_code 108 = .ok (.aload_n 0, 1) := by decide +kernel
theorem d11_109 : decode prog_48_method_6_code 109 = .ok (.getfield 14, 3) := by decide +kernel
theorem d11_112 : decode prog_48_method_6_code 112 = .ok (.iload 6, 2) := by decide +kernel
theorem d11_114 : decode prog_48_method_6_code 114 = .ok (.daload, 1) := by decide +kernel
theorem d11_115 : decode prog_48_method_6_code 115 = .ok (.aload_n 0, 1) := by decide +kernel
theorem d11_116 : decode prog_48_method_6_code 116 = .ok (.getfield 14, 3) := by decide +kernel
theorem d11_119 : decode prog_48_method_6_code 119 = .ok (.aload_n 0, 1) := by decide +kernel
theorem d11_120 : decode prog_48_method_6_code 120 = .ok (.getfield 30, 3) := by decide +kernel
theorem d11_123 : decode prog_48_method_6_code 123 = .ok (.daload, 1) := by decide +kernel
theorem d11_124 : decode prog_48_method_6_code 124 = .ok (.dcmp .l, 1) := by decide +kernel
theorem d11_125 : decode prog_48_method_6_code 125 = .ok (.ifCond .ne 29, 3) := by decide +kernel
theorem d11_128 : decode prog_48_method_6_code 128 = .ok (.aload_n 0, 1) := by decide +kernel
theorem d11_129 : decode prog_48_method_6_code 129 = .ok (.getfield 18, 3) := by decide +kernel
theorem d11_132 : decode prog_48_method_6_code 132 = .ok (.iload 6, 2) := by decide +kernel
theorem d11_134 : decode prog_48_method_6_code 134 = .ok (.laload, 1) := by decide +kernel
theorem d11_135 : decode prog_48_method_6_code 135 = .ok (.aload_n 0, 1) := by decide +kernel
theorem d11_136 : decode prog_48_method_6_code 136 = .ok (.getfield 18, 3) := by decide +kernel
theorem d11_139 : decode prog_48_method_6_code 139 = .ok (.aload_n 0, 1) := by decide +kernel
theorem d11_140 : decode prog_48_method_6_code 140 = .ok (.getfield 30, 3) := by decide +kernel
theorem d11_143 : decode prog_48_method_6_code 143 = .ok (.laload, 1) := by decide +kernel
theorem d11_144 : decode prog_48_method_6_code 144 = .ok (.lcmp, 1) := by decide +kernel
theorem d11_145 : decode prog_48_method_6_code 145 = .ok (.ifCond .ge 9, 3) := by decide +kernel
theorem d11_154 : decode prog_48_method_6_code 154 = .ok (.iinc 6 1, 3) := by decide +kernel
theorem d11_157 : decode prog_48_method_6_code 157 = .ok (.goto (-78), 3) := by decide +kernel
theorem d11_160 : decode prog_48_method_6_code 160 = .ok (.iload 4, 2) := by decide +kernel
theorem d11_162 : decode prog_48_method_6_code 162 = .ok (.ireturn, 1) := by decide +kernel
theorem d1_0 : decode method_2_code 0 = .ok (.iconst 2, 1) := by decide +kernel
theorem d1_1 : decode method_2_code 1 = .ok (.newarray .int, 2) := by decide +kernel
theorem d1_3 : decode method_2_code 3 = .ok (.dup, 1) := by decide +kernel
theorem d1_4 : decode method_2_code 4 = .ok (.iconst 0, 1) := by decide +kernel
theorem d1_5 : decode method_2_code 5 = .ok (.iload_n 0, 1) := by decide +kernel
theorem d1_6 : decode method_2_code 6 = .ok (.iconst 1, 1) := by decide +kernel
theorem d1_7 : decode method_2_code 7 = .ok (.ishr, 1) := by decide +kernel
theorem d1_8 : decode method_2_code 8 = .ok (.iastore, 1) := by decide +kernel
theorem d1_9 : decode method_2_code 9 = .ok (.dup, 1) := by decide +kernel
theorem d1_10 : decode method_2_code 10 = .ok (.iconst 1, 1) := by decide +kernel
theorem d1_11 : decode method_2_code 11 = .ok (.iload_n 0, 1) := by decide +kernel
theorem d1_12 : decode method_2_code 12 = .ok (.iconst 1, 1) := by decide +kernel
theorem d1_13 : decode method_2_code 13 = .ok (.ishr, 1) := by decide +kernel
theorem d1_14 : decode method_2_code 14 = .ok (.ldc 7, 2) := by decide +kernel
theorem d1_16 : decode method_2_code 16 = .ok (.iadd, 1) := by decide +kernel
theorem d1_17 : decode method_2_code 17 = .ok (.iastore, 1) := by decide +kernel
theorem d1_18 : decode method_2_code 18 = .ok (.areturn, 1) := by decide +kernel
theorem d10_0 : decode method_3_code 0 = .ok (.aload_n 0, 1) := by decide +kernel
theorem d10_1 : decode method_3_code 1 = .ok (.arraylength, 1) := by decide +kernel
theorem d10_2 : decode method_3_code 2 = .ok (.iconst 2, 1) := by decide +kernel
theorem d10_3 : decode method_3_code 3 = .ok (.if_icmp .ne 28, 3) := by decide +kernel
theorem d10_6 : decode method_3_code 6 = .ok (.aload_n 0, 1) := by decide +kernel
theorem d10_7 : decode method_3_code 7 = .ok (.iconst 0, 1) := by decide +kernel
theorem d10_8 : decode method_3_code 8 = .ok (.iaload, 1) := by decide +kernel
theorem d10_9 : decode method_3_code 9 = .ok (.iload_n 1, 1) := by decide +kernel
theorem d10_10 : decode method_3_code 10 = .ok (.iconst 1, 1) := by decide +kernel
theorem d10_11 : decode method_3_code 11 = .ok (.ishr, 1) := by decide +kernel
theorem d10_12 : decode method_3_code 12 = .ok (.if_icmp .ne 19, 3) := by decide +kernel
theorem d10_15 : decode method_3_code 15 = .ok (.aload_n 0, 1) := by decide +kernel
theorem d10_16 : decode method_3_code 16 = .ok (.iconst 1, 1) := by decide +kernel
theorem d10_17 : decode method_3_code 17 = .ok (.iaload, 1) := by decide +kernel
theorem d10_18 : decode method_3_code 18 = .ok (.iload_n 1, 1) := by decide +kernel
theorem d10_19 : decode method_3_code 19 = .ok (.iconst 1, 1) := by decide +kernel
theorem d10_20 : decode method_3_code 20 = .ok (.ishr, 1) := by decide +kernel
theorem d10_21 : decode method_3_code 21 = .ok (.ldc 7, 2) := by decide +kernel
theorem d10_23 : decode method_3_code 23 = .ok (.iadd, 1) := by decide +kernel
theorem d10_24 : decode method_3_code 24 = .ok (.if_icmp .ne 7, 3) := by decide +kernel
theorem d10_27 : decode method_3_code 27 = .ok (.iconst 1, 1) := by decide +kernel
theorem d10_28 : decode method_3_code 28 = .ok (.goto 4, 3) := by decide +kernel
theorem d10_32 : decode method_3_code 32 = .ok (.ireturn, 1) := by decide +kernel
theorem own_01 {A B C : Prop} [Decidable A] [Decidable B] [Decidable C] {z : Int32} (e : z = (if A then 1 else (if B then (if C then 0 else 1) else 0))) : z = 0 ∨ z = 1 := by
  rw [e]; by_cases a : A <;> by_cases b : B <;> by_cases c : C <;> simp [a, b, c]
theorem own_v {o v : Int32} {u : Int32} (e : (u &&& 7) - 3 = v) : -3 ≤ v.toInt ∧ v.toInt ≤ 4 := by
  have h1 := c_mask u 7 3 (by decide) (by decide)
  have h2 := c_isub (u &&& 7) 3
  have o3 : (3 : Int32).toInt = 3 := rfl
  have r := rng32 v
  rw [e, o3] at h2
  omega
theorem own_ch {v0 v1 v2 n12 mn ch : Int32} (e1 : (if v2.toInt < v1.toInt then v2 else v1) = n12) (e2 : (if n12.toInt < v0.toInt then n12 else v0) = mn) (e3 : mn - 1 = ch) (r0 : -3 ≤ v0.toInt ∧ v0.toInt ≤ 4) (r1 : -3 ≤ v1.toInt ∧ v1.toInt ≤ 4) (r2 : -3 ≤ v2.toInt ∧ v2.toInt ≤ 4) : ch.toInt < v0.toInt ∧ ch.toInt < v1.toInt ∧ ch.toInt < v2.toInt := by
  have a := Own.ite_I e1
  have b := Own.ite_I e2
  have h := c_isub mn 1
  have o1 : (1 : Int32).toInt = 1 := rfl
  have r := rng32 ch
  rw [e3, o1] at h
  omega
theorem own_nine (v0 v1 v2 : Int32) : (v0.toInt < v1.toInt ∧ v1.toInt < v2.toInt) ∨ (v0.toInt < v1.toInt ∧ v2.toInt < v0.toInt) ∨ (v0.toInt < v1.toInt ∧ v0.toInt ≤ v2.toInt ∧ v2.toInt ≤ v1.toInt) ∨ (v1.toInt < v0.toInt ∧ v0.toInt < v2.toInt) ∨ (v1.toInt < v0.toInt ∧ v2.toInt < v1.toInt) ∨ (v1.toInt < v0.toInt ∧ v1.toInt ≤ v2.toInt ∧ v2.toInt ≤ v0.toInt) ∨ (v0.toInt = v1.toInt ∧ v0.toInt < v2.toInt) ∨ (v0.toInt = v1.toInt ∧ v2.toInt < v0.toInt) ∨ (v0.toInt = v1.toInt ∧ v2.toInt = v0.toInt) := by omega

theorem ef_2 (m : MethodId) (x0 : Int32) (x1 : Int32) : entryFrame m #[.int x0, .int x1] 2 = mkF m 0 #[.val (.int x0), .val (.int x1)] [] := by first | (simp [entryFrame, mkF, argsToLocals, Value.category, maxLocals]; done) | rfl
set_option maxRecDepth 65536 in
set_option maxHeartbeats 40000000 in
theorem rm2 (l : Launch) (Z : State) (a0 : Array Value) (hw : ∀ d ∈ tables_1, d.before a0 Z = true) (x : Int32) (y : Int32)   (h0 : Heap) (n0 : Nat) (Z0 : n0 ≤ h0.size)   :
    Own.Con l Z mn_0 [] jdk_29_method_69_code 2 (some .int) ({ frames := 0, cells := 0, slots := 0, locals := 0 } : Room) #[.int x, .int y] h0 n0 (fun v h => v = some (.int (if y.toInt < x.toInt then y else x)) ∧ h0 = h) := by
  refine Own.enter (own := "java/lang/Math") (nm := "min") (Jvm.Free.JP.mathPlain rfl (by decide +kernel)) rfl rfl (fun m => ef_2 m x y) fun p e s m below meth c T X => ?_
  refine Own.iloadN X d2_0 rfl ?_
  refine Own.iloadN X d2_1 rfl ?_
  suffices J2_1 : ∀ (z10_1 : Int32), z10_1 = (if y.toInt < x.toInt then y else x) → Own.Go p e below s n0 (fun v h => v = some (.int (if y.toInt < x.toInt then y else x)) ∧ h0 = h) 0 0 (T.setTop (mkF m 10 #[.val (.int x), .val (.int y)] [.int z10_1])) by
    refine Own.icmp_ X (pc' := 9) d2_2 (by decide) (fun (h2 : y.toInt < x.toInt) => ?_) (fun (h2 : ¬ (y.toInt < x.toInt)) => ?_)
    · refine Own.iloadN X d2_9 rfl ?_
      exact J2_1 _ (if_pos h2).symm
    · refine Own.iloadN X d2_5 rfl ?_
      refine Own.goto_ X (pc' := 10) d2_6 (by decide) ?_
      exact J2_1 _ (if_neg h2).symm
  intro z e_z
  exact Own.retI X d2_10 ⟨congrArg (fun z => some (Value.int z)) e_z, rfl⟩ (by decide) (by decide)
theorem ef_3 (m : MethodId) (x0 : Addr) (x1 : Int32) (x2 : Int32) : entryFrame m #[.ref x0, .int x1, .int x2] 3 = mkF m 0 #[.val (.ref x0), .val (.int x1), .val (.int x2)] [] := by first | (simp [entryFrame, mkF, argsToLocals, Value.category, maxLocals]; done) | rfl
set_option maxRecDepth 65536 in
set_option maxHeartbeats 40000000 in
theorem rm3 (l : Launch) (Z : State) (a0 : Array Value) (hw : ∀ d ∈ tables_1, d.before a0 Z = true) (a : Addr) (h0 : Heap) (n0 : Nat) (Z0 : n0 ≤ h0.size) (fc0 : Exa Z h0 a "com/example/allocus/allocus/method/Population") (fc1 : Fld Z h0 a "com/example/allocus/allocus/method/Population" "plans" "[[I" (.null)) (fc2 : Fld Z h0 a "com/example/allocus/allocus/method/Population" "objectives" "[D" (.null)) (fc3 : Fld Z h0 a "com/example/allocus/allocus/method/Population" "entered" "[J" (.null)) (fc4 : Fld Z h0 a "com/example/allocus/allocus/method/Population" "count" "I" (.int (0 : Int32))) (fc5 : Fld Z h0 a "com/example/allocus/allocus/method/Population" "entries" "J" (.long (0 : Int64))) (fc6 : Fld Z h0 a "com/example/allocus/allocus/method/Population" "worst" "I" (.int (0 : Int32))) (fc7 : Fld Z h0 a "com/example/allocus/allocus/method/Population" "best" "I" (.int (0 : Int32))) (fq0 : n0 ≤ a)  :
    Own.Con l Z mn_1 [] prog_48_method_1_code 3 none ({ frames := 1, cells := 6, slots := 15, locals := 12 } : Room) #[.ref a, .int (3 : Int32), .int (2 : Int32)] h0 n0 (fun v h => ∃ (pl : Addr) (x0 : Addr) (x1 : Addr) (x2 : Addr) (oa : Addr) (na : Addr) (k_pl : ClassId) (c_pl : ClassId) (k_oa : ClassId) (k_na : ClassId), v = none ∧ Keep h0 h [a] ∧ h0.size ≤ pl ∧ h0.size ≤ x0 ∧ h0.size ≤ x1 ∧ h0.size ≤ x2 ∧ h0.size ≤ oa ∧ h0.size ≤ na ∧ pl ≠ x0 ∧ pl ≠ x1 ∧ pl ≠ x2 ∧ pl ≠ oa ∧ pl ≠ na ∧ x0 ≠ x1 ∧ x0 ≠ x2 ∧ x0 ≠ oa ∧ x0 ≠ na ∧ x1 ≠ x2 ∧ x1 ≠ oa ∧ x1 ≠ na ∧ x2 ≠ oa ∧ x2 ≠ na ∧ oa ≠ na ∧ Fld Z h a "com/example/allocus/allocus/method/Population" "plans" "[[I" (.ref pl) ∧ Fld Z h a "com/example/allocus/allocus/method/Population" "objectives" "[D" (.ref oa) ∧ Fld Z h a "com/example/allocus/allocus/method/Population" "entered" "[J" (.ref na) ∧ Fld Z h a "com/example/allocus/allocus/method/Population" "count" "I" (.int (0 : Int32)) ∧ Fld Z h a "com/example/allocus/allocus/method/Population" "entries" "J" (.long (0 : Int64)) ∧ Fld Z h a "com/example/allocus/allocus/method/Population" "worst" "I" (.int (0 : Int32)) ∧ Fld Z h a "com/example/allocus/allocus/method/Population" "best" "I" (.int (0 : Int32)) ∧ Arv Z h pl k_pl (.array .int) (3 : Int32) [.ref x0, .ref x1, .ref x2] (.null) ∧ Arv Z h x0 c_pl .int (2 : Int32) [.int (0 : Int32), .int (0 : Int32)] (.int (0 : Int32)) ∧ Arv Z h x1 c_pl .int (2 : Int32) [.int (0 : Int32), .int (0 : Int32)] (.int (0 : Int32)) ∧ Arv Z h x2 c_pl .int (2 : Int32) [.int (0 : Int32), .int (0 : Int32)] (.int (0 : Int32)) ∧ Arv Z h oa k_oa .double (3 : Int32) [.double 0, .double 0, .double 0] (.double 0) ∧ Arv Z h na k_na .long (3 : Int32) [.long (0 : Int64), .long (0 : Int64), .long (0 : Int64)] (.long (0 : Int64)) ∧ Exa Z h x0 "[I" ∧ Exa Z h x1 "[I" ∧ Exa Z h x2 "[I") := by
  refine Own.enter (own := "com/example/allocus/allocus/method/Population") (nm := "<init>") (plainFor_of_name pn_com_example_allocus_allocus_method_Population) rfl rfl (fun m => ef_3 m a (3 : Int32) (2 : Int32)) fun p e s m below meth c T X => ?_
  refine Own.aloadN X d3_0 rfl rfl ?_
  refine Own.initO_ X d3_1 (Own.wd hw 16 rfl) (Own.wd hw 17 rfl) (Own.wd hw 18 rfl) rfl (W := 0) (by decide) (Nat.le_of_eq rfl) (by decide) fun T1 X1 => ?_
  clear X
  refine Own.aloadN X1 d3_4 rfl rfl ?_
  refine Own.iloadN X1 d3_5 rfl ?_
  refine Own.iloadN X1 d3_6 rfl ?_
  refine Own.gridM3_ (ty := .int) (C := "[I") (ad := "[[I") X1 (cap := 2) (dv := .int (0 : Int32)) d3_7 (by decide) (by decide) (Own.wd hw 19 rfl) (Own.wd hw 20 rfl) (Own.wd hw 4 rfl) rfl (by decide) (by decide) (by decide) rfl rfl (by decide) (by decide) fun T2 h2 pl x0 x1 x2 k_pl c_pl g_pl g_x0 g_x1 g_x2 X2 E2 V2 O2 A2 V2_0 V2_1 V2_2 A2_0 A2_1 A2_2 => ?_
  have ne3 : a ≠ x0 := Nat.ne_of_lt (Nat.lt_of_lt_of_le fc0.lt (by omega))
  have ne4 : a ≠ x1 := Nat.ne_of_lt (Nat.lt_of_lt_of_le fc0.lt (by omega))
  have ne5 : a ≠ x2 := Nat.ne_of_lt (Nat.lt_of_lt_of_le fc0.lt (by omega))
  have ne6 : a ≠ pl := Nat.ne_of_lt (Nat.lt_of_lt_of_le fc0.lt (Nat.le_of_eq g_pl.symm))
  have fr7 : n0 ≤ pl := Nat.le_trans Z0 (Nat.le_of_eq g_pl.symm)
  have bn8 : h0.size ≤ pl := Nat.le_trans (Keep.refl h0 [a]).1 (Nat.le_of_eq g_pl.symm)
  have F9 := fc0.ext E2
  have F10 := fc1.ext E2
  have F11 := fc2.ext E2
  have F12 := fc3.ext E2
  have F13 := fc4.ext E2
  have F14 := fc5.ext E2
  have F15 := fc6.ext E2
  have F16 := fc7.ext E2
  have F17 := (Keep.refl h0 [a]).ext E2
  have Z18 : n0 ≤ h2.size := Nat.le_trans Z0 E2.1
  have ne19 : pl ≠ x0 := by omega
  have fr20 : n0 ≤ x0 := by omega
  have bn21 : h0.size ≤ x0 := by have := bn8; omega
  have ne22 : x0 ≠ x1 := by omega
  have ne23 : x0 ≠ x2 := by omega
  have ne24 : pl ≠ x1 := by omega
  have fr25 : n0 ≤ x1 := by omega
  have bn26 : h0.size ≤ x1 := by have := bn8; omega
  have ne27 : x1 ≠ x2 := by omega
  have ne28 : pl ≠ x2 := by omega
  have fr29 : n0 ≤ x2 := by omega
  have bn30 : h0.size ≤ x2 := by have := bn8; omega
  have V31 : Arv Z h2 x0 c_pl .int (2 : Int32) [.int (0 : Int32), .int (0 : Int32)] (.int (0 : Int32)) := V2_0.pad (pad_rep [] (.int (0 : Int32)) 2)
  have V32 : Arv Z h2 x1 c_pl .int (2 : Int32) [.int (0 : Int32), .int (0 : Int32)] (.int (0 : Int32)) := V2_1.pad (pad_rep [] (.int (0 : Int32)) 2)
  have V33 : Arv Z h2 x2 c_pl .int (2 : Int32) [.int (0 : Int32), .int (0 : Int32)] (.int (0 : Int32)) := V2_2.pad (pad_rep [] (.int (0 : Int32)) 2)
  clear X1 fc0 fc1 fc2 fc3 fc4 fc5 fc6 fc7
  refine Own.putF_ X2 d3_11 (host := "") (Or.inl (Own.wd hw 21 rfl)) Via.refl F10 F9 (Or.inr ⟨(Own.wd hw 22 rfl), rfl, rfl⟩) (Own.wd hw 11 rfl) (ty := (.array (.array .int))) (by decide) rfl rfl fq0 fun T34 h34 X34 W34 => ?_
  have F35 := F9.wr W34
  have F36 := F11.other W34 (Or.inr (slot_ne (Or.inr (Own.wd hw 25 rfl)) (Or.inr (Own.wd hw 22 rfl)) (by decide) (t := (.array .double)) (t' := (.array (.array .int))) (by decide) (by decide)))
  have F37 := F12.other W34 (Or.inr (slot_ne (Or.inr (Own.wd hw 28 rfl)) (Or.inr (Own.wd hw 22 rfl)) (by decide) (t := (.array .long)) (t' := (.array (.array .int))) (by decide) (by decide)))
  have F38 := F13.other W34 (Or.inr (slot_ne (Or.inl (Own.wd hw 35 rfl)) (Or.inr (Own.wd hw 22 rfl)) (by decide) (t := .int) (t' := (.array (.array .int))) (by decide) (by decide)))
  have F39 := F14.other W34 (Or.inr (slot_ne (Or.inl (Own.wd hw 45 rfl)) (Or.inr (Own.wd hw 22 rfl)) (by decide) (t := .long) (t' := (.array (.array .int))) (by decide) (by decide)))
  have F40 := F15.other W34 (Or.inr (slot_ne (Or.inl (Own.wd hw 47 rfl)) (Or.inr (Own.wd hw 22 rfl)) (by decide) (t := .int) (t' := (.array (.array .int))) (by decide) (by decide)))
  have F41 := F16.other W34 (Or.inr (slot_ne (Or.inl (Own.wd hw 49 rfl)) (Or.inr (Own.wd hw 22 rfl)) (by decide) (t := .int) (t' := (.array (.array .int))) (by decide) (by decide)))
  have F42 := F17.wr W34 (Or.inl (List.mem_of_getElem? (i := 0) rfl))
  have F43 := A2.wr W34
  have F44 := V2.other W34 (Ne.symm ne6)
  have F45 := V31.other W34 (Ne.symm ne3)
  have F46 := A2_0.wr W34
  have F47 := V32.other W34 (Ne.symm ne4)
  have F48 := A2_1.wr W34
  have F49 := V33.other W34 (Ne.symm ne5)
  have F50 := A2_2.wr W34
  have F51 : Fld Z h34 a "com/example/allocus/allocus/method/Population" "plans" "[[I" (.ref pl) := Fld.same W34 F10
  have Z52 : n0 ≤ h34.size := by rw [W34.size]; exact Z18
  clear A2 A2_0 A2_1 A2_2 F10 F11 F12 F13 F14 F15 F16 F17 F9 V2 V31 V32 V33 X2
  refine Own.aloadN X34 d3_14 rfl rfl ?_
  refine Own.iloadN X34 d3_15 rfl ?_
  refine Own.newP_ X34 (cap := 3) (ty := .double) (dv := .double 0) (ad := "[D") d3_16 rfl rfl (by decide) (Own.wd hw 23 rfl) (by decide) (by decide) (by decide) (by decide) (by decide) fun T53 h53 oa k_oa g_oa X53 E53 V53 A53 => ?_
  have ne54 : a ≠ oa := Nat.ne_of_lt (Nat.lt_of_lt_of_le F35.lt (Nat.le_of_eq g_oa.symm))
  have ne55 : pl ≠ oa := Nat.ne_of_lt (Nat.lt_of_lt_of_le F43.lt (Nat.le_of_eq g_oa.symm))
  have ne56 : x0 ≠ oa := Nat.ne_of_lt (Nat.lt_of_lt_of_le F45.lt (Nat.le_of_eq g_oa.symm))
  have ne57 : x1 ≠ oa := Nat.ne_of_lt (Nat.lt_of_lt_of_le F47.lt (Nat.le_of_eq g_oa.symm))
  have ne58 : x2 ≠ oa := Nat.ne_of_lt (Nat.lt_of_lt_of_le F49.lt (Nat.le_of_eq g_oa.symm))
  have fr59 : n0 ≤ oa := Nat.le_trans Z52 (Nat.le_of_eq g_oa.symm)
  have bn60 : h0.size ≤ oa := Nat.le_trans F42.1 (Nat.le_of_eq g_oa.symm)
  have F61 := F35.ext E53
  have F62 := F36.ext E53
  have F63 := F37.ext E53
  have F64 := F38.ext E53
  have F65 := F39.ext E53
  have F66 := F40.ext E53
  have F67 := F41.ext E53
  have F68 := F42.ext E53
  have F69 := F43.ext E53
  have F70 := F44.ext E53
  have F71 := F45.ext E53
  have F72 := F46.ext E53
  have F73 := F47.ext E53
  have F74 := F48.ext E53
  have F75 := F49.ext E53
  have F76 := F50.ext E53
  have F77 := F51.ext E53
  have Z78 : n0 ≤ h53.size := Nat.le_trans Z52 E53.1
  have V79 : Arv Z h53 oa k_oa .double (3 : Int32) [.double 0, .double 0, .double 0] (.double 0) := V53.pad (pad_rep [] (.double 0) 3)
  clear F35 F36 F37 F38 F39 F40 F41 F42 F43 F44 F45 F46 F47 F48 F49 F50 F51 X34
  refine Own.putF_ X53 d3_18 (host := "") (Or.inl (Own.wd hw 24 rfl)) Via.refl F62 F61 (Or.inr ⟨(Own.wd hw 25 rfl), rfl, rfl⟩) (Own.wd hw 11 rfl) (ty := (.array .double)) (by decide) rfl rfl fq0 fun T80 h80 X80 W80 => ?_
  have F81 := F61.wr W80
  have F82 := F63.other W80 (Or.inr (slot_ne (Or.inr (Own.wd hw 28 rfl)) (Or.inr (Own.wd hw 25 rfl)) (by decide) (t := (.array .long)) (t' := (.array .double)) (by decide) (by decide)))
  have F83 := F64.other W80 (Or.inr (slot_ne (Or.inl (Own.wd hw 35 rfl)) (Or.inr (Own.wd hw 25 rfl)) (by decide) (t := .int) (t' := (.array .double)) (by decide) (by decide)))
  have F84 := F65.other W80 (Or.inr (slot_ne (Or.inl (Own.wd hw 45 rfl)) (Or.inr (Own.wd hw 25 rfl)) (by decide) (t := .long) (t' := (.array .double)) (by decide) (by decide)))
  have F85 := F66.other W80 (Or.inr (slot_ne (Or.inl (Own.wd hw 47 rfl)) (Or.inr (Own.wd hw 25 rfl)) (by decide) (t := .int) (t' := (.array .double)) (by decide) (by decide)))
  have F86 := F67.other W80 (Or.inr (slot_ne (Or.inl (Own.wd hw 49 rfl)) (Or.inr (Own.wd hw 25 rfl)) (by decide) (t := .int) (t' := (.array .double)) (by decide) (by decide)))
  have F87 := F68.wr W80 (Or.inl (List.mem_of_getElem? (i := 0) rfl))
  have F88 := F69.wr W80
  have F89 := F70.other W80 (Ne.symm ne6)
  have F90 := F71.other W80 (Ne.symm ne3)
  have F91 := F72.wr W80
  have F92 := F73.other W80 (Ne.symm ne4)
  have F93 := F74.wr W80
  have F94 := F75.other W80 (Ne.symm ne5)
  have F95 := F76.wr W80
  have F96 := F77.other W80 (Or.inr (slot_ne (Or.inr (Own.wd hw 22 rfl)) (Or.inr (Own.wd hw 25 rfl)) (by decide) (t := (.array (.array .int))) (t' := (.array .double)) (by decide) (by decide)))
  have F97 := A53.wr W80
  have F98 := V79.other W80 (Ne.symm ne54)
  have F99 : Fld Z h80 a "com/example/allocus/allocus/method/Population" "objectives" "[D" (.ref oa) := Fld.same W80 F62
  have Z100 : n0 ≤ h80.size := by rw [W80.size]; exact Z78
  clear A53 F61 F62 F63 F64 F65 F66 F67 F68 F69 F70 F71 F72 F73 F74 F75 F76 F77 V79 X53
  refine Own.aloadN X80 d3_21 rfl rfl ?_
  refine Own.iloadN X80 d3_22 rfl ?_
  refine Own.newP_ X80 (cap := 3) (ty := .long) (dv := .long (0 : Int64)) (ad := "[J") d3_23 rfl rfl (by decide) (Own.wd hw 26 rfl) (by decide) (by decide) (by decide) (by decide) (by decide) fun T101 h101 na k_na g_na X101 E101 V101 A101 => ?_
  have ne102 : a ≠ na := Nat.ne_of_lt (Nat.lt_of_lt_of_le F81.lt (Nat.le_of_eq g_na.symm))
  have ne103 : pl ≠ na := Nat.ne_of_lt (Nat.lt_of_lt_of_le F88.lt (Nat.le_of_eq g_na.symm))
  have ne104 : x0 ≠ na := Nat.ne_of_lt (Nat.lt_of_lt_of_le F90.lt (Nat.le_of_eq g_na.symm))
  have ne105 : x1 ≠ na := Nat.ne_of_lt (Nat.lt_of_lt_of_le F92.lt (Nat.le_of_eq g_na.symm))
  have ne106 : x2 ≠ na := Nat.ne_of_lt (Nat.lt_of_lt_of_le F94.lt (Nat.le_of_eq g_na.symm))
  have ne107 : oa ≠ na := Nat.ne_of_lt (Nat.lt_of_lt_of_le F97.lt (Nat.le_of_eq g_na.symm))
  have fr108 : n0 ≤ na := Nat.le_trans Z100 (Nat.le_of_eq g_na.symm)
  have bn109 : h0.size ≤ na := Nat.le_trans F87.1 (Nat.le_of_eq g_na.symm)
  have F110 := F81.ext E101
  have F111 := F82.ext E101
  have F112 := F83.ext E101
  have F113 := F84.ext E101
  have F114 := F85.ext E101
  have F115 := F86.ext E101
  have F116 := F87.ext E101
  have F117 := F88.ext E101
  have F118 := F89.ext E101
  have F119 := F90.ext E101
  have F120 := F91.ext E101
  have F121 := F92.ext E101
  have F122 := F93.ext E101
  have F123 := F94.ext E101
  have F124 := F95.ext E101
  have F125 := F96.ext E101
  have F126 := F97.ext E101
  have F127 := F98.ext E101
  have F128 := F99.ext E101
  have Z129 : n0 ≤ h101.size := Nat.le_trans Z100 E101.1
  have V130 : Arv Z h101 na k_na .long (3 : Int32) [.long (0 : Int64), .long (0 : Int64), .long (0 : Int64)] (.long (0 : Int64)) := V101.pad (pad_rep [] (.long (0 : Int64)) 3)
  clear F81 F82 F83 F84 F85 F86 F87 F88 F89 F90 F91 F92 F93 F94 F95 F96 F97 F98 F99 X80
  refine Own.putF_ X101 d3_25 (host := "") (Or.inl (Own.wd hw 27 rfl)) Via.refl F111 F110 (Or.inr ⟨(Own.wd hw 28 rfl), rfl, rfl⟩) (Own.wd hw 11 rfl) (ty := (.array .long)) (by decide) rfl rfl fq0 fun T131 h131 X131 W131 => ?_
  have F132 := F110.wr W131
  have F133 := F112.other W131 (Or.inr (slot_ne (Or.inl (Own.wd hw 35 rfl)) (Or.inr (Own.wd hw 28 rfl)) (by decide) (t := .int) (t' := (.array .long)) (by decide) (by decide)))
  have F134 := F113.other W131 (Or.inr (slot_ne (Or.inl (Own.wd hw 45 rfl)) (Or.inr (Own.wd hw 28 rfl)) (by decide) (t := .long) (t' := (.array .long)) (by decide) (by decide)))
  have F135 := F114.other W131 (Or.inr (slot_ne (Or.inl (Own.wd hw 47 rfl)) (Or.inr (Own.wd hw 28 rfl)) (by decide) (t := .int) (t' := (.array .long)) (by decide) (by decide)))
  have F136 := F115.other W131 (Or.inr (slot_ne (Or.inl (Own.wd hw 49 rfl)) (Or.inr (Own.wd hw 28 rfl)) (by decide) (t := .int) (t' := (.array .long)) (by decide) (by decide)))
  have F137 := F116.wr W131 (Or.inl (List.mem_of_getElem? (i := 0) rfl))
  have F138 := F117.wr W131
  have F139 := F118.other W131 (Ne.symm ne6)
  have F140 := F119.other W131 (Ne.symm ne3)
  have F141 := F120.wr W131
  have F142 := F121.other W131 (Ne.symm ne4)
  have F143 := F122.wr W131
  have F144 := F123.other W131 (Ne.symm ne5)
  have F145 := F124.wr W131
  have F146 := F125.other W131 (Or.inr (slot_ne (Or.inr (Own.wd hw 22 rfl)) (Or.inr (Own.wd hw 28 rfl)) (by decide) (t := (.array (.array .int))) (t' := (.array .long)) (by decide) (by decide)))
  have F147 := F126.wr W131
  have F148 := F127.other W131 (Ne.symm ne54)
  have F149 := F128.other W131 (Or.inr (slot_ne (Or.inr (Own.wd hw 25 rfl)) (Or.inr (Own.wd hw 28 rfl)) (by decide) (t := (.array .double)) (t' := (.array .long)) (by decide) (by decide)))
  have F150 := A101.wr W131
  have F151 := V130.other W131 (Ne.symm ne102)
  have F152 : Fld Z h131 a "com/example/allocus/allocus/method/Population" "entered" "[J" (.ref na) := Fld.same W131 F111
  have Z153 : n0 ≤ h131.size := by rw [W131.size]; exact Z129
  clear A101 F110 F111 F112 F113 F114 F115 F116 F117 F118 F119 F120 F121 F122 F123 F124 F125 F126 F127 F128 V130 X101
  exact Own.retV X131 d3_28 ⟨pl, x0, x1, x2, oa, na, k_pl, c_pl, k_oa, k_na, rfl, F137, bn8, bn21, bn26, bn30, bn60, bn109, ne19, ne24, ne28, ne55, ne103, ne22, ne23, ne56, ne104, ne27, ne57, ne105, ne58, ne106, ne107, F146, F149, F152, F133, F134, F135, F136, F139, F140, F142, F144, F148, F151, F141, F143, F145⟩ (by decide) (by decide)
theorem ef_6_0 (m : MethodId) (x0 : Addr) (x1 : Int32) (x2 : Addr) (x3 : UInt64) : entryFrame m #[.ref x0, .int x1, .ref x2, .double x3] 5 = mkF m 0 #[.val (.ref x0), .val (.int x1), .val (.ref x2), .val (.double x3), .second] [] := by first | (simp [entryFrame, mkF, argsToLocals, Value.category, maxLocals]; done) | rfl
set_option maxRecDepth 65536 in
set_option maxHeartbeats 40000000 in
theorem rm6_0 (l : Launch) (Z : State) (a0 : Array Value) (hw : ∀ d ∈ tables_1, d.before a0 Z = true) (a : Addr) (si : Addr) (dv : UInt64) (pl : Addr) (oa : Addr) (na : Addr) (x0 : Addr) (x1 : Addr) (x2 : Addr) (k_pl : ClassId) (c_pl : ClassId) (k_oa : ClassId) (k_na : ClassId) (b0 : UInt64) (b1 : UInt64) (b2 : UInt64) (m0 : Int64) (m1 : Int64) (m2 : Int64) (eJ : Int64) (k_si : ClassId) (y0 : Int32) (y1 : Int32) (u00 : Int32) (u01 : Int32) (ct : Int32) (wo : Int32) (be : Int32) (h0 : Heap) (n0 : Nat) (Z0 : n0 ≤ h0.size) (fc0 : Exa Z h0 a "com/example/allocus/allocus/method/Population") (fc1 : Fld Z h0 a "com/example/allocus/allocus/method/Population" "plans" "[[I" (.ref pl)) (fc2 : Fld Z h0 a "com/example/allocus/allocus/method/Population" "objectives" "[D" (.ref oa)) (fc3 : Fld Z h0 a "com/example/allocus/allocus/method/Population" "entered" "[J" (.ref na)) (fc4 : Fld Z h0 a "com/example/allocus/allocus/method/Population" "count" "I" (.int ct)) (fc5 : Fld Z h0 a "com/example/allocus/allocus/method/Population" "entries" "J" (.long eJ)) (fc6 : Fld Z h0 a "com/example/allocus/allocus/method/Population" "worst" "I" (.int wo)) (fc7 : Fld Z h0 a "com/example/allocus/allocus/method/Population" "best" "I" (.int be)) (fc8 : Arv Z h0 pl k_pl (.array .int) (3 : Int32) [.ref x0, .ref x1, .ref x2] (.null)) (fc9 : Arv Z h0 x0 c_pl .int (2 : Int32) [.int u00, .int u01] (.int (0 : Int32))) (fc10 : Arv Z h0 oa k_oa .double (3 : Int32) [.double b0, .double b1, .double b2] (.double 0)) (fc11 : Arv Z h0 na k_na .long (3 : Int32) [.long m0, .long m1, .long m2] (.long (0 : Int64))) (fc12 : Arv Z h0 si k_si .int (2 : Int32) [.int y0, .int y1] (.int (0 : Int32))) (nq0 : a ≠ pl) (nq1 : a ≠ oa) (nq2 : a ≠ na) (nq3 : a ≠ x0) (nq4 : a ≠ x1) (nq5 : a ≠ x2) (nq6 : pl ≠ oa) (nq7 : pl ≠ na) (nq8 : pl ≠ x0) (nq9 : pl ≠ x1) (nq10 : pl ≠ x2) (nq11 : oa ≠ na) (nq12 : oa ≠ x0) (nq13 : oa ≠ x1) (nq14 : oa ≠ x2) (nq15 : na ≠ x0) (nq16 : na ≠ x1) (nq17 : na ≠ x2) (nq18 : x0 ≠ x1) (nq19 : x0 ≠ x2) (nq20 : x1 ≠ x2) (nq21 : si ≠ a) (nq22 : si ≠ pl) (nq23 : si ≠ oa) (nq24 : si ≠ na) (nq25 : si ≠ x0) (nq26 : si ≠ x1) (nq27 : si ≠ x2) (fq0 : n0 ≤ a) (fq1 : n0 ≤ x0) (fq2 : n0 ≤ x1) (fq3 : n0 ≤ x2) (fq4 : n0 ≤ oa) (fq5 : n0 ≤ na)  :
    Own.Con l Z mn_2 [] prog_48_method_10_code 5 none ({ frames := 1, cells := 0, slots := 0, locals := 32 } : Room) #[.ref a, .int (0 : Int32), .ref si, .double dv] h0 n0 (fun v h => v = none ∧ Keep h0 h [a, x0, oa, na] ∧ Fld Z h a "com/example/allocus/allocus/method/Population" "plans" "[[I" (.ref pl) ∧ Fld Z h a "com/example/allocus/allocus/method/Population" "objectives" "[D" (.ref oa) ∧ Fld Z h a "com/example/allocus/allocus/method/Population" "entered" "[J" (.ref na) ∧ Fld Z h a "com/example/allocus/allocus/method/Population" "count" "I" (.int ct) ∧ Fld Z h a "com/example/allocus/allocus/method/Population" "entries" "J" (.long (eJ + (1 : Int64))) ∧ Fld Z h a "com/example/allocus/allocus/method/Population" "worst" "I" (.int wo) ∧ Fld Z h a "com/example/allocus/allocus/method/Population" "best" "I" (.int be) ∧ Arv Z h x0 c_pl .int (2 : Int32) [.int y0, .int y1] (.int (0 : Int32)) ∧ Arv Z h oa k_oa .double (3 : Int32) [.double dv, .double b1, .double b2] (.double 0) ∧ Arv Z h na k_na .long (3 : Int32) [.long eJ, .long m1, .long m2] (.long (0 : Int64))) := by
  refine Own.enter (own := "com/example/allocus/allocus/method/Population") (nm := "put") (plainFor_of_name pn_com_example_allocus_allocus_method_Population) rfl rfl (fun m => ef_6_0 m a (0 : Int32) si dv) fun p e s m below meth c T X => ?_
  refine Own.aloadN X d6_0 rfl rfl ?_
  refine Own.iconst X (v := 0) d6_1 rfl ?_
  refine Own.aloadN X d6_2 rfl rfl ?_
  refine Own.getF_ X d6_3 (host := "") (Or.inl (Own.wd hw 21 rfl)) Via.refl fc1 fun T1 X1 => ?_
  clear X
  refine Own.iloadN X1 d6_6 rfl ?_
  refine Own.aaload_ X1 d6_7 fc8 rfl (by decide) rfl ?_
  refine Own.iconst X1 (v := 0) d6_8 rfl ?_
  refine Own.aloadN X1 d6_9 rfl rfl ?_
  refine Own.alen_ X1 d6_10 fc12 ?_
  refine Own.cpA_ X1 d6_11 (Own.wd hw 40 rfl) (Own.wd hw 43 rfl) (Own.wd hw 41 rfl) (Own.wd hw 42 rfl) fc12 fc9 rfl (by decide) (by decide) (by decide) (by decide) (by decide) (us := [.int y0, .int y1]) rfl (Nat.le_of_ble_eq_true rfl) fq1 rfl (by decide) (W := 0) (Nat.le_of_eq rfl) (by decide) fun T2 h2 X2 K2 V2 => ?_
  have F3 := fc0.keep K2
  have F4 := fc1.keep K2 (ninS nq3 nin0)
  have F5 := fc2.keep K2 (ninS nq3 nin0)
  have F6 := fc3.keep K2 (ninS nq3 nin0)
  have F7 := fc4.keep K2 (ninS nq3 nin0)
  have F8 := fc5.keep K2 (ninS nq3 nin0)
  have F9 := fc6.keep K2 (ninS nq3 nin0)
  have F10 := fc7.keep K2 (ninS nq3 nin0)
  have F11 := fc8.keep K2 (ninS nq8 nin0)
  have F12 := fc10.keep K2 (ninS nq12 nin0)
  have F13 := fc11.keep K2 (ninS nq15 nin0)
  have F14 := fc12.keep K2 (ninS nq25 nin0)
  have F15 := (Keep.refl h0 [a, x0, oa, na]).trans K2 (allS (Or.inl (List.mem_of_getElem? (i := 1) rfl)) all0)
  have Z16 : n0 ≤ h2.size := Nat.le_trans Z0 K2.1
  have V17 : Arv Z h2 x0 c_pl .int (2 : Int32) [.int y0, .int y1] (.int (0 : Int32)) := V2
  clear X1 fc0 fc1 fc10 fc11 fc12 fc2 fc3 fc4 fc5 fc6 fc7 fc8 fc9
  refine Own.aloadN X2 d6_14 rfl rfl ?_
  refine Own.getF_ X2 d6_15 (host := "") (Or.inl (Own.wd hw 24 rfl)) Via.refl F5 fun T18 X18 => ?_
  clear X2
  refine Own.iloadN X18 d6_18 rfl ?_
  refine Own.dloadN X18 d6_19 rfl ?_
  refine Own.dastore_ X18 (i := 0) d6_20 F12 (by decide) rfl (Nat.le_of_ble_eq_true rfl) fq4 fun T19 h19 X19 W19 V19 => ?_
  have F20 := F3.wr W19
  have F21 := F4.other W19 (Or.inl nq1)
  have F22 := F5.other W19 (Or.inl nq1)
  have F23 := F6.other W19 (Or.inl nq1)
  have F24 := F7.other W19 (Or.inl nq1)
  have F25 := F8.other W19 (Or.inl nq1)
  have F26 := F9.other W19 (Or.inl nq1)
  have F27 := F10.other W19 (Or.inl nq1)
  have F28 := F11.other W19 nq6
  have F29 := F13.other W19 (Ne.symm nq11)
  have F30 := F14.other W19 nq23
  have F31 := F15.wr W19 (Or.inl (List.mem_of_getElem? (i := 2) rfl))
  have F32 := V17.other W19 (Ne.symm nq12)
  have Z33 : n0 ≤ h19.size := by rw [W19.size]; exact Z16
  have V34 : Arv Z h19 oa k_oa .double (3 : Int32) [.double dv, .double b1, .double b2] (.double 0) := V19
  clear F10 F11 F12 F13 F14 F15 F3 F4 F5 F6 F7 F8 F9 V17 X18
  refine Own.aloadN X19 d6_21 rfl rfl ?_
  refine Own.getF_ X19 d6_22 (host := "") (Or.inl (Own.wd hw 27 rfl)) Via.refl F23 fun T35 X35 => ?_
  clear X19
  refine Own.iloadN X35 d6_25 rfl ?_
  refine Own.aloadN X35 d6_26 rfl rfl ?_
  refine Own.getF_ X35 d6_27 (host := "") (Or.inl (Own.wd hw 44 rfl)) Via.refl F25 fun T36 X36 => ?_
  clear X35
  refine Own.lastore_ X36 (i := 0) d6_30 F29 (by decide) rfl (Nat.le_of_ble_eq_true rfl) fq5 fun T37 h37 X37 W37 V37 => ?_
  have F38 := F20.wr W37
  have F39 := F21.other W37 (Or.inl nq2)
  have F40 := F22.other W37 (Or.inl nq2)
  have F41 := F23.other W37 (Or.inl nq2)
  have F42 := F24.other W37 (Or.inl nq2)
  have F43 := F25.other W37 (Or.inl nq2)
  have F44 := F26.other W37 (Or.inl nq2)
  have F45 := F27.other W37 (Or.inl nq2)
  have F46 := F28.other W37 nq7
  have F47 := F30.other W37 nq24
  have F48 := F31.wr W37 (Or.inl (List.mem_of_getElem? (i := 3) rfl))
  have F49 := F32.other W37 (Ne.symm nq15)
  have F50 := V34.other W37 nq11
  have Z51 : n0 ≤ h37.size := by rw [W37.size]; exact Z33
  have V52 : Arv Z h37 na k_na .long (3 : Int32) [.long eJ, .long m1, .long m2] (.long (0 : Int64)) := V37
  clear F20 F21 F22 F23 F24 F25 F26 F27 F28 F29 F30 F31 F32 V34 X36
  refine Own.aloadN X37 d6_31 rfl rfl ?_
  refine Own.dup X37 d6_32 rfl ?_
  refine Own.getF_ X37 d6_33 (host := "") (Or.inl (Own.wd hw 44 rfl)) Via.refl F43 fun T53 X53 => ?_
  clear X37
  refine Own.lconst X53 (v := 1) d6_36 rfl ?_
  refine Own.ladd X53 d6_37 ?_
  refine Own.putF_ X53 d6_38 (host := "") (Or.inl (Own.wd hw 44 rfl)) Via.refl F43 F38 (Or.inl (Own.wd hw 45 rfl)) (Own.wd hw 11 rfl) (ty := .long) (by decide) rfl rfl fq0 fun T54 h54 X54 W54 => ?_
  have F55 := F38.wr W54
  have F56 := F39.other W54 (Or.inr (slot_ne (Or.inr (Own.wd hw 22 rfl)) (Or.inl (Own.wd hw 45 rfl)) (by decide) (t := (.array (.array .int))) (t' := .long) (by decide) (by decide)))
  have F57 := F40.other W54 (Or.inr (slot_ne (Or.inr (Own.wd hw 25 rfl)) (Or.inl (Own.wd hw 45 rfl)) (by decide) (t := (.array .double)) (t' := .long) (by decide) (by decide)))
  have F58 := F41.other W54 (Or.inr (slot_ne (Or.inr (Own.wd hw 28 rfl)) (Or.inl (Own.wd hw 45 rfl)) (by decide) (t := (.array .long)) (t' := .long) (by decide) (by decide)))
  have F59 := F42.other W54 (Or.inr (slot_ne (Or.inl (Own.wd hw 35 rfl)) (Or.inl (Own.wd hw 45 rfl)) (by decide) (t := .int) (t' := .long) (by decide) (by decide)))
  have F60 := F44.other W54 (Or.inr (slot_ne (Or.inl (Own.wd hw 47 rfl)) (Or.inl (Own.wd hw 45 rfl)) (by decide) (t := .int) (t' := .long) (by decide) (by decide)))
  have F61 := F45.other W54 (Or.inr (slot_ne (Or.inl (Own.wd hw 49 rfl)) (Or.inl (Own.wd hw 45 rfl)) (by decide) (t := .int) (t' := .long) (by decide) (by decide)))
  have F62 := F46.other W54 (Ne.symm nq0)
  have F63 := F47.other W54 nq21
  have F64 := F48.wr W54 (Or.inl (List.mem_of_getElem? (i := 0) rfl))
  have F65 := F49.other W54 (Ne.symm nq3)
  have F66 := F50.other W54 (Ne.symm nq1)
  have F67 := V52.other W54 (Ne.symm nq2)
  have F68 : Fld Z h54 a "com/example/allocus/allocus/method/Population" "entries" "J" (.long (eJ + (1 : Int64))) := Fld.same W54 F43
  have Z69 : n0 ≤ h54.size := by rw [W54.size]; exact Z51
  clear F38 F39 F40 F41 F42 F43 F44 F45 F46 F47 F48 F49 F50 V52 X53
  exact Own.retV X54 d6_41 ⟨rfl, F64, F56, F57, F58, F59, F68, F60, F61, F65, F66, F67⟩ (by decide) (by decide)
theorem ef_6_1 (m : MethodId) (x0 : Addr) (x1 : Int32) (x2 : Addr) (x3 : UInt64) : entryFrame m #[.ref x0, .int x1, .ref x2, .double x3] 5 = mkF m 0 #[.val (.ref x0), .val (.int x1), .val (.ref x2), .val (.double x3), .second] [] := by first | (simp [entryFrame, mkF, argsToLocals, Value.category, maxLocals]; done) | rfl
set_option maxRecDepth 65536 in
set_option maxHeartbeats 40000000 in
theorem rm6_1 (l : Launch) (Z : State) (a0 : Array Value) (hw : ∀ d ∈ tables_1, d.before a0 Z = true) (a : Addr) (si : Addr) (dv : UInt64) (pl : Addr) (oa : Addr) (na : Addr) (x0 : Addr) (x1 : Addr) (x2 : Addr) (k_pl : ClassId) (c_pl : ClassId) (k_oa : ClassId) (k_na : ClassId) (b0 : UInt64) (b1 : UInt64) (b2 : UInt64) (m0 : Int64) (m1 : Int64) (m2 : Int64) (eJ : Int64) (k_si : ClassId) (y0 : Int32) (y1 : Int32) (u10 : Int32) (u11 : Int32) (ct : Int32) (wo : Int32) (be : Int32) (h0 : Heap) (n0 : Nat) (Z0 : n0 ≤ h0.size) (fc0 : Exa Z h0 a "com/example/allocus/allocus/method/Population") (fc1 : Fld Z h0 a "com/example/allocus/allocus/method/Population" "plans" "[[I" (.ref pl)) (fc2 : Fld Z h0 a "com/example/allocus/allocus/method/Population" "objectives" "[D" (.ref oa)) (fc3 : Fld Z h0 a "com/example/allocus/allocus/method/Population" "entered" "[J" (.ref na)) (fc4 : Fld Z h0 a "com/example/allocus/allocus/method/Population" "count" "I" (.int ct)) (fc5 : Fld Z h0 a "com/example/allocus/allocus/method/Population" "entries" "J" (.long eJ)) (fc6 : Fld Z h0 a "com/example/allocus/allocus/method/Population" "worst" "I" (.int wo)) (fc7 : Fld Z h0 a "com/example/allocus/allocus/method/Population" "best" "I" (.int be)) (fc8 : Arv Z h0 pl k_pl (.array .int) (3 : Int32) [.ref x0, .ref x1, .ref x2] (.null)) (fc9 : Arv Z h0 x1 c_pl .int (2 : Int32) [.int u10, .int u11] (.int (0 : Int32))) (fc10 : Arv Z h0 oa k_oa .double (3 : Int32) [.double b0, .double b1, .double b2] (.double 0)) (fc11 : Arv Z h0 na k_na .long (3 : Int32) [.long m0, .long m1, .long m2] (.long (0 : Int64))) (fc12 : Arv Z h0 si k_si .int (2 : Int32) [.int y0, .int y1] (.int (0 : Int32))) (nq0 : a ≠ pl) (nq1 : a ≠ oa) (nq2 : a ≠ na) (nq3 : a ≠ x0) (nq4 : a ≠ x1) (nq5 : a ≠ x2) (nq6 : pl ≠ oa) (nq7 : pl ≠ na) (nq8 : pl ≠ x0) (nq9 : pl ≠ x1) (nq10 : pl ≠ x2) (nq11 : oa ≠ na) (nq12 : oa ≠ x0) (nq13 : oa ≠ x1) (nq14 : oa ≠ x2) (nq15 : na ≠ x0) (nq16 : na ≠ x1) (nq17 : na ≠ x2) (nq18 : x0 ≠ x1) (nq19 : x0 ≠ x2) (nq20 : x1 ≠ x2) (nq21 : si ≠ a) (nq22 : si ≠ pl) (nq23 : si ≠ oa) (nq24 : si ≠ na) (nq25 : si ≠ x0) (nq26 : si ≠ x1) (nq27 : si ≠ x2) (fq0 : n0 ≤ a) (fq1 : n0 ≤ x0) (fq2 : n0 ≤ x1) (fq3 : n0 ≤ x2) (fq4 : n0 ≤ oa) (fq5 : n0 ≤ na)  :
    Own.Con l Z mn_2 [] prog_48_method_10_code 5 none ({ frames := 1, cells := 0, slots := 0, locals := 32 } : Room) #[.ref a, .int (1 : Int32), .ref si, .double dv] h0 n0 (fun v h => v = none ∧ Keep h0 h [a, x1, oa, na] ∧ Fld Z h a "com/example/allocus/allocus/method/Population" "plans" "[[I" (.ref pl) ∧ Fld Z h a "com/example/allocus/allocus/method/Population" "objectives" "[D" (.ref oa) ∧ Fld Z h a "com/example/allocus/allocus/method/Population" "entered" "[J" (.ref na) ∧ Fld Z h a "com/example/allocus/allocus/method/Population" "count" "I" (.int ct) ∧ Fld Z h a "com/example/allocus/allocus/method/Population" "entries" "J" (.long (eJ + (1 : Int64))) ∧ Fld Z h a "com/example/allocus/allocus/method/Population" "worst" "I" (.int wo) ∧ Fld Z h a "com/example/allocus/allocus/method/Population" "best" "I" (.int be) ∧ Arv Z h x1 c_pl .int (2 : Int32) [.int y0, .int y1] (.int (0 : Int32)) ∧ Arv Z h oa k_oa .double (3 : Int32) [.double b0, .double dv, .double b2] (.double 0) ∧ Arv Z h na k_na .long (3 : Int32) [.long m0, .long eJ, .long m2] (.long (0 : Int64))) := by
  refine Own.enter (own := "com/example/allocus/allocus/method/Population") (nm := "put") (plainFor_of_name pn_com_example_allocus_allocus_method_Population) rfl rfl (fun m => ef_6_1 m a (1 : Int32) si dv) fun p e s m below meth c T X => ?_
  refine Own.aloadN X d6_0 rfl rfl ?_
  refine Own.iconst X (v := 0) d6_1 rfl ?_
  refine Own.aloadN X d6_2 rfl rfl ?_
  refine Own.getF_ X d6_3 (host := "") (Or.inl (Own.wd hw 21 rfl)) Via.refl fc1 fun T1 X1 => ?_
  clear X
  refine Own.iloadN X1 d6_6 rfl ?_
  refine Own.aaload_ X1 d6_7 fc8 rfl (by decide) rfl ?_
  refine Own.iconst X1 (v := 0) d6_8 rfl ?_
  refine Own.aloadN X1 d6_9 rfl rfl ?_
  refine Own.alen_ X1 d6_10 fc12 ?_
  refine Own.cpA_ X1 d6_11 (Own.wd hw 40 rfl) (Own.wd hw 43 rfl) (Own.wd hw 41 rfl) (Own.wd hw 42 rfl) fc12 fc9 rfl (by decide) (by decide) (by decide) (by decide) (by decide) (us := [.int y0, .int y1]) rfl (Nat.le_of_ble_eq_true rfl) fq2 rfl (by decide) (W := 0) (Nat.le_of_eq rfl) (by decide) fun T2 h2 X2 K2 V2 => ?_
  have F3 := fc0.keep K2
  have F4 := fc1.keep K2 (ninS nq4 nin0)
  have F5 := fc2.keep K2 (ninS nq4 nin0)
  have F6 := fc3.keep K2 (ninS nq4 nin0)
  have F7 := fc4.keep K2 (ninS nq4 nin0)
  have F8 := fc5.keep K2 (ninS nq4 nin0)
  have F9 := fc6.keep K2 (ninS nq4 nin0)
  have F10 := fc7.keep K2 (ninS nq4 nin0)
  have F11 := fc8.keep K2 (ninS nq9 nin0)
  have F12 := fc10.keep K2 (ninS nq13 nin0)
  have F13 := fc11.keep K2 (ninS nq16 nin0)
  have F14 := fc12.keep K2 (ninS nq26 nin0)
  have F15 := (Keep.refl h0 [a, x1, oa, na]).trans K2 (allS (Or.inl (List.mem_of_getElem? (i := 1) rfl)) all0)
  have Z16 : n0 ≤ h2.size := Nat.le_trans Z0 K2.1
  have V17 : Arv Z h2 x1 c_pl .int (2 : Int32) [.int y0, .int y1] (.int (0 : Int32)) := V2
  clear X1 fc0 fc1 fc10 fc11 fc12 fc2 fc3 fc4 fc5 fc6 fc7 fc8 fc9
  refine Own.aloadN X2 d6_14 rfl rfl ?_
  refine Own.getF_ X2 d6_15 (host := "") (Or.inl (Own.wd hw 24 rfl)) Via.refl F5 fun T18 X18 => ?_
  clear X2
  refine Own.iloadN X18 d6_18 rfl ?_
  refine Own.dloadN X18 d6_19 rfl ?_
  refine Own.dastore_ X18 (i := 1) d6_20 F12 (by decide) rfl (Nat.le_of_ble_eq_true rfl) fq4 fun T19 h19 X19 W19 V19 => ?_
  have F20 := F3.wr W19
  have F21 := F4.other W19 (Or.inl nq1)
  have F22 := F5.other W19 (Or.inl nq1)
  have F23 := F6.other W19 (Or.inl nq1)
  have F24 := F7.other W19 (Or.inl nq1)
  have F25 := F8.other W19 (Or.inl nq1)
  have F26 := F9.other W19 (Or.inl nq1)
  have F27 := F10.other W19 (Or.inl nq1)
  have F28 := F11.other W19 nq6
  have F29 := F13.other W19 (Ne.symm nq11)
  have F30 := F14.other W19 nq23
  have F31 := F15.wr W19 (Or.inl (List.mem_of_getElem? (i := 2) rfl))
  have F32 := V17.other W19 (Ne.symm nq13)
  have Z33 : n0 ≤ h19.size := by rw [W19.size]; exact Z16
  have V34 : Arv Z h19 oa k_oa .double (3 : Int32) [.double b0, .double dv, .double b2] (.double 0) := V19
  clear F10 F11 F12 F13 F14 F15 F3 F4 F5 F6 F7 F8 F9 V17 X18
  refine Own.aloadN X19 d6_21 rfl rfl ?_
  refine Own.getF_ X19 d6_22 (host := "") (Or.inl (Own.wd hw 27 rfl)) Via.refl F23 fun T35 X35 => ?_
  clear X19
  refine Own.iloadN X35 d6_25 rfl ?_
  refine Own.aloadN X35 d6_26 rfl rfl ?_
  refine Own.getF_ X35 d6_27 (host := "") (Or.inl (Own.wd hw 44 rfl)) Via.refl F25 fun T36 X36 => ?_
  clear X35
  refine Own.lastore_ X36 (i := 1) d6_30 F29 (by decide) rfl (Nat.le_of_ble_eq_true rfl) fq5 fun T37 h37 X37 W37 V37 => ?_
  have F38 := F20.wr W37
  have F39 := F21.other W37 (Or.inl nq2)
  have F40 := F22.other W37 (Or.inl nq2)
  have F41 := F23.other W37 (Or.inl nq2)
  have F42 := F24.other W37 (Or.inl nq2)
  have F43 := F25.other W37 (Or.inl nq2)
  have F44 := F26.other W37 (Or.inl nq2)
  have F45 := F27.other W37 (Or.inl nq2)
  have F46 := F28.other W37 nq7
  have F47 := F30.other W37 nq24
  have F48 := F31.wr W37 (Or.inl (List.mem_of_getElem? (i := 3) rfl))
  have F49 := F32.other W37 (Ne.symm nq16)
  have F50 := V34.other W37 nq11
  have Z51 : n0 ≤ h37.size := by rw [W37.size]; exact Z33
  have V52 : Arv Z h37 na k_na .long (3 : Int32) [.long m0, .long eJ, .long m2] (.long (0 : Int64)) := V37
  clear F20 F21 F22 F23 F24 F25 F26 F27 F28 F29 F30 F31 F32 V34 X36
  refine Own.aloadN X37 d6_31 rfl rfl ?_
  refine Own.dup X37 d6_32 rfl ?_
  refine Own.getF_ X37 d6_33 (host := "") (Or.inl (Own.wd hw 44 rfl)) Via.refl F43 fun T53 X53 => ?_
  clear X37
  refine Own.lconst X53 (v := 1) d6_36 rfl ?_
  refine Own.ladd X53 d6_37 ?_
  refine Own.putF_ X53 d6_38 (host := "") (Or.inl (Own.wd hw 44 rfl)) Via.refl F43 F38 (Or.inl (Own.wd hw 45 rfl)) (Own.wd hw 11 rfl) (ty := .long) (by decide) rfl rfl fq0 fun T54 h54 X54 W54 => ?_
  have F55 := F38.wr W54
  have F56 := F39.other W54 (Or.inr (slot_ne (Or.inr (Own.wd hw 22 rfl)) (Or.inl (Own.wd hw 45 rfl)) (by decide) (t := (.array (.array .int))) (t' := .long) (by decide) (by decide)))
  have F57 := F40.other W54 (Or.inr (slot_ne (Or.inr (Own.wd hw 25 rfl)) (Or.inl (Own.wd hw 45 rfl)) (by decide) (t := (.array .double)) (t' := .long) (by decide) (by decide)))
  have F58 := F41.other W54 (Or.inr (slot_ne (Or.inr (Own.wd hw 28 rfl)) (Or.inl (Own.wd hw 45 rfl)) (by decide) (t := (.array .long)) (t' := .long) (by decide) (by decide)))
  have F59 := F42.other W54 (Or.inr (slot_ne (Or.inl (Own.wd hw 35 rfl)) (Or.inl (Own.wd hw 45 rfl)) (by decide) (t := .int) (t' := .long) (by decide) (by decide)))
  have F60 := F44.other W54 (Or.inr (slot_ne (Or.inl (Own.wd hw 47 rfl)) (Or.inl (Own.wd hw 45 rfl)) (by decide) (t := .int) (t' := .long) (by decide) (by decide)))
  have F61 := F45.other W54 (Or.inr (slot_ne (Or.inl (Own.wd hw 49 rfl)) (Or.inl (Own.wd hw 45 rfl)) (by decide) (t := .int) (t' := .long) (by decide) (by decide)))
  have F62 := F46.other W54 (Ne.symm nq0)
  have F63 := F47.other W54 nq21
  have F64 := F48.wr W54 (Or.inl (List.mem_of_getElem? (i := 0) rfl))
  have F65 := F49.other W54 (Ne.symm nq4)
  have F66 := F50.other W54 (Ne.symm nq1)
  have F67 := V52.other W54 (Ne.symm nq2)
  have F68 : Fld Z h54 a "com/example/allocus/allocus/method/Population" "entries" "J" (.long (eJ + (1 : Int64))) := Fld.same W54 F43
  have Z69 : n0 ≤ h54.size := by rw [W54.size]; exact Z51
  clear F38 F39 F40 F41 F42 F43 F44 F45 F46 F47 F48 F49 F50 V52 X53
  exact Own.retV X54 d6_41 ⟨rfl, F64, F56, F57, F58, F59, F68, F60, F61, F65, F66, F67⟩ (by decide) (by decide)
theorem ef_6_2 (m : MethodId) (x0 : Addr) (x1 : Int32) (x2 : Addr) (x3 : UInt64) : entryFrame m #[.ref x0, .int x1, .ref x2, .double x3] 5 = mkF m 0 #[.val (.ref x0), .val (.int x1), .val (.ref x2), .val (.double x3), .second] [] := by first | (simp [entryFrame, mkF, argsToLocals, Value.category, maxLocals]; done) | rfl
set_option maxRecDepth 65536 in
set_option maxHeartbeats 40000000 in
theorem rm6_2 (l : Launch) (Z : State) (a0 : Array Value) (hw : ∀ d ∈ tables_1, d.before a0 Z = true) (a : Addr) (si : Addr) (dv : UInt64) (pl : Addr) (oa : Addr) (na : Addr) (x0 : Addr) (x1 : Addr) (x2 : Addr) (k_pl : ClassId) (c_pl : ClassId) (k_oa : ClassId) (k_na : ClassId) (b0 : UInt64) (b1 : UInt64) (b2 : UInt64) (m0 : Int64) (m1 : Int64) (m2 : Int64) (eJ : Int64) (k_si : ClassId) (y0 : Int32) (y1 : Int32) (u20 : Int32) (u21 : Int32) (ct : Int32) (wo : Int32) (be : Int32) (h0 : Heap) (n0 : Nat) (Z0 : n0 ≤ h0.size) (fc0 : Exa Z h0 a "com/example/allocus/allocus/method/Population") (fc1 : Fld Z h0 a "com/example/allocus/allocus/method/Population" "plans" "[[I" (.ref pl)) (fc2 : Fld Z h0 a "com/example/allocus/allocus/method/Population" "objectives" "[D" (.ref oa)) (fc3 : Fld Z h0 a "com/example/allocus/allocus/method/Population" "entered" "[J" (.ref na)) (fc4 : Fld Z h0 a "com/example/allocus/allocus/method/Population" "count" "I" (.int ct)) (fc5 : Fld Z h0 a "com/example/allocus/allocus/method/Population" "entries" "J" (.long eJ)) (fc6 : Fld Z h0 a "com/example/allocus/allocus/method/Population" "worst" "I" (.int wo)) (fc7 : Fld Z h0 a "com/example/allocus/allocus/method/Population" "best" "I" (.int be)) (fc8 : Arv Z h0 pl k_pl (.array .int) (3 : Int32) [.ref x0, .ref x1, .ref x2] (.null)) (fc9 : Arv Z h0 x2 c_pl .int (2 : Int32) [.int u20, .int u21] (.int (0 : Int32))) (fc10 : Arv Z h0 oa k_oa .double (3 : Int32) [.double b0, .double b1, .double b2] (.double 0)) (fc11 : Arv Z h0 na k_na .long (3 : Int32) [.long m0, .long m1, .long m2] (.long (0 : Int64))) (fc12 : Arv Z h0 si k_si .int (2 : Int32) [.int y0, .int y1] (.int (0 : Int32))) (nq0 : a ≠ pl) (nq1 : a ≠ oa) (nq2 : a ≠ na) (nq3 : a ≠ x0) (nq4 : a ≠ x1) (nq5 : a ≠ x2) (nq6 : pl ≠ oa) (nq7 : pl ≠ na) (nq8 : pl ≠ x0) (nq9 : pl ≠ x1) (nq10 : pl ≠ x2) (nq11 : oa ≠ na) (nq12 : oa ≠ x0) (nq13 : oa ≠ x1) (nq14 : oa ≠ x2) (nq15 : na ≠ x0) (nq16 : na ≠ x1) (nq17 : na ≠ x2) (nq18 : x0 ≠ x1) (nq19 : x0 ≠ x2) (nq20 : x1 ≠ x2) (nq21 : si ≠ a) (nq22 : si ≠ pl) (nq23 : si ≠ oa) (nq24 : si ≠ na) (nq25 : si ≠ x0) (nq26 : si ≠ x1) (nq27 : si ≠ x2) (fq0 : n0 ≤ a) (fq1 : n0 ≤ x0) (fq2 : n0 ≤ x1) (fq3 : n0 ≤ x2) (fq4 : n0 ≤ oa) (fq5 : n0 ≤ na)  :
    Own.Con l Z mn_2 [] prog_48_method_10_code 5 none ({ frames := 1, cells := 0, slots := 0, locals := 32 } : Room) #[.ref a, .int (2 : Int32), .ref si, .double dv] h0 n0 (fun v h => v = none ∧ Keep h0 h [a, x2, oa, na] ∧ Fld Z h a "com/example/allocus/allocus/method/Population" "plans" "[[I" (.ref pl) ∧ Fld Z h a "com/example/allocus/allocus/method/Population" "objectives" "[D" (.ref oa) ∧ Fld Z h a "com/example/allocus/allocus/method/Population" "entered" "[J" (.ref na) ∧ Fld Z h a "com/example/allocus/allocus/method/Population" "count" "I" (.int ct) ∧ Fld Z h a "com/example/allocus/allocus/method/Population" "entries" "J" (.long (eJ + (1 : Int64))) ∧ Fld Z h a "com/example/allocus/allocus/method/Population" "worst" "I" (.int wo) ∧ Fld Z h a "com/example/allocus/allocus/method/Population" "best" "I" (.int be) ∧ Arv Z h x2 c_pl .int (2 : Int32) [.int y0, .int y1] (.int (0 : Int32)) ∧ Arv Z h oa k_oa .double (3 : Int32) [.double b0, .double b1, .double dv] (.double 0) ∧ Arv Z h na k_na .long (3 : Int32) [.long m0, .long m1, .long eJ] (.long (0 : Int64))) := by
  refine Own.enter (own := "com/example/allocus/allocus/method/Population") (nm := "put") (plainFor_of_name pn_com_example_allocus_allocus_method_Population) rfl rfl (fun m => ef_6_2 m a (2 : Int32) si dv) fun p e s m below meth c T X => ?_
  refine Own.aloadN X d6_0 rfl rfl ?_
  refine Own.iconst X (v := 0) d6_1 rfl ?_
  refine Own.aloadN X d6_2 rfl rfl ?_
  refine Own.getF_ X d6_3 (host := "") (Or.inl (Own.wd hw 21 rfl)) Via.refl fc1 fun T1 X1 => ?_
  clear X
  refine Own.iloadN X1 d6_6 rfl ?_
  refine Own.aaload_ X1 d6_7 fc8 rfl (by decide) rfl ?_
  refine Own.iconst X1 (v := 0) d6_8 rfl ?_
  refine Own.aloadN X1 d6_9 rfl rfl ?_
  refine Own.alen_ X1 d6_10 fc12 ?_
  refine Own.cpA_ X1 d6_11 (Own.wd hw 40 rfl) (Own.wd hw 43 rfl) (Own.wd hw 41 rfl) (Own.wd hw 42 rfl) fc12 fc9 rfl (by decide) (by decide) (by decide) (by decide) (by decide) (us := [.int y0, .int y1]) rfl (Nat.le_of_ble_eq_true rfl) fq3 rfl (by decide) (W := 0) (Nat.le_of_eq rfl) (by decide) fun T2 h2 X2 K2 V2 => ?_
  have F3 := fc0.keep K2
  have F4 := fc1.keep K2 (ninS nq5 nin0)
  have F5 := fc2.keep K2 (ninS nq5 nin0)
  have F6 := fc3.keep K2 (ninS nq5 nin0)
  have F7 := fc4.keep K2 (ninS nq5 nin0)
  have F8 := fc5.keep K2 (ninS nq5 nin0)
  have F9 := fc6.keep K2 (ninS nq5 nin0)
  have F10 := fc7.keep K2 (ninS nq5 nin0)
  have F11 := fc8.keep K2 (ninS nq10 nin0)
  have F12 := fc10.keep K2 (ninS nq14 nin0)
  have F13 := fc11.keep K2 (ninS nq17 nin0)
  have F14 := fc12.keep K2 (ninS nq27 nin0)
  have F15 := (Keep.refl h0 [a, x2, oa, na]).trans K2 (allS (Or.inl (List.mem_of_getElem? (i := 1) rfl)) all0)
  have Z16 : n0 ≤ h2.size := Nat.le_trans Z0 K2.1
  have V17 : Arv Z h2 x2 c_pl .int (2 : Int32) [.int y0, .int y1] (.int (0 : Int32)) := V2
  clear X1 fc0 fc1 fc10 fc11 fc12 fc2 fc3 fc4 fc5 fc6 fc7 fc8 fc9
  refine Own.aloadN X2 d6_14 rfl rfl ?_
  refine Own.getF_ X2 d6_15 (host := "") (Or.inl (Own.wd hw 24 rfl)) Via.refl F5 fun T18 X18 => ?_
  clear X2
  refine Own.iloadN X18 d6_18 rfl ?_
  refine Own.dloadN X18 d6_19 rfl ?_
  refine Own.dastore_ X18 (i := 2) d6_20 F12 (by decide) rfl (Nat.le_of_ble_eq_true rfl) fq4 fun T19 h19 X19 W19 V19 => ?_
  have F20 := F3.wr W19
  have F21 := F4.other W19 (Or.inl nq1)
  have F22 := F5.other W19 (Or.inl nq1)
  have F23 := F6.other W19 (Or.inl nq1)
  have F24 := F7.other W19 (Or.inl nq1)
  have F25 := F8.other W19 (Or.inl nq1)
  have F26 := F9.other W19 (Or.inl nq1)
  have F27 := F10.other W19 (Or.inl nq1)
  have F28 := F11.other W19 nq6
  have F29 := F13.other W19 (Ne.symm nq11)
  have F30 := F14.other W19 nq23
  have F31 := F15.wr W19 (Or.inl (List.mem_of_getElem? (i := 2) rfl))
  have F32 := V17.other W19 (Ne.symm nq14)
  have Z33 : n0 ≤ h19.size := by rw [W19.size]; exact Z16
  have V34 : Arv Z h19 oa k_oa .double (3 : Int32) [.double b0, .double b1, .double dv] (.double 0) := V19
  clear F10 F11 F12 F13 F14 F15 F3 F4 F5 F6 F7 F8 F9 V17 X18
  refine Own.aloadN X19 d6_21 rfl rfl ?_
  refine Own.getF_ X19 d6_22 (host := "") (Or.inl (Own.wd hw 27 rfl)) Via.refl F23 fun T35 X35 => ?_
  clear X19
  refine Own.iloadN X35 d6_25 rfl ?_
  refine Own.aloadN X35 d6_26 rfl rfl ?_
  refine Own.getF_ X35 d6_27 (host := "") (Or.inl (Own.wd hw 44 rfl)) Via.refl F25 fun T36 X36 => ?_
  clear X35
  refine Own.lastore_ X36 (i := 2) d6_30 F29 (by decide) rfl (Nat.le_of_ble_eq_true rfl) fq5 fun T37 h37 X37 W37 V37 => ?_
  have F38 := F20.wr W37
  have F39 := F21.other W37 (Or.inl nq2)
  have F40 := F22.other W37 (Or.inl nq2)
  have F41 := F23.other W37 (Or.inl nq2)
  have F42 := F24.other W37 (Or.inl nq2)
  have F43 := F25.other W37 (Or.inl nq2)
  have F44 := F26.other W37 (Or.inl nq2)
  have F45 := F27.other W37 (Or.inl nq2)
  have F46 := F28.other W37 nq7
  have F47 := F30.other W37 nq24
  have F48 := F31.wr W37 (Or.inl (List.mem_of_getElem? (i := 3) rfl))
  have F49 := F32.other W37 (Ne.symm nq17)
  have F50 := V34.other W37 nq11
  have Z51 : n0 ≤ h37.size := by rw [W37.size]; exact Z33
  have V52 : Arv Z h37 na k_na .long (3 : Int32) [.long m0, .long m1, .long eJ] (.long (0 : Int64)) := V37
  clear F20 F21 F22 F23 F24 F25 F26 F27 F28 F29 F30 F31 F32 V34 X36
  refine Own.aloadN X37 d6_31 rfl rfl ?_
  refine Own.dup X37 d6_32 rfl ?_
  refine Own.getF_ X37 d6_33 (host := "") (Or.inl (Own.wd hw 44 rfl)) Via.refl F43 fun T53 X53 => ?_
  clear X37
  refine Own.lconst X53 (v := 1) d6_36 rfl ?_
  refine Own.ladd X53 d6_37 ?_
  refine Own.putF_ X53 d6_38 (host := "") (Or.inl (Own.wd hw 44 rfl)) Via.refl F43 F38 (Or.inl (Own.wd hw 45 rfl)) (Own.wd hw 11 rfl) (ty := .long) (by decide) rfl rfl fq0 fun T54 h54 X54 W54 => ?_
  have F55 := F38.wr W54
  have F56 := F39.other W54 (Or.inr (slot_ne (Or.inr (Own.wd hw 22 rfl)) (Or.inl (Own.wd hw 45 rfl)) (by decide) (t := (.array (.array .int))) (t' := .long) (by decide) (by decide)))
  have F57 := F40.other W54 (Or.inr (slot_ne (Or.inr (Own.wd hw 25 rfl)) (Or.inl (Own.wd hw 45 rfl)) (by decide) (t := (.array .double)) (t' := .long) (by decide) (by decide)))
  have F58 := F41.other W54 (Or.inr (slot_ne (Or.inr (Own.wd hw 28 rfl)) (Or.inl (Own.wd hw 45 rfl)) (by decide) (t := (.array .long)) (t' := .long) (by decide) (by decide)))
  have F59 := F42.other W54 (Or.inr (slot_ne (Or.inl (Own.wd hw 35 rfl)) (Or.inl (Own.wd hw 45 rfl)) (by decide) (t := .int) (t' := .long) (by decide) (by decide)))
  have F60 := F44.other W54 (Or.inr (slot_ne (Or.inl (Own.wd hw 47 rfl)) (Or.inl (Own.wd hw 45 rfl)) (by decide) (t := .int) (t' := .long) (by decide) (by decide)))
  have F61 := F45.other W54 (Or.inr (slot_ne (Or.inl (Own.wd hw 49 rfl)) (Or.inl (Own.wd hw 45 rfl)) (by decide) (t := .int) (t' := .long) (by decide) (by decide)))
  have F62 := F46.other W54 (Ne.symm nq0)
  have F63 := F47.other W54 nq21
  have F64 := F48.wr W54 (Or.inl (List.mem_of_getElem? (i := 0) rfl))
  have F65 := F49.other W54 (Ne.symm nq5)
  have F66 := F50.other W54 (Ne.symm nq1)
  have F67 := V52.other W54 (Ne.symm nq2)
  have F68 : Fld Z h54 a "com/example/allocus/allocus/method/Population" "entries" "J" (.long (eJ + (1 : Int64))) := Fld.same W54 F43
  have Z69 : n0 ≤ h54.size := by rw [W54.size]; exact Z51
  clear F38 F39 F40 F41 F42 F43 F44 F45 F46 F47 F48 F49 F50 V52 X53
  exact Own.retV X54 d6_41 ⟨rfl, F64, F56, F57, F58, F59, F68, F60, F61, F65, F66, F67⟩ (by decide) (by decide)
theorem ef_5_00000 (m : MethodId) (x0 : Addr) (x1 : Addr) (x2 : UInt64) : entryFrame m #[.ref x0, .ref x1, .double x2] 5 = mkF m 0 #[.val (.ref x0), .val (.ref x1), .val (.double x2), .second, .unset] [] := by first | (simp [entryFrame, mkF, argsToLocals, Value.category, maxLocals]; done) | rfl
set_option maxRecDepth 65536 in
set_option maxHeartbeats 40000000 in
theorem rm5_00000 (l : Launch) (Z : State) (a0 : Array Value) (hw : ∀ d ∈ tables_1, d.before a0 Z = true) (a : Addr) (si : Addr) (dv : UInt64) (pl : Addr) (oa : Addr) (na : Addr) (x0 : Addr) (x1 : Addr) (x2 : Addr) (k_pl : ClassId) (c_pl : ClassId) (k_oa : ClassId) (k_na : ClassId) (b0 : UInt64) (b1 : UInt64) (b2 : UInt64) (m0 : Int64) (m1 : Int64) (m2 : Int64) (eJ : Int64) (k_si : ClassId) (y0 : Int32) (y1 : Int32) (u00 : Int32) (u01 : Int32) (h0 : Heap) (n0 : Nat) (Z0 : n0 ≤ h0.size) (fc0 : Exa Z h0 a "com/example/allocus/allocus/method/Population") (fc1 : Fld Z h0 a "com/example/allocus/allocus/method/Population" "plans" "[[I" (.ref pl)) (fc2 : Fld Z h0 a "com/example/allocus/allocus/method/Population" "objectives" "[D" (.ref oa)) (fc3 : Fld Z h0 a "com/example/allocus/allocus/method/Population" "entered" "[J" (.ref na)) (fc4 : Fld Z h0 a "com/example/allocus/allocus/method/Population" "count" "I" (.int (0 : Int32))) (fc5 : Fld Z h0 a "com/example/allocus/allocus/method/Population" "entries" "J" (.long eJ)) (fc6 : Fld Z h0 a "com/example/allocus/allocus/method/Population" "worst" "I" (.int (0 : Int32))) (fc7 : Fld Z h0 a "com/example/allocus/allocus/method/Population" "best" "I" (.int (0 : Int32))) (fc8 : Arv Z h0 pl k_pl (.array .int) (3 : Int32) [.ref x0, .ref x1, .ref x2] (.null)) (fc9 : Arv Z h0 x0 c_pl .int (2 : Int32) [.int u00, .int u01] (.int (0 : Int32))) (fc10 : Arv Z h0 oa k_oa .double (3 : Int32) [.double b0, .double b1, .double b2] (.double 0)) (fc11 : Arv Z h0 na k_na .long (3 : Int32) [.long m0, .long m1, .long m2] (.long (0 : Int64))) (fc12 : Arv Z h0 si k_si .int (2 : Int32) [.int y0, .int y1] (.int (0 : Int32))) (nq0 : a ≠ pl) (nq1 : a ≠ oa) (nq2 : a ≠ na) (nq3 : a ≠ x0) (nq4 : a ≠ x1) (nq5 : a ≠ x2) (nq6 : pl ≠ oa) (nq7 : pl ≠ na) (nq8 : pl ≠ x0) (nq9 : pl ≠ x1) (nq10 : pl ≠ x2) (nq11 : oa ≠ na) (nq12 : oa ≠ x0) (nq13 : oa ≠ x1) (nq14 : oa ≠ x2) (nq15 : na ≠ x0) (nq16 : na ≠ x1) (nq17 : na ≠ x2) (nq18 : x0 ≠ x1) (nq19 : x0 ≠ x2) (nq20 : x1 ≠ x2) (nq21 : si ≠ a) (nq22 : si ≠ pl) (nq23 : si ≠ oa) (nq24 : si ≠ na) (nq25 : si ≠ x0) (nq26 : si ≠ x1) (nq27 : si ≠ x2) (fq0 : n0 ≤ a) (fq1 : n0 ≤ x0) (fq2 : n0 ≤ x1) (fq3 : n0 ≤ x2) (fq4 : n0 ≤ oa) (fq5 : n0 ≤ na) (n_dv : NoNaN64 dv)  :
    Own.Con l Z mn_4 [] prog_48_method_5_code 5 none ({ frames := 2, cells := 0, slots := 0, locals := 48 } : Room) #[.ref a, .ref si, .double dv] h0 n0 (fun v h => v = none ∧ Keep h0 h [a, x0, oa, na] ∧ Fld Z h a "com/example/allocus/allocus/method/Population" "plans" "[[I" (.ref pl) ∧ Fld Z h a "com/example/allocus/allocus/method/Population" "objectives" "[D" (.ref oa) ∧ Fld Z h a "com/example/allocus/allocus/method/Population" "entered" "[J" (.ref na) ∧ Fld Z h a "com/example/allocus/allocus/method/Population" "count" "I" (.int (1 : Int32)) ∧ Fld Z h a "com/example/allocus/allocus/method/Population" "entries" "J" (.long (eJ + (1 : Int64))) ∧ Fld Z h a "com/example/allocus/allocus/method/Population" "worst" "I" (.int (0 : Int32)) ∧ Fld Z h a "com/example/allocus/allocus/method/Population" "best" "I" (.int (0 : Int32)) ∧ Arv Z h x0 c_pl .int (2 : Int32) [.int y0, .int y1] (.int (0 : Int32)) ∧ Arv Z h oa k_oa .double (3 : Int32) [.double dv, .double b1, .double b2] (.double 0) ∧ Arv Z h na k_na .long (3 : Int32) [.long eJ, .long m1, .long m2] (.long (0 : Int64))) := by
  refine Own.enter (own := "com/example/allocus/allocus/method/Population") (nm := "add") (plainFor_of_name pn_com_example_allocus_allocus_method_Population) rfl rfl (fun m => ef_5_00000 m a si dv) fun p e s m below meth c T X => ?_
  refine Own.aloadN X d5_0 rfl rfl ?_
  refine Own.getF_ X d5_1 (host := "") (Or.inl (Own.wd hw 34 rfl)) Via.refl fc4 fun T1 X1 => ?_
  clear X
  refine Own.istore X1 d5_4 (l' := #[.val (.ref a), .val (.ref si), .val (.double dv), .second, .val (.int (0 : Int32))]) rfl ?_
  refine Own.aloadN X1 d5_6 rfl rfl ?_
  refine Own.dup X1 d5_7 rfl ?_
  refine Own.getF_ X1 d5_8 (host := "") (Or.inl (Own.wd hw 34 rfl)) Via.refl fc4 fun T2 X2 => ?_
  clear X1
  refine Own.iconst X2 (v := 1) d5_11 rfl ?_
  refine Own.iadd X2 d5_12 ?_
  show Own.Go p e below s n0 _ _ _ (T2.setTop (mkF m 13 _ [.int (1 : Int32), .ref a]))
  refine Own.putF_ X2 d5_13 (host := "") (Or.inl (Own.wd hw 34 rfl)) Via.refl fc4 fc0 (Or.inl (Own.wd hw 35 rfl)) (Own.wd hw 11 rfl) (ty := .int) (by decide) rfl rfl fq0 fun T3 h3 X3 W3 => ?_
  have F4 := fc0.wr W3
  have F5 := fc1.other W3 (Or.inr (slot_ne (Or.inr (Own.wd hw 22 rfl)) (Or.inl (Own.wd hw 35 rfl)) (by decide) (t := (.array (.array .int))) (t' := .int) (by decide) (by decide)))
  have F6 := fc2.other W3 (Or.inr (slot_ne (Or.inr (Own.wd hw 25 rfl)) (Or.inl (Own.wd hw 35 rfl)) (by decide) (t := (.array .double)) (t' := .int) (by decide) (by decide)))
  have F7 := fc3.other W3 (Or.inr (slot_ne (Or.inr (Own.wd hw 28 rfl)) (Or.inl (Own.wd hw 35 rfl)) (by decide) (t := (.array .long)) (t' := .int) (by decide) (by decide)))
  have F8 := fc5.other W3 (Or.inr (slot_ne (Or.inl (Own.wd hw 45 rfl)) (Or.inl (Own.wd hw 35 rfl)) (by decide) (t := .long) (t' := .int) (by decide) (by decide)))
  have F9 := fc6.other W3 (Or.inr (slot_ne (Or.inl (Own.wd hw 47 rfl)) (Or.inl (Own.wd hw 35 rfl)) (by decide) (t := .int) (t' := .int) (by decide) (by decide)))
  have F10 := fc7.other W3 (Or.inr (slot_ne (Or.inl (Own.wd hw 49 rfl)) (Or.inl (Own.wd hw 35 rfl)) (by decide) (t := .int) (t' := .int) (by decide) (by decide)))
  have F11 := fc8.other W3 (Ne.symm nq0)
  have F12 := fc9.other W3 (Ne.symm nq3)
  have F13 := fc10.other W3 (Ne.symm nq1)
  have F14 := fc11.other W3 (Ne.symm nq2)
  have F15 := fc12.other W3 nq21
  have F16 := (Keep.refl h0 [a, x0, oa, na]).wr W3 (Or.inl (List.mem_of_getElem? (i := 0) rfl))
  have F17 : Fld Z h3 a "com/example/allocus/allocus/method/Population" "count" "I" (.int (1 : Int32)) := Fld.same W3 fc4
  have Z18 : n0 ≤ h3.size := by rw [W3.size]; exact Z0
  clear X2 fc0 fc1 fc10 fc11 fc12 fc2 fc3 fc4 fc5 fc6 fc7 fc8 fc9
  refine Own.aloadN X3 d5_16 rfl rfl ?_
  refine Own.iload X3 d5_17 rfl ?_
  refine Own.aloadN X3 d5_19 rfl rfl ?_
  refine Own.dloadN X3 d5_20 rfl ?_
  refine Own.callP_ (y := mn_2) (D := "com/example/allocus/allocus/method/Population") (z' := mn_4) (z := mn_4) (a := a) X3 d5_21 (Own.wd hw 36 rfl) (Own.wd hw 37 rfl) (Own.wd hw 32 rfl) rfl (Own.wd hw 38 rfl) (Own.wd hw 12 rfl) (Own.wd hw 39 rfl) (by decide) F4 (rm6_0 l Z a0 hw a si dv pl oa na x0 x1 x2 k_pl c_pl k_oa k_na b0 b1 b2 m0 m1 m2 eJ k_si y0 y1 u00 u01 (1 : Int32) (0 : Int32) (0 : Int32) h3 n0 Z18 F4 F5 F6 F7 F17 F8 F9 F10 F11 F12 F13 F14 F15 nq0 nq1 nq2 nq3 nq4 nq5 nq6 nq7 nq8 nq9 nq10 nq11 nq12 nq13 nq14 nq15 nq16 nq17 nq18 nq19 nq20 nq21 nq22 nq23 nq24 nq25 nq26 nq27 fq0 fq1 fq2 fq3 fq4 fq5 ) (lenOf pd_3 rfl) rfl (argsL := [.int (0 : Int32), .ref si, .double dv]) (rest := []) rfl (W := 0) (Nat.le_of_eq rfl) (by decide) (by decide) (by decide) (by decide) fun T19 h19 v19 X19 q19 => ?_
  obtain ⟨rfl, K19, G19_0, G19_1, G19_2, G19_3, G19_4, G19_5, G19_6, G19_7, G19_8, G19_9⟩ := q19
  have F20 := F4.keep K19
  have F21 := F11.keep K19 (ninS (Ne.symm nq0) (ninS nq8 (ninS nq6 (ninS nq7 nin0))))
  have F22 := F15.keep K19 (ninS nq21 (ninS nq25 (ninS nq23 (ninS nq24 nin0))))
  have F23 := F16.trans K19 (allS (Or.inl (List.mem_of_getElem? (i := 0) rfl)) (allS (Or.inl (List.mem_of_getElem? (i := 1) rfl)) (allS (Or.inl (List.mem_of_getElem? (i := 2) rfl)) (allS (Or.inl (List.mem_of_getElem? (i := 3) rfl)) all0))))
  have Z24 : n0 ≤ h19.size := Nat.le_trans Z18 K19.1
  show Own.Go p e below s n0 _ _ _ (T19.setTop (mkF m 24 _ []))
  clear F10 F11 F12 F13 F14 F15 F16 F17 F4 F5 F6 F7 F8 F9 X3
  refine Own.iload X19 d5_24 rfl ?_
  refine Own.iff_ X19 (pc' := 43) d5_26 (by decide) (fun _ => ?_) (fun q => absurd (show (0 : Int) = (0 : Int) from by decide) q)
  refine Own.aloadN X19 d5_43 rfl rfl ?_
  refine Own.iload X19 d5_44 rfl ?_
  refine Own.putF_ X19 d5_46 (host := "") (Or.inl (Own.wd hw 46 rfl)) Via.refl G19_5 F20 (Or.inl (Own.wd hw 47 rfl)) (Own.wd hw 11 rfl) (ty := .int) (by decide) rfl rfl fq0 fun T25 h25 X25 W25 => ?_
  have F26 := F20.wr W25
  have F27 := F21.other W25 (Ne.symm nq0)
  have F28 := F22.other W25 nq21
  have F29 := F23.wr W25 (Or.inl (List.mem_of_getElem? (i := 0) rfl))
  have F30 := G19_0.other W25 (Or.inr (slot_ne (Or.inr (Own.wd hw 22 rfl)) (Or.inl (Own.wd hw 47 rfl)) (by decide) (t := (.array (.array .int))) (t' := .int) (by decide) (by decide)))
  have F31 := G19_1.other W25 (Or.inr (slot_ne (Or.inr (Own.wd hw 25 rfl)) (Or.inl (Own.wd hw 47 rfl)) (by decide) (t := (.array .double)) (t' := .int) (by decide) (by decide)))
  have F32 := G19_2.other W25 (Or.inr (slot_ne (Or.inr (Own.wd hw 28 rfl)) (Or.inl (Own.wd hw 47 rfl)) (by decide) (t := (.array .long)) (t' := .int) (by decide) (by decide)))
  have F33 := G19_3.other W25 (Or.inr (slot_ne (Or.inl (Own.wd hw 35 rfl)) (Or.inl (Own.wd hw 47 rfl)) (by decide) (t := .int) (t' := .int) (by decide) (by decide)))
  have F34 := G19_4.other W25 (Or.inr (slot_ne (Or.inl (Own.wd hw 45 rfl)) (Or.inl (Own.wd hw 47 rfl)) (by decide) (t := .long) (t' := .int) (by decide) (by decide)))
  have F35 := G19_6.other W25 (Or.inr (slot_ne (Or.inl (Own.wd hw 49 rfl)) (Or.inl (Own.wd hw 47 rfl)) (by decide) (t := .int) (t' := .int) (by decide) (by decide)))
  have F36 := G19_7.other W25 (Ne.symm nq3)
  have F37 := G19_8.other W25 (Ne.symm nq1)
  have F38 := G19_9.other W25 (Ne.symm nq2)
  have F39 : Fld Z h25 a "com/example/allocus/allocus/method/Population" "worst" "I" (.int (0 : Int32)) := Fld.same W25 G19_5
  have Z40 : n0 ≤ h25.size := by rw [W25.size]; exact Z24
  clear F20 F21 F22 F23 G19_0 G19_1 G19_2 G19_3 G19_4 G19_5 G19_6 G19_7 G19_8 G19_9 X19
  refine Own.iload X25 d5_49 rfl ?_
  refine Own.iff_ X25 (pc' := 68) d5_51 (by decide) (fun _ => ?_) (fun q => absurd (show (0 : Int) = (0 : Int) from by decide) q)
  refine Own.aloadN X25 d5_68 rfl rfl ?_
  refine Own.iload X25 d5_69 rfl ?_
  refine Own.putF_ X25 d5_71 (host := "") (Or.inl (Own.wd hw 48 rfl)) Via.refl F35 F26 (Or.inl (Own.wd hw 49 rfl)) (Own.wd hw 11 rfl) (ty := .int) (by decide) rfl rfl fq0 fun T41 h41 X41 W41 => ?_
  have F42 := F26.wr W41
  have F43 := F27.other W41 (Ne.symm nq0)
  have F44 := F28.other W41 nq21
  have F45 := F29.wr W41 (Or.inl (List.mem_of_getElem? (i := 0) rfl))
  have F46 := F30.other W41 (Or.inr (slot_ne (Or.inr (Own.wd hw 22 rfl)) (Or.inl (Own.wd hw 49 rfl)) (by decide) (t := (.array (.array .int))) (t' := .int) (by decide) (by decide)))
  have F47 := F31.other W41 (Or.inr (slot_ne (Or.inr (Own.wd hw 25 rfl)) (Or.inl (Own.wd hw 49 rfl)) (by decide) (t := (.array .double)) (t' := .int) (by decide) (by decide)))
  have F48 := F32.other W41 (Or.inr (slot_ne (Or.inr (Own.wd hw 28 rfl)) (Or.inl (Own.wd hw 49 rfl)) (by decide) (t := (.array .long)) (t' := .int) (by decide) (by decide)))
  have F49 := F33.other W41 (Or.inr (slot_ne (Or.inl (Own.wd hw 35 rfl)) (Or.inl (Own.wd hw 49 rfl)) (by decide) (t := .int) (t' := .int) (by decide) (by decide)))
  have F50 := F34.other W41 (Or.inr (slot_ne (Or.inl (Own.wd hw 45 rfl)) (Or.inl (Own.wd hw 49 rfl)) (by decide) (t := .long) (t' := .int) (by decide) (by decide)))
  have F51 := F36.other W41 (Ne.symm nq3)
  have F52 := F37.other W41 (Ne.symm nq1)
  have F53 := F38.other W41 (Ne.symm nq2)
  have F54 := F39.other W41 (Or.inr (slot_ne (Or.inl (Own.wd hw 47 rfl)) (Or.inl (Own.wd hw 49 rfl)) (by decide) (t := .int) (t' := .int) (by decide) (by decide)))
  have F55 : Fld Z h41 a "com/example/allocus/allocus/method/Population" "best" "I" (.int (0 : Int32)) := Fld.same W41 F35
  have Z56 : n0 ≤ h41.size := by rw [W41.size]; exact Z40
  clear F26 F27 F28 F29 F30 F31 F32 F33 F34 F35 F36 F37 F38 F39 X25
  exact Own.retV X41 d5_74 ⟨rfl, F45, F46, F47, F48, F49, F50, F54, F55, F51, F52, F53⟩ (by decide) (by decide)
theorem ef_5_10010 (m : MethodId) (x0 : Addr) (x1 : Addr) (x2 : UInt64) : entryFrame m #[.ref x0, .ref x1, .double x2] 5 = mkF m 0 #[.val (.ref x0), .val (.ref x1), .val (.double x2), .second, .unset] [] := by first | (simp [entryFrame, mkF, argsToLocals, Value.category, maxLocals]; done) | rfl
set_option maxRecDepth 65536 in
set_option maxHeartbeats 40000000 in
theorem rm5_10010 (l : Launch) (Z : State) (a0 : Array Value) (hw : ∀ d ∈ tables_1, d.before a0 Z = true) (a : Addr) (si : Addr) (dv : UInt64) (pl : Addr) (oa : Addr) (na : Addr) (x0 : Addr) (x1 : Addr) (x2 : Addr) (k_pl : ClassId) (c_pl : ClassId) (k_oa : ClassId) (k_na : ClassId) (b0 : UInt64) (b1 : UInt64) (b2 : UInt64) (m0 : Int64) (m1 : Int64) (m2 : Int64) (eJ : Int64) (k_si : ClassId) (y0 : Int32) (y1 : Int32) (u10 : Int32) (u11 : Int32) (h0 : Heap) (n0 : Nat) (Z0 : n0 ≤ h0.size) (fc0 : Exa Z h0 a "com/example/allocus/allocus/method/Population") (fc1 : Fld Z h0 a "com/example/allocus/allocus/method/Population" "plans" "[[I" (.ref pl)) (fc2 : Fld Z h0 a "com/example/allocus/allocus/method/Population" "objectives" "[D" (.ref oa)) (fc3 : Fld Z h0 a "com/example/allocus/allocus/method/Population" "entered" "[J" (.ref na)) (fc4 : Fld Z h0 a "com/example/allocus/allocus/method/Population" "count" "I" (.int (1 : Int32))) (fc5 : Fld Z h0 a "com/example/allocus/allocus/method/Population" "entries" "J" (.long eJ)) (fc6 : Fld Z h0 a "com/example/allocus/allocus/method/Population" "worst" "I" (.int (0 : Int32))) (fc7 : Fld Z h0 a "com/example/allocus/allocus/method/Population" "best" "I" (.int (0 : Int32))) (fc8 : Arv Z h0 pl k_pl (.array .int) (3 : Int32) [.ref x0, .ref x1, .ref x2] (.null)) (fc9 : Arv Z h0 x1 c_pl .int (2 : Int32) [.int u10, .int u11] (.int (0 : Int32))) (fc10 : Arv Z h0 oa k_oa .double (3 : Int32) [.double b0, .double b1, .double b2] (.double 0)) (fc11 : Arv Z h0 na k_na .long (3 : Int32) [.long m0, .long m1, .long m2] (.long (0 : Int64))) (fc12 : Arv Z h0 si k_si .int (2 : Int32) [.int y0, .int y1] (.int (0 : Int32))) (nq0 : a ≠ pl) (nq1 : a ≠ oa) (nq2 : a ≠ na) (nq3 : a ≠ x0) (nq4 : a ≠ x1) (nq5 : a ≠ x2) (nq6 : pl ≠ oa) (nq7 : pl ≠ na) (nq8 : pl ≠ x0) (nq9 : pl ≠ x1) (nq10 : pl ≠ x2) (nq11 : oa ≠ na) (nq12 : oa ≠ x0) (nq13 : oa ≠ x1) (nq14 : oa ≠ x2) (nq15 : na ≠ x0) (nq16 : na ≠ x1) (nq17 : na ≠ x2) (nq18 : x0 ≠ x1) (nq19 : x0 ≠ x2) (nq20 : x1 ≠ x2) (nq21 : si ≠ a) (nq22 : si ≠ pl) (nq23 : si ≠ oa) (nq24 : si ≠ na) (nq25 : si ≠ x0) (nq26 : si ≠ x1) (nq27 : si ≠ x2) (fq0 : n0 ≤ a) (fq1 : n0 ≤ x0) (fq2 : n0 ≤ x1) (fq3 : n0 ≤ x2) (fq4 : n0 ≤ oa) (fq5 : n0 ≤ na) (n_dv : NoNaN64 dv) (n_b0 : NoNaN64 b0) (c1 : Own.dz b0 < Own.dz dv) (c2 : Own.dz b0 ≤ Own.dz dv) :
    Own.Con l Z mn_4 [] prog_48_method_5_code 5 none ({ frames := 2, cells := 0, slots := 0, locals := 48 } : Room) #[.ref a, .ref si, .double dv] h0 n0 (fun v h => v = none ∧ Keep h0 h [a, x1, oa, na] ∧ Fld Z h a "com/example/allocus/allocus/method/Population" "plans" "[[I" (.ref pl) ∧ Fld Z h a "com/example/allocus/allocus/method/Population" "objectives" "[D" (.ref oa) ∧ Fld Z h a "com/example/allocus/allocus/method/Population" "entered" "[J" (.ref na) ∧ Fld Z h a "com/example/allocus/allocus/method/Population" "count" "I" (.int (2 : Int32)) ∧ Fld Z h a "com/example/allocus/allocus/method/Population" "entries" "J" (.long (eJ + (1 : Int64))) ∧ Fld Z h a "com/example/allocus/allocus/method/Population" "worst" "I" (.int (1 : Int32)) ∧ Fld Z h a "com/example/allocus/allocus/method/Population" "best" "I" (.int (0 : Int32)) ∧ Arv Z h x1 c_pl .int (2 : Int32) [.int y0, .int y1] (.int (0 : Int32)) ∧ Arv Z h oa k_oa .double (3 : Int32) [.double b0, .double dv, .double b2] (.double 0) ∧ Arv Z h na k_na .long (3 : Int32) [.long m0, .long eJ, .long m2] (.long (0 : Int64))) := by
  refine Own.enter (own := "com/example/allocus/allocus/method/Population") (nm := "add") (plainFor_of_name pn_com_example_allocus_allocus_method_Population) rfl rfl (fun m => ef_5_10010 m a si dv) fun p e s m below meth c T X => ?_
  refine Own.aloadN X d5_0 rfl rfl ?_
  refine Own.getF_ X d5_1 (host := "") (Or.inl (Own.wd hw 34 rfl)) Via.refl fc4 fun T1 X1 => ?_
  clear X
  refine Own.istore X1 d5_4 (l' := #[.val (.ref a), .val (.ref si), .val (.double dv), .second, .val (.int (1 : Int32))]) rfl ?_
  refine Own.aloadN X1 d5_6 rfl rfl ?_
  refine Own.dup X1 d5_7 rfl ?_
  refine Own.getF_ X1 d5_8 (host := "") (Or.inl (Own.wd hw 34 rfl)) Via.refl fc4 fun T2 X2 => ?_
  clear X1
  refine Own.iconst X2 (v := 1) d5_11 rfl ?_
  refine Own.iadd X2 d5_12 ?_
  show Own.Go p e below s n0 _ _ _ (T2.setTop (mkF m 13 _ [.int (2 : Int32), .ref a]))
  refine Own.putF_ X2 d5_13 (host := "") (Or.inl (Own.wd hw 34 rfl)) Via.refl fc4 fc0 (Or.inl (Own.wd hw 35 rfl)) (Own.wd hw 11 rfl) (ty := .int) (by decide) rfl rfl fq0 fun T3 h3 X3 W3 => ?_
  have F4 := fc0.wr W3
  have F5 := fc1.other W3 (Or.inr (slot_ne (Or.inr (Own.wd hw 22 rfl)) (Or.inl (Own.wd hw 35 rfl)) (by decide) (t := (.array (.array .int))) (t' := .int) (by decide) (by decide)))
  have F6 := fc2.other W3 (Or.inr (slot_ne (Or.inr (Own.wd hw 25 rfl)) (Or.inl (Own.wd hw 35 rfl)) (by decide) (t := (.array .double)) (t' := .int) (by decide) (by decide)))
  have F7 := fc3.other W3 (Or.inr (slot_ne (Or.inr (Own.wd hw 28 rfl)) (Or.inl (Own.wd hw 35 rfl)) (by decide) (t := (.array .long)) (t' := .int) (by decide) (by decide)))
  have F8 := fc5.other W3 (Or.inr (slot_ne (Or.inl (Own.wd hw 45 rfl)) (Or.inl (Own.wd hw 35 rfl)) (by decide) (t := .long) (t' := .int) (by decide) (by decide)))
  have F9 := fc6.other W3 (Or.inr (slot_ne (Or.inl (Own.wd hw 47 rfl)) (Or.inl (Own.wd hw 35 rfl)) (by decide) (t := .int) (t' := .int) (by decide) (by decide)))
  have F10 := fc7.other W3 (Or.inr (slot_ne (Or.inl (Own.wd hw 49 rfl)) (Or.inl (Own.wd hw 35 rfl)) (by decide) (t := .int) (t' := .int) (by decide) (by decide)))
  have F11 := fc8.other W3 (Ne.symm nq0)
  have F12 := fc9.other W3 (Ne.symm nq4)
  have F13 := fc10.other W3 (Ne.symm nq1)
  have F14 := fc11.other W3 (Ne.symm nq2)
  have F15 := fc12.other W3 nq21
  have F16 := (Keep.refl h0 [a, x1, oa, na]).wr W3 (Or.inl (List.mem_of_getElem? (i := 0) rfl))
  have F17 : Fld Z h3 a "com/example/allocus/allocus/method/Population" "count" "I" (.int (2 : Int32)) := Fld.same W3 fc4
  have Z18 : n0 ≤ h3.size := by rw [W3.size]; exact Z0
  clear X2 fc0 fc1 fc10 fc11 fc12 fc2 fc3 fc4 fc5 fc6 fc7 fc8 fc9
  refine Own.aloadN X3 d5_16 rfl rfl ?_
  refine Own.iload X3 d5_17 rfl ?_
  refine Own.aloadN X3 d5_19 rfl rfl ?_
  refine Own.dloadN X3 d5_20 rfl ?_
  refine Own.callP_ (y := mn_2) (D := "com/example/allocus/allocus/method/Population") (z' := mn_4) (z := mn_4) (a := a) X3 d5_21 (Own.wd hw 36 rfl) (Own.wd hw 37 rfl) (Own.wd hw 32 rfl) rfl (Own.wd hw 38 rfl) (Own.wd hw 12 rfl) (Own.wd hw 39 rfl) (by decide) F4 (rm6_1 l Z a0 hw a si dv pl oa na x0 x1 x2 k_pl c_pl k_oa k_na b0 b1 b2 m0 m1 m2 eJ k_si y0 y1 u10 u11 (2 : Int32) (0 : Int32) (0 : Int32) h3 n0 Z18 F4 F5 F6 F7 F17 F8 F9 F10 F11 F12 F13 F14 F15 nq0 nq1 nq2 nq3 nq4 nq5 nq6 nq7 nq8 nq9 nq10 nq11 nq12 nq13 nq14 nq15 nq16 nq17 nq18 nq19 nq20 nq21 nq22 nq23 nq24 nq25 nq26 nq27 fq0 fq1 fq2 fq3 fq4 fq5 ) (lenOf pd_3 rfl) rfl (argsL := [.int (1 : Int32), .ref si, .double dv]) (rest := []) rfl (W := 0) (Nat.le_of_eq rfl) (by decide) (by decide) (by decide) (by decide) fun T19 h19 v19 X19 q19 => ?_
  obtain ⟨rfl, K19, G19_0, G19_1, G19_2, G19_3, G19_4, G19_5, G19_6, G19_7, G19_8, G19_9⟩ := q19
  have F20 := F4.keep K19
  have F21 := F11.keep K19 (ninS (Ne.symm nq0) (ninS nq9 (ninS nq6 (ninS nq7 nin0))))
  have F22 := F15.keep K19 (ninS nq21 (ninS nq26 (ninS nq23 (ninS nq24 nin0))))
  have F23 := F16.trans K19 (allS (Or.inl (List.mem_of_getElem? (i := 0) rfl)) (allS (Or.inl (List.mem_of_getElem? (i := 1) rfl)) (allS (Or.inl (List.mem_of_getElem? (i := 2) rfl)) (allS (Or.inl (List.mem_of_getElem? (i := 3) rfl)) all0))))
  have Z24 : n0 ≤ h19.size := Nat.le_trans Z18 K19.1
  show Own.Go p e below s n0 _ _ _ (T19.setTop (mkF m 24 _ []))
  clear F10 F11 F12 F13 F14 F15 F16 F17 F4 F5 F6 F7 F8 F9 X3
  refine Own.iload X19 d5_24 rfl ?_
  refine Own.iff_ X19 (pc' := 43) d5_26 (by decide) (fun q => absurd (show (1 : Int) = (0 : Int) from q) (show ¬ ((1 : Int) = (0 : Int)) from by decide)) (fun _ => ?_)
  refine Own.dloadN X19 d5_29 rfl ?_
  refine Own.aloadN X19 d5_30 rfl rfl ?_
  refine Own.getF_ X19 d5_31 (host := "") (Or.inl (Own.wd hw 24 rfl)) Via.refl G19_1 fun T25 X25 => ?_
  clear X19
  refine Own.aloadN X25 d5_34 rfl rfl ?_
  refine Own.getF_ X25 d5_35 (host := "") (Or.inl (Own.wd hw 46 rfl)) Via.refl G19_5 fun T26 X26 => ?_
  clear X25
  refine Own.daload_ X26 d5_38 G19_8 (by decide) rfl ?_
  refine Own.dcmpF X26 (pc' := 49) d5_39 d5_40 (by decide) n_dv n_b0 (fun q => absurd (show Own.dz dv ≤ Own.dz b0 from q) (show ¬ (Own.dz dv ≤ Own.dz b0) from by omega)) (fun _ => ?_)
  refine Own.aloadN X26 d5_43 rfl rfl ?_
  refine Own.iload X26 d5_44 rfl ?_
  refine Own.putF_ X26 d5_46 (host := "") (Or.inl (Own.wd hw 46 rfl)) Via.refl G19_5 F20 (Or.inl (Own.wd hw 47 rfl)) (Own.wd hw 11 rfl) (ty := .int) (by decide) rfl rfl fq0 fun T27 h27 X27 W27 => ?_
  have F28 := F20.wr W27
  have F29 := F21.other W27 (Ne.symm nq0)
  have F30 := F22.other W27 nq21
  have F31 := F23.wr W27 (Or.inl (List.mem_of_getElem? (i := 0) rfl))
  have F32 := G19_0.other W27 (Or.inr (slot_ne (Or.inr (Own.wd hw 22 rfl)) (Or.inl (Own.wd hw 47 rfl)) (by decide) (t := (.array (.array .int))) (t' := .int) (by decide) (by decide)))
  have F33 := G19_1.other W27 (Or.inr (slot_ne (Or.inr (Own.wd hw 25 rfl)) (Or.inl (Own.wd hw 47 rfl)) (by decide) (t := (.array .double)) (t' := .int) (by decide) (by decide)))
  have F34 := G19_2.other W27 (Or.inr (slot_ne (Or.inr (Own.wd hw 28 rfl)) (Or.inl (Own.wd hw 47 rfl)) (by decide) (t := (.array .long)) (t' := .int) (by decide) (by decide)))
  have F35 := G19_3.other W27 (Or.inr (slot_ne (Or.inl (Own.wd hw 35 rfl)) (Or.inl (Own.wd hw 47 rfl)) (by decide) (t := .int) (t' := .int) (by decide) (by decide)))
  have F36 := G19_4.other W27 (Or.inr (slot_ne (Or.inl (Own.wd hw 45 rfl)) (Or.inl (Own.wd hw 47 rfl)) (by decide) (t := .long) (t' := .int) (by decide) (by decide)))
  have F37 := G19_6.other W27 (Or.inr (slot_ne (Or.inl (Own.wd hw 49 rfl)) (Or.inl (Own.wd hw 47 rfl)) (by decide) (t := .int) (t' := .int) (by decide) (by decide)))
  have F38 := G19_7.other W27 (Ne.symm nq4)
  have F39 := G19_8.other W27 (Ne.symm nq1)
  have F40 := G19_9.other W27 (Ne.symm nq2)
  have F41 : Fld Z h27 a "com/example/allocus/allocus/method/Population" "worst" "I" (.int (1 : Int32)) := Fld.same W27 G19_5
  have Z42 : n0 ≤ h27.size := by rw [W27.size]; exact Z24
  clear F20 F21 F22 F23 G19_0 G19_1 G19_2 G19_3 G19_4 G19_5 G19_6 G19_7 G19_8 G19_9 X26
  refine Own.iload X27 d5_49 rfl ?_
  refine Own.iff_ X27 (pc' := 68) d5_51 (by decide) (fun q => absurd (show (1 : Int) = (0 : Int) from q) (show ¬ ((1 : Int) = (0 : Int)) from by decide)) (fun _ => ?_)
  refine Own.dloadN X27 d5_54 rfl ?_
  refine Own.aloadN X27 d5_55 rfl rfl ?_
  refine Own.getF_ X27 d5_56 (host := "") (Or.inl (Own.wd hw 24 rfl)) Via.refl F33 fun T43 X43 => ?_
  clear X27
  refine Own.aloadN X43 d5_59 rfl rfl ?_
  refine Own.getF_ X43 d5_60 (host := "") (Or.inl (Own.wd hw 48 rfl)) Via.refl F37 fun T44 X44 => ?_
  clear X43
  refine Own.daload_ X44 d5_63 F39 (by decide) rfl ?_
  refine Own.dcmpF X44 (pc' := 74) d5_64 d5_65 (by decide) n_dv n_b0 (fun _ => ?_) (fun q => absurd (show Own.dz b0 ≤ Own.dz dv from by omega) q)
  exact Own.retV X44 d5_74 ⟨rfl, F31, F32, F33, F34, F35, F36, F41, F37, F38, F39, F40⟩ (by decide) (by decide)
theorem ef_5_21020 (m : MethodId) (x0 : Addr) (x1 : Addr) (x2 : UInt64) : entryFrame m #[.ref x0, .ref x1, .double x2] 5 = mkF m 0 #[.val (.ref x0), .val (.ref x1), .val (.double x2), .second, .unset] [] := by first | (simp [entryFrame, mkF, argsToLocals, Value.category, maxLocals]; done) | rfl
set_option maxRecDepth 65536 in
set_option maxHeartbeats 40000000 in
theorem rm5_21020 (l : Launch) (Z : State) (a0 : Array Value) (hw : ∀ d ∈ tables_1, d.before a0 Z = true) (a : Addr) (si : Addr) (dv : UInt64) (pl : Addr) (oa : Addr) (na : Addr) (x0 : Addr) (x1 : Addr) (x2 : Addr) (k_pl : ClassId) (c_pl : ClassId) (k_oa : ClassId) (k_na : ClassId) (b0 : UInt64) (b1 : UInt64) (b2 : UInt64) (m0 : Int64) (m1 : Int64) (m2 : Int64) (eJ : Int64) (k_si : ClassId) (y0 : Int32) (y1 : Int32) (u20 : Int32) (u21 : Int32) (h0 : Heap) (n0 : Nat) (Z0 : n0 ≤ h0.size) (fc0 : Exa Z h0 a "com/example/allocus/allocus/method/Population") (fc1 : Fld Z h0 a "com/example/allocus/allocus/method/Population" "plans" "[[I" (.ref pl)) (fc2 : Fld Z h0 a "com/example/allocus/allocus/method/Population" "objectives" "[D" (.ref oa)) (fc3 : Fld Z h0 a "com/example/allocus/allocus/method/Population" "entered" "[J" (.ref na)) (fc4 : Fld Z h0 a "com/example/allocus/allocus/method/Population" "count" "I" (.int (2 : Int32))) (fc5 : Fld Z h0 a "com/example/allocus/allocus/method/Population" "entries" "J" (.long eJ)) (fc6 : Fld Z h0 a "com/example/allocus/allocus/method/Population" "worst" "I" (.int (1 : Int32))) (fc7 : Fld Z h0 a "com/example/allocus/allocus/method/Population" "best" "I" (.int (0 : Int32))) (fc8 : Arv Z h0 pl k_pl (.array .int) (3 : Int32) [.ref x0, .ref x1, .ref x2] (.null)) (fc9 : Arv Z h0 x2 c_pl .int (2 : Int32) [.int u20, .int u21] (.int (0 : Int32))) (fc10 : Arv Z h0 oa k_oa .double (3 : Int32) [.double b0, .double b1, .double b2] (.double 0)) (fc11 : Arv Z h0 na k_na .long (3 : Int32) [.long m0, .long m1, .long m2] (.long (0 : Int64))) (fc12 : Arv Z h0 si k_si .int (2 : Int32) [.int y0, .int y1] (.int (0 : Int32))) (nq0 : a ≠ pl) (nq1 : a ≠ oa) (nq2 : a ≠ na) (nq3 : a ≠ x0) (nq4 : a ≠ x1) (nq5 : a ≠ x2) (nq6 : pl ≠ oa) (nq7 : pl ≠ na) (nq8 : pl ≠ x0) (nq9 : pl ≠ x1) (nq10 : pl ≠ x2) (nq11 : oa ≠ na) (nq12 : oa ≠ x0) (nq13 : oa ≠ x1) (nq14 : oa ≠ x2) (nq15 : na ≠ x0) (nq16 : na ≠ x1) (nq17 : na ≠ x2) (nq18 : x0 ≠ x1) (nq19 : x0 ≠ x2) (nq20 : x1 ≠ x2) (nq21 : si ≠ a) (nq22 : si ≠ pl) (nq23 : si ≠ oa) (nq24 : si ≠ na) (nq25 : si ≠ x0) (nq26 : si ≠ x1) (nq27 : si ≠ x2) (fq0 : n0 ≤ a) (fq1 : n0 ≤ x0) (fq2 : n0 ≤ x1) (fq3 : n0 ≤ x2) (fq4 : n0 ≤ oa) (fq5 : n0 ≤ na) (n_dv : NoNaN64 dv) (n_b0 : NoNaN64 b0) (n_b1 : NoNaN64 b1) (c1 : Own.dz b1 < Own.dz dv) (c2 : Own.dz b0 ≤ Own.dz dv) :
    Own.Con l Z mn_4 [] prog_48_method_5_code 5 none ({ frames := 2, cells := 0, slots := 0, locals := 48 } : Room) #[.ref a, .ref si, .double dv] h0 n0 (fun v h => v = none ∧ Keep h0 h [a, x2, oa, na] ∧ Fld Z h a "com/example/allocus/allocus/method/Population" "plans" "[[I" (.ref pl) ∧ Fld Z h a "com/example/allocus/allocus/method/Population" "objectives" "[D" (.ref oa) ∧ Fld Z h a "com/example/allocus/allocus/method/Population" "entered" "[J" (.ref na) ∧ Fld Z h a "com/example/allocus/allocus/method/Population" "count" "I" (.int (3 : Int32)) ∧ Fld Z h a "com/example/allocus/allocus/method/Population" "entries" "J" (.long (eJ + (1 : Int64))) ∧ Fld Z h a "com/example/allocus/allocus/method/Population" "worst" "I" (.int (2 : Int32)) ∧ Fld Z h a "com/example/allocus/allocus/method/Population" "best" "I" (.int (0 : Int32)) ∧ Arv Z h x2 c_pl .int (2 : Int32) [.int y0, .int y1] (.int (0 : Int32)) ∧ Arv Z h oa k_oa .double (3 : Int32) [.double b0, .double b1, .double dv] (.double 0) ∧ Arv Z h na k_na .long (3 : Int32) [.long m0, .long m1, .long eJ] (.long (0 : Int64))) := by
  refine Own.enter (own := "com/example/allocus/allocus/method/Population") (nm := "add") (plainFor_of_name pn_com_example_allocus_allocus_method_Population) rfl rfl (fun m => ef_5_21020 m a si dv) fun p e s m below meth c T X => ?_
  refine Own.aloadN X d5_0 rfl rfl ?_
  refine Own.getF_ X d5_1 (host := "") (Or.inl (Own.wd hw 34 rfl)) Via.refl fc4 fun T1 X1 => ?_
  clear X
  refine Own.istore X1 d5_4 (l' := #[.val (.ref a), .val (.ref si), .val (.double dv), .second, .val (.int (2 : Int32))]) rfl ?_
  refine Own.aloadN X1 d5_6 rfl rfl ?_
  refine Own.dup X1 d5_7 rfl ?_
  refine Own.getF_ X1 d5_8 (host := "") (Or.inl (Own.wd hw 34 rfl)) Via.refl fc4 fun T2 X2 => ?_
  clear X1
  refine Own.iconst X2 (v := 1) d5_11 rfl ?_
  refine Own.iadd X2 d5_12 ?_
  show Own.Go p e below s n0 _ _ _ (T2.setTop (mkF m 13 _ [.int (3 : Int32), .ref a]))
  refine Own.putF_ X2 d5_13 (host := "") (Or.inl (Own.wd hw 34 rfl)) Via.refl fc4 fc0 (Or.inl (Own.wd hw 35 rfl)) (Own.wd hw 11 rfl) (ty := .int) (by decide) rfl rfl fq0 fun T3 h3 X3 W3 => ?_
  have F4 := fc0.wr W3
  have F5 := fc1.other W3 (Or.inr (slot_ne (Or.inr (Own.wd hw 22 rfl)) (Or.inl (Own.wd hw 35 rfl)) (by decide) (t := (.array (.array .int))) (t' := .int) (by decide) (by decide)))
  have F6 := fc2.other W3 (Or.inr (slot_ne (Or.inr (Own.wd hw 25 rfl)) (Or.inl (Own.wd hw 35 rfl)) (by decide) (t := (.array .double)) (t' := .int) (by decide) (by decide)))
  have F7 := fc3.other W3 (Or.inr (slot_ne (Or.inr (Own.wd hw 28 rfl)) (Or.inl (Own.wd hw 35 rfl)) (by decide) (t := (.array .long)) (t' := .int) (by decide) (by decide)))
  have F8 := fc5.other W3 (Or.inr (slot_ne (Or.inl (Own.wd hw 45 rfl)) (Or.inl (Own.wd hw 35 rfl)) (by decide) (t := .long) (t' := .int) (by decide) (by decide)))
  have F9 := fc6.other W3 (Or.inr (slot_ne (Or.inl (Own.wd hw 47 rfl)) (Or.inl (Own.wd hw 35 rfl)) (by decide) (t := .int) (t' := .int) (by decide) (by decide)))
  have F10 := fc7.other W3 (Or.inr (slot_ne (Or.inl (Own.wd hw 49 rfl)) (Or.inl (Own.wd hw 35 rfl)) (by decide) (t := .int) (t' := .int) (by decide) (by decide)))
  have F11 := fc8.other W3 (Ne.symm nq0)
  have F12 := fc9.other W3 (Ne.symm nq5)
  have F13 := fc10.other W3 (Ne.symm nq1)
  have F14 := fc11.other W3 (Ne.symm nq2)
  have F15 := fc12.other W3 nq21
  have F16 := (Keep.refl h0 [a, x2, oa, na]).wr W3 (Or.inl (List.mem_of_getElem? (i := 0) rfl))
  have F17 : Fld Z h3 a "com/example/allocus/allocus/method/Population" "count" "I" (.int (3 : Int32)) := Fld.same W3 fc4
  have Z18 : n0 ≤ h3.size := by rw [W3.size]; exact Z0
  clear X2 fc0 fc1 fc10 fc11 fc12 fc2 fc3 fc4 fc5 fc6 fc7 fc8 fc9
  refine Own.aloadN X3 d5_16 rfl rfl ?_
  refine Own.iload X3 d5_17 rfl ?_
  refine Own.aloadN X3 d5_19 rfl rfl ?_
  refine Own.dloadN X3 d5_20 rfl ?_
  refine Own.callP_ (y := mn_2) (D := "com/example/allocus/allocus/method/Population") (z' := mn_4) (z := mn_4) (a := a) X3 d5_21 (Own.wd hw 36 rfl) (Own.wd hw 37 rfl) (Own.wd hw 32 rfl) rfl (Own.wd hw 38 rfl) (Own.wd hw 12 rfl) (Own.wd hw 39 rfl) (by decide) F4 (rm6_2 l Z a0 hw a si dv pl oa na x0 x1 x2 k_pl c_pl k_oa k_na b0 b1 b2 m0 m1 m2 eJ k_si y0 y1 u20 u21 (3 : Int32) (1 : Int32) (0 : Int32) h3 n0 Z18 F4 F5 F6 F7 F17 F8 F9 F10 F11 F12 F13 F14 F15 nq0 nq1 nq2 nq3 nq4 nq5 nq6 nq7 nq8 nq9 nq10 nq11 nq12 nq13 nq14 nq15 nq16 nq17 nq18 nq19 nq20 nq21 nq22 nq23 nq24 nq25 nq26 nq27 fq0 fq1 fq2 fq3 fq4 fq5 ) (lenOf pd_3 rfl) rfl (argsL := [.int (2 : Int32), .ref si, .double dv]) (rest := []) rfl (W := 0) (Nat.le_of_eq rfl) (by decide) (by decide) (by decide) (by decide) fun T19 h19 v19 X19 q19 => ?_
  obtain ⟨rfl, K19, G19_0, G19_1, G19_2, G19_3, G19_4, G19_5, G19_6, G19_7, G19_8, G19_9⟩ := q19
  have F20 := F4.keep K19
  have F21 := F11.keep K19 (ninS (Ne.symm nq0) (ninS nq10 (ninS nq6 (ninS nq7 nin0))))
  have F22 := F15.keep K19 (ninS nq21 (ninS nq27 (ninS nq23 (ninS nq24 nin0))))
  have F23 := F16.trans K19 (allS (Or.inl (List.mem_of_getElem? (i := 0) rfl)) (allS (Or.inl (List.mem_of_getElem? (i := 1) rfl)) (allS (Or.inl (List.mem_of_getElem? (i := 2) rfl)) (allS (Or.inl (List.mem_of_getElem? (i := 3) rfl)) all0))))
  have Z24 : n0 ≤ h19.size := Nat.le_trans Z18 K19.1
  show Own.Go p e below s n0 _ _ _ (T19.setTop (mkF m 24 _ []))
  clear F10 F11 F12 F13 F14 F15 F16 F17 F4 F5 F6 F7 F8 F9 X3
  refine Own.iload X19 d5_24 rfl ?_
  refine Own.iff_ X19 (pc' := 43) d5_26 (by decide) (fun q => absurd (show (2 : Int) = (0 : Int) from q) (show ¬ ((2 : Int) = (0 : Int)) from by decide)) (fun _ => ?_)
  refine Own.dloadN X19 d5_29 rfl ?_
  refine Own.aloadN X19 d5_30 rfl rfl ?_
  refine Own.getF_ X19 d5_31 (host := "") (Or.inl (Own.wd hw 24 rfl)) Via.refl G19_1 fun T25 X25 => ?_
  clear X19
  refine Own.aloadN X25 d5_34 rfl rfl ?_
  refine Own.getF_ X25 d5_35 (host := "") (Or.inl (Own.wd hw 46 rfl)) Via.refl G19_5 fun T26 X26 => ?_
  clear X25
  refine Own.daload_ X26 d5_38 G19_8 (by decide) rfl ?_
  refine Own.dcmpF X26 (pc' := 49) d5_39 d5_40 (by decide) n_dv n_b1 (fun q => absurd (show Own.dz dv ≤ Own.dz b1 from q) (show ¬ (Own.dz dv ≤ Own.dz b1) from by omega)) (fun _ => ?_)
  refine Own.aloadN X26 d5_43 rfl rfl ?_
  refine Own.iload X26 d5_44 rfl ?_
  refine Own.putF_ X26 d5_46 (host := "") (Or.inl (Own.wd hw 46 rfl)) Via.refl G19_5 F20 (Or.inl (Own.wd hw 47 rfl)) (Own.wd hw 11 rfl) (ty := .int) (by decide) rfl rfl fq0 fun T27 h27 X27 W27 => ?_
  have F28 := F20.wr W27
  have F29 := F21.other W27 (Ne.symm nq0)
  have F30 := F22.other W27 nq21
  have F31 := F23.wr W27 (Or.inl (List.mem_of_getElem? (i := 0) rfl))
  have F32 := G19_0.other W27 (Or.inr (slot_ne (Or.inr (Own.wd hw 22 rfl)) (Or.inl (Own.wd hw 47 rfl)) (by decide) (t := (.array (.array .int))) (t' := .int) (by decide) (by decide)))
  have F33 := G19_1.other W27 (Or.inr (slot_ne (Or.inr (Own.wd hw 25 rfl)) (Or.inl (Own.wd hw 47 rfl)) (by decide) (t := (.array .double)) (t' := .int) (by decide) (by decide)))
  have F34 := G19_2.other W27 (Or.inr (slot_ne (Or.inr (Own.wd hw 28 rfl)) (Or.inl (Own.wd hw 47 rfl)) (by decide) (t := (.array .long)) (t' := .int) (by decide) (by decide)))
  have F35 := G19_3.other W27 (Or.inr (slot_ne (Or.inl (Own.wd hw 35 rfl)) (Or.inl (Own.wd hw 47 rfl)) (by decide) (t := .int) (t' := .int) (by decide) (by decide)))
  have F36 := G19_4.other W27 (Or.inr (slot_ne (Or.inl (Own.wd hw 45 rfl)) (Or.inl (Own.wd hw 47 rfl)) (by decide) (t := .long) (t' := .int) (by decide) (by decide)))
  have F37 := G19_6.other W27 (Or.inr (slot_ne (Or.inl (Own.wd hw 49 rfl)) (Or.inl (Own.wd hw 47 rfl)) (by decide) (t := .int) (t' := .int) (by decide) (by decide)))
  have F38 := G19_7.other W27 (Ne.symm nq5)
  have F39 := G19_8.other W27 (Ne.symm nq1)
  have F40 := G19_9.other W27 (Ne.symm nq2)
  have F41 : Fld Z h27 a "com/example/allocus/allocus/method/Population" "worst" "I" (.int (2 : Int32)) := Fld.same W27 G19_5
  have Z42 : n0 ≤ h27.size := by rw [W27.size]; exact Z24
  clear F20 F21 F22 F23 G19_0 G19_1 G19_2 G19_3 G19_4 G19_5 G19_6 G19_7 G19_8 G19_9 X26
  refine Own.iload X27 d5_49 rfl ?_
  refine Own.iff_ X27 (pc' := 68) d5_51 (by decide) (fun q => absurd (show (2 : Int) = (0 : Int) from q) (show ¬ ((2 : Int) = (0 : Int)) from by decide)) (fun _ => ?_)
  refine Own.dloadN X27 d5_54 rfl ?_
  refine Own.aloadN X27 d5_55 rfl rfl ?_
  refine Own.getF_ X27 d5_56 (host := "") (Or.inl (Own.wd hw 24 rfl)) Via.refl F33 fun T43 X43 => ?_
  clear X27
  refine Own.aloadN X43 d5_59 rfl rfl ?_
  refine Own.getF_ X43 d5_60 (host := "") (Or.inl (Own.wd hw 48 rfl)) Via.refl F37 fun T44 X44 => ?_
  clear X43
  refine Own.daload_ X44 d5_63 F39 (by decide) rfl ?_
  refine Own.dcmpF X44 (pc' := 74) d5_64 d5_65 (by decide) n_dv n_b0 (fun _ => ?_) (fun q => absurd (show Own.dz b0 ≤ Own.dz dv from by omega) q)
  exact Own.retV X44 d5_74 ⟨rfl, F31, F32, F33, F34, F35, F36, F41, F37, F38, F39, F40⟩ (by decide) (by decide)
theorem ef_5_21012 (m : MethodId) (x0 : Addr) (x1 : Addr) (x2 : UInt64) : entryFrame m #[.ref x0, .ref x1, .double x2] 5 = mkF m 0 #[.val (.ref x0), .val (.ref x1), .val (.double x2), .second, .unset] [] := by first | (simp [entryFrame, mkF, argsToLocals, Value.category, maxLocals]; done) | rfl
set_option maxRecDepth 65536 in
set_option maxHeartbeats 40000000 in
theorem rm5_21012 (l : Launch) (Z : State) (a0 : Array Value) (hw : ∀ d ∈ tables_1, d.before a0 Z = true) (a : Addr) (si : Addr) (dv : UInt64) (pl : Addr) (oa : Addr) (na : Addr) (x0 : Addr) (x1 : Addr) (x2 : Addr) (k_pl : ClassId) (c_pl : ClassId) (k_oa : ClassId) (k_na : ClassId) (b0 : UInt64) (b1 : UInt64) (b2 : UInt64) (m0 : Int64) (m1 : Int64) (m2 : Int64) (eJ : Int64) (k_si : ClassId) (y0 : Int32) (y1 : Int32) (u20 : Int32) (u21 : Int32) (h0 : Heap) (n0 : Nat) (Z0 : n0 ≤ h0.size) (fc0 : Exa Z h0 a "com/example/allocus/allocus/method/Population") (fc1 : Fld Z h0 a "com/example/allocus/allocus/method/Population" "plans" "[[I" (.ref pl)) (fc2 : Fld Z h0 a "com/example/allocus/allocus/method/Population" "objectives" "[D" (.ref oa)) (fc3 : Fld Z h0 a "com/example/allocus/allocus/method/Population" "entered" "[J" (.ref na)) (fc4 : Fld Z h0 a "com/example/allocus/allocus/method/Population" "count" "I" (.int (2 : Int32))) (fc5 : Fld Z h0 a "com/example/allocus/allocus/method/Population" "entries" "J" (.long eJ)) (fc6 : Fld Z h0 a "com/example/allocus/allocus/method/Population" "worst" "I" (.int (1 : Int32))) (fc7 : Fld Z h0 a "com/example/allocus/allocus/method/Population" "best" "I" (.int (0 : Int32))) (fc8 : Arv Z h0 pl k_pl (.array .int) (3 : Int32) [.ref x0, .ref x1, .ref x2] (.null)) (fc9 : Arv Z h0 x2 c_pl .int (2 : Int32) [.int u20, .int u21] (.int (0 : Int32))) (fc10 : Arv Z h0 oa k_oa .double (3 : Int32) [.double b0, .double b1, .double b2] (.double 0)) (fc11 : Arv Z h0 na k_na .long (3 : Int32) [.long m0, .long m1, .long m2] (.long (0 : Int64))) (fc12 : Arv Z h0 si k_si .int (2 : Int32) [.int y0, .int y1] (.int (0 : Int32))) (nq0 : a ≠ pl) (nq1 : a ≠ oa) (nq2 : a ≠ na) (nq3 : a ≠ x0) (nq4 : a ≠ x1) (nq5 : a ≠ x2) (nq6 : pl ≠ oa) (nq7 : pl ≠ na) (nq8 : pl ≠ x0) (nq9 : pl ≠ x1) (nq10 : pl ≠ x2) (nq11 : oa ≠ na) (nq12 : oa ≠ x0) (nq13 : oa ≠ x1) (nq14 : oa ≠ x2) (nq15 : na ≠ x0) (nq16 : na ≠ x1) (nq17 : na ≠ x2) (nq18 : x0 ≠ x1) (nq19 : x0 ≠ x2) (nq20 : x1 ≠ x2) (nq21 : si ≠ a) (nq22 : si ≠ pl) (nq23 : si ≠ oa) (nq24 : si ≠ na) (nq25 : si ≠ x0) (nq26 : si ≠ x1) (nq27 : si ≠ x2) (fq0 : n0 ≤ a) (fq1 : n0 ≤ x0) (fq2 : n0 ≤ x1) (fq3 : n0 ≤ x2) (fq4 : n0 ≤ oa) (fq5 : n0 ≤ na) (n_dv : NoNaN64 dv) (n_b0 : NoNaN64 b0) (n_b1 : NoNaN64 b1) (c1 : Own.dz dv ≤ Own.dz b1) (c2 : Own.dz dv < Own.dz b0) :
    Own.Con l Z mn_4 [] prog_48_method_5_code 5 none ({ frames := 2, cells := 0, slots := 0, locals := 48 } : Room) #[.ref a, .ref si, .double dv] h0 n0 (fun v h => v = none ∧ Keep h0 h [a, x2, oa, na] ∧ Fld Z h a "com/example/allocus/allocus/method/Population" "plans" "[[I" (.ref pl) ∧ Fld Z h a "com/example/allocus/allocus/method/Population" "objectives" "[D" (.ref oa) ∧ Fld Z h a "com/example/allocus/allocus/method/Population" "entered" "[J" (.ref na) ∧ Fld Z h a "com/example/allocus/allocus/method/Population" "count" "I" (.int (3 : Int32)) ∧ Fld Z h a "com/example/allocus/allocus/method/Population" "entries" "J" (.long (eJ + (1 : Int64))) ∧ Fld Z h a "com/example/allocus/allocus/method/Population" "worst" "I" (.int (1 : Int32)) ∧ Fld Z h a "com/example/allocus/allocus/method/Population" "best" "I" (.int (2 : Int32)) ∧ Arv Z h x2 c_pl .int (2 : Int32) [.int y0, .int y1] (.int (0 : Int32)) ∧ Arv Z h oa k_oa .double (3 : Int32) [.double b0, .double b1, .double dv] (.double 0) ∧ Arv Z h na k_na .long (3 : Int32) [.long m0, .long m1, .long eJ] (.long (0 : Int64))) := by
  refine Own.enter (own := "com/example/allocus/allocus/method/Population") (nm := "add") (plainFor_of_name pn_com_example_allocus_allocus_method_Population) rfl rfl (fun m => ef_5_21012 m a si dv) fun p e s m below meth c T X => ?_
  refine Own.aloadN X d5_0 rfl rfl ?_
  refine Own.getF_ X d5_1 (host := "") (Or.inl (Own.wd hw 34 rfl)) Via.refl fc4 fun T1 X1 => ?_
  clear X
  refine Own.istore X1 d5_4 (l' := #[.val (.ref a), .val (.ref si), .val (.double dv), .second, .val (.int (2 : Int32))]) rfl ?_
  refine Own.aloadN X1 d5_6 rfl rfl ?_
  refine Own.dup X1 d5_7 rfl ?_
  refine Own.getF_ X1 d5_8 (host := "") (Or.inl (Own.wd hw 34 rfl)) Via.refl fc4 fun T2 X2 => ?_
  clear X1
  refine Own.iconst X2 (v := 1) d5_11 rfl ?_
  refine Own.iadd X2 d5_12 ?_
  show Own.Go p e below s n0 _ _ _ (T2.setTop (mkF m 13 _ [.int (3 : Int32), .ref a]))
  refine Own.putF_ X2 d5_13 (host := "") (Or.inl (Own.wd hw 34 rfl)) Via.refl fc4 fc0 (Or.inl (Own.wd hw 35 rfl)) (Own.wd hw 11 rfl) (ty := .int) (by decide) rfl rfl fq0 fun T3 h3 X3 W3 => ?_
  have F4 := fc0.wr W3
  have F5 := fc1.other W3 (Or.inr (slot_ne (Or.inr (Own.wd hw 22 rfl)) (Or.inl (Own.wd hw 35 rfl)) (by decide) (t := (.array (.array .int))) (t' := .int) (by decide) (by decide)))
  have F6 := fc2.other W3 (Or.inr (slot_ne (Or.inr (Own.wd hw 25 rfl)) (Or.inl (Own.wd hw 35 rfl)) (by decide) (t := (.array .double)) (t' := .int) (by decide) (by decide)))
  have F7 := fc3.other W3 (Or.inr (slot_ne (Or.inr (Own.wd hw 28 rfl)) (Or.inl (Own.wd hw 35 rfl)) (by decide) (t := (.array .long)) (t' := .int) (by decide) (by decide)))
  have F8 := fc5.other W3 (Or.inr (slot_ne (Or.inl (Own.wd hw 45 rfl)) (Or.inl (Own.wd hw 35 rfl)) (by decide) (t := .long) (t' := .int) (by decide) (by decide)))
  have F9 := fc6.other W3 (Or.inr (slot_ne (Or.inl (Own.wd hw 47 rfl)) (Or.inl (Own.wd hw 35 rfl)) (by decide) (t := .int) (t' := .int) (by decide) (by decide)))
  have F10 := fc7.other W3 (Or.inr (slot_ne (Or.inl (Own.wd hw 49 rfl)) (Or.inl (Own.wd hw 35 rfl)) (by decide) (t := .int) (t' := .int) (by decide) (by decide)))
  have F11 := fc8.other W3 (Ne.symm nq0)
  have F12 := fc9.other W3 (Ne.symm nq5)
  have F13 := fc10.other W3 (Ne.symm nq1)
  have F14 := fc11.other W3 (Ne.symm nq2)
  have F15 := fc12.other W3 nq21
  have F16 := (Keep.refl h0 [a, x2, oa, na]).wr W3 (Or.inl (List.mem_of_getElem? (i := 0) rfl))
  have F17 : Fld Z h3 a "com/example/allocus/allocus/method/Population" "count" "I" (.int (3 : Int32)) := Fld.same W3 fc4
  have Z18 : n0 ≤ h3.size := by rw [W3.size]; exact Z0
  clear X2 fc0 fc1 fc10 fc11 fc12 fc2 fc3 fc4 fc5 fc6 fc7 fc8 fc9
  refine Own.aloadN X3 d5_16 rfl rfl ?_
  refine Own.iload X3 d5_17 rfl ?_
  refine Own.aloadN X3 d5_19 rfl rfl ?_
  refine Own.dloadN X3 d5_20 rfl ?_
  refine Own.callP_ (y := mn_2) (D := "com/example/allocus/allocus/method/Population") (z' := mn_4) (z := mn_4) (a := a) X3 d5_21 (Own.wd hw 36 rfl) (Own.wd hw 37 rfl) (Own.wd hw 32 rfl) rfl (Own.wd hw 38 rfl) (Own.wd hw 12 rfl) (Own.wd hw 39 rfl) (by decide) F4 (rm6_2 l Z a0 hw a si dv pl oa na x0 x1 x2 k_pl c_pl k_oa k_na b0 b1 b2 m0 m1 m2 eJ k_si y0 y1 u20 u21 (3 : Int32) (1 : Int32) (0 : Int32) h3 n0 Z18 F4 F5 F6 F7 F17 F8 F9 F10 F11 F12 F13 F14 F15 nq0 nq1 nq2 nq3 nq4 nq5 nq6 nq7 nq8 nq9 nq10 nq11 nq12 nq13 nq14 nq15 nq16 nq17 nq18 nq19 nq20 nq21 nq22 nq23 nq24 nq25 nq26 nq27 fq0 fq1 fq2 fq3 fq4 fq5 ) (lenOf pd_3 rfl) rfl (argsL := [.int (2 : Int32), .ref si, .double dv]) (rest := []) rfl (W := 0) (Nat.le_of_eq rfl) (by decide) (by decide) (by decide) (by decide) fun T19 h19 v19 X19 q19 => ?_
  obtain ⟨rfl, K19, G19_0, G19_1, G19_2, G19_3, G19_4, G19_5, G19_6, G19_7, G19_8, G19_9⟩ := q19
  have F20 := F4.keep K19
  have F21 := F11.keep K19 (ninS (Ne.symm nq0) (ninS nq10 (ninS nq6 (ninS nq7 nin0))))
  have F22 := F15.keep K19 (ninS nq21 (ninS nq27 (ninS nq23 (ninS nq24 nin0))))
  have F23 := F16.trans K19 (allS (Or.inl (List.mem_of_getElem? (i := 0) rfl)) (allS (Or.inl (List.mem_of_getElem? (i := 1) rfl)) (allS (Or.inl (List.mem_of_getElem? (i := 2) rfl)) (allS (Or.inl (List.mem_of_getElem? (i := 3) rfl)) all0))))
  have Z24 : n0 ≤ h19.size := Nat.le_trans Z18 K19.1
  show Own.Go p e below s n0 _ _ _ (T19.setTop (mkF m 24 _ []))
  clear F10 F11 F12 F13 F14 F15 F16 F17 F4 F5 F6 F7 F8 F9 X3
  refine Own.iload X19 d5_24 rfl ?_
  refine Own.iff_ X19 (pc' := 43) d5_26 (by decide) (fun q => absurd (show (2 : Int) = (0 : Int) from q) (show ¬ ((2 : Int) = (0 : Int)) from by decide)) (fun _ => ?_)
  refine Own.dloadN X19 d5_29 rfl ?_
  refine Own.aloadN X19 d5_30 rfl rfl ?_
  refine Own.getF_ X19 d5_31 (host := "") (Or.inl (Own.wd hw 24 rfl)) Via.refl G19_1 fun T25 X25 => ?_
  clear X19
  refine Own.aloadN X25 d5_34 rfl rfl ?_
  refine Own.getF_ X25 d5_35 (host := "") (Or.inl (Own.wd hw 46 rfl)) Via.refl G19_5 fun T26 X26 => ?_
  clear X25
  refine Own.daload_ X26 d5_38 G19_8 (by decide) rfl ?_
  refine Own.dcmpF X26 (pc' := 49) d5_39 d5_40 (by decide) n_dv n_b1 (fun _ => ?_) (fun q => absurd (show Own.dz dv ≤ Own.dz b1 from by omega) q)
  refine Own.iload X26 d5_49 rfl ?_
  refine Own.iff_ X26 (pc' := 68) d5_51 (by decide) (fun q => absurd (show (2 : Int) = (0 : Int) from q) (show ¬ ((2 : Int) = (0 : Int)) from by decide)) (fun _ => ?_)
  refine Own.dloadN X26 d5_54 rfl ?_
  refine Own.aloadN X26 d5_55 rfl rfl ?_
  refine Own.getF_ X26 d5_56 (host := "") (Or.inl (Own.wd hw 24 rfl)) Via.refl G19_1 fun T27 X27 => ?_
  clear X26
  refine Own.aloadN X27 d5_59 rfl rfl ?_
  refine Own.getF_ X27 d5_60 (host := "") (Or.inl (Own.wd hw 48 rfl)) Via.refl G19_6 fun T28 X28 => ?_
  clear X27
  refine Own.daload_ X28 d5_63 G19_8 (by decide) rfl ?_
  refine Own.dcmpF X28 (pc' := 74) d5_64 d5_65 (by decide) n_dv n_b0 (fun q => absurd (show Own.dz b0 ≤ Own.dz dv from q) (show ¬ (Own.dz b0 ≤ Own.dz dv) from by omega)) (fun _ => ?_)
  refine Own.aloadN X28 d5_68 rfl rfl ?_
  refine Own.iload X28 d5_69 rfl ?_
  refine Own.putF_ X28 d5_71 (host := "") (Or.inl (Own.wd hw 48 rfl)) Via.refl G19_6 F20 (Or.inl (Own.wd hw 49 rfl)) (Own.wd hw 11 rfl) (ty := .int) (by decide) rfl rfl fq0 fun T29 h29 X29 W29 => ?_
  have F30 := F20.wr W29
  have F31 := F21.other W29 (Ne.symm nq0)
  have F32 := F22.other W29 nq21
  have F33 := F23.wr W29 (Or.inl (List.mem_of_getElem? (i := 0) rfl))
  have F34 := G19_0.other W29 (Or.inr (slot_ne (Or.inr (Own.wd hw 22 rfl)) (Or.inl (Own.wd hw 49 rfl)) (by decide) (t := (.array (.array .int))) (t' := .int) (by decide) (by decide)))
  have F35 := G19_1.other W29 (Or.inr (slot_ne (Or.inr (Own.wd hw 25 rfl)) (Or.inl (Own.wd hw 49 rfl)) (by decide) (t := (.array .double)) (t' := .int) (by decide) (by decide)))
  have F36 := G19_2.other W29 (Or.inr (slot_ne (Or.inr (Own.wd hw 28 rfl)) (Or.inl (Own.wd hw 49 rfl)) (by decide) (t := (.array .long)) (t' := .int) (by decide) (by decide)))
  have F37 := G19_3.other W29 (Or.inr (slot_ne (Or.inl (Own.wd hw 35 rfl)) (Or.inl (Own.wd hw 49 rfl)) (by decide) (t := .int) (t' := .int) (by decide) (by decide)))
  have F38 := G19_4.other W29 (Or.inr (slot_ne (Or.inl (Own.wd hw 45 rfl)) (Or.inl (Own.wd hw 49 rfl)) (by decide) (t := .long) (t' := .int) (by decide) (by decide)))
  have F39 := G19_5.other W29 (Or.inr (slot_ne (Or.inl (Own.wd hw 47 rfl)) (Or.inl (Own.wd hw 49 rfl)) (by decide) (t := .int) (t' := .int) (by decide) (by decide)))
  have F40 := G19_7.other W29 (Ne.symm nq5)
  have F41 := G19_8.other W29 (Ne.symm nq1)
  have F42 := G19_9.other W29 (Ne.symm nq2)
  have F43 : Fld Z h29 a "com/example/allocus/allocus/method/Population" "best" "I" (.int (2 : Int32)) := Fld.same W29 G19_6
  have Z44 : n0 ≤ h29.size := by rw [W29.size]; exact Z24
  clear F20 F21 F22 F23 G19_0 G19_1 G19_2 G19_3 G19_4 G19_5 G19_6 G19_7 G19_8 G19_9 X28
  exact Own.retV X29 d5_74 ⟨rfl, F33, F34, F35, F36, F37, F38, F39, F43, F40, F41, F42⟩ (by decide) (by decide)
theorem ef_5_21010 (m : MethodId) (x0 : Addr) (x1 : Addr) (x2 : UInt64) : entryFrame m #[.ref x0, .ref x1, .double x2] 5 = mkF m 0 #[.val (.ref x0), .val (.ref x1), .val (.double x2), .second, .unset] [] := by first | (simp [entryFrame, mkF, argsToLocals, Value.category, maxLocals]; done) | rfl
set_option maxRecDepth 65536 in
set_option maxHeartbeats 40000000 in
theorem rm5_21010 (l : Launch) (Z : State) (a0 : Array Value) (hw : ∀ d ∈ tables_1, d.before a0 Z = true) (a : Addr) (si : Addr) (dv : UInt64) (pl : Addr) (oa : Addr) (na : Addr) (x0 : Addr) (x1 : Addr) (x2 : Addr) (k_pl : ClassId) (c_pl : ClassId) (k_oa : ClassId) (k_na : ClassId) (b0 : UInt64) (b1 : UInt64) (b2 : UInt64) (m0 : Int64) (m1 : Int64) (m2 : Int64) (eJ : Int64) (k_si : ClassId) (y0 : Int32) (y1 : Int32) (u20 : Int32) (u21 : Int32) (h0 : Heap) (n0 : Nat) (Z0 : n0 ≤ h0.size) (fc0 : Exa Z h0 a "com/example/allocus/allocus/method/Population") (fc1 : Fld Z h0 a "com/example/allocus/allocus/method/Population" "plans" "[[I" (.ref pl)) (fc2 : Fld Z h0 a "com/example/allocus/allocus/method/Population" "objectives" "[D" (.ref oa)) (fc3 : Fld Z h0 a "com/example/allocus/allocus/method/Population" "entered" "[J" (.ref na)) (fc4 : Fld Z h0 a "com/example/allocus/allocus/method/Population" "count" "I" (.int (2 : Int32))) (fc5 : Fld Z h0 a "com/example/allocus/allocus/method/Population" "entries" "J" (.long eJ)) (fc6 : Fld Z h0 a "com/example/allocus/allocus/method/Population" "worst" "I" (.int (1 : Int32))) (fc7 : Fld Z h0 a "com/example/allocus/allocus/method/Population" "best" "I" (.int (0 : Int32))) (fc8 : Arv Z h0 pl k_pl (.array .int) (3 : Int32) [.ref x0, .ref x1, .ref x2] (.null)) (fc9 : Arv Z h0 x2 c_pl .int (2 : Int32) [.int u20, .int u21] (.int (0 : Int32))) (fc10 : Arv Z h0 oa k_oa .double (3 : Int32) [.double b0, .double b1, .double b2] (.double 0)) (fc11 : Arv Z h0 na k_na .long (3 : Int32) [.long m0, .long m1, .long m2] (.long (0 : Int64))) (fc12 : Arv Z h0 si k_si .int (2 : Int32) [.int y0, .int y1] (.int (0 : Int32))) (nq0 : a ≠ pl) (nq1 : a ≠ oa) (nq2 : a ≠ na) (nq3 : a ≠ x0) (nq4 : a ≠ x1) (nq5 : a ≠ x2) (nq6 : pl ≠ oa) (nq7 : pl ≠ na) (nq8 : pl ≠ x0) (nq9 : pl ≠ x1) (nq10 : pl ≠ x2) (nq11 : oa ≠ na) (nq12 : oa ≠ x0) (nq13 : oa ≠ x1) (nq14 : oa ≠ x2) (nq15 : na ≠ x0) (nq16 : na ≠ x1) (nq17 : na ≠ x2) (nq18 : x0 ≠ x1) (nq19 : x0 ≠ x2) (nq20 : x1 ≠ x2) (nq21 : si ≠ a) (nq22 : si ≠ pl) (nq23 : si ≠ oa) (nq24 : si ≠ na) (nq25 : si ≠ x0) (nq26 : si ≠ x1) (nq27 : si ≠ x2) (fq0 : n0 ≤ a) (fq1 : n0 ≤ x0) (fq2 : n0 ≤ x1) (fq3 : n0 ≤ x2) (fq4 : n0 ≤ oa) (fq5 : n0 ≤ na) (n_dv : NoNaN64 dv) (n_b0 : NoNaN64 b0) (n_b1 : NoNaN64 b1) (c1 : Own.dz dv ≤ Own.dz b1) (c2 : Own.dz b0 ≤ Own.dz dv) :
    Own.Con l Z mn_4 [] prog_48_method_5_code 5 none ({ frames := 2, cells := 0, slots := 0, locals := 48 } : Room) #[.ref a, .ref si, .double dv] h0 n0 (fun v h => v = none ∧ Keep h0 h [a, x2, oa, na] ∧ Fld Z h a "com/example/allocus/allocus/method/Population" "plans" "[[I" (.ref pl) ∧ Fld Z h a "com/example/allocus/allocus/method/Population" "objectives" "[D" (.ref oa) ∧ Fld Z h a "com/example/allocus/allocus/method/Population" "entered" "[J" (.ref na) ∧ Fld Z h a "com/example/allocus/allocus/method/Population" "count" "I" (.int (3 : Int32)) ∧ Fld Z h a "com/example/allocus/allocus/method/Population" "entries" "J" (.long (eJ + (1 : Int64))) ∧ Fld Z h a "com/example/allocus/allocus/method/Population" "worst" "I" (.int (1 : Int32)) ∧ Fld Z h a "com/example/allocus/allocus/method/Population" "best" "I" (.int (0 : Int32)) ∧ Arv Z h x2 c_pl .int (2 : Int32) [.int y0, .int y1] (.int (0 : Int32)) ∧ Arv Z h oa k_oa .double (3 : Int32) [.double b0, .double b1, .double dv] (.double 0) ∧ Arv Z h na k_na .long (3 : Int32) [.long m0, .long m1, .long eJ] (.long (0 : Int64))) := by
  refine Own.enter (own := "com/example/allocus/allocus/method/Population") (nm := "add") (plainFor_of_name pn_com_example_allocus_allocus_method_Population) rfl rfl (fun m => ef_5_21010 m a si dv) fun p e s m below meth c T X => ?_
  refine Own.aloadN X d5_0 rfl rfl ?_
  refine Own.getF_ X d5_1 (host := "") (Or.inl (Own.wd hw 34 rfl)) Via.refl fc4 fun T1 X1 => ?_
  clear X
  refine Own.istore X1 d5_4 (l' := #[.val (.ref a), .val (.ref si), .val (.double dv), .second, .val (.int (2 : Int32))]) rfl ?_
  refine Own.aloadN X1 d5_6 rfl rfl ?_
  refine Own.dup X1 d5_7 rfl ?_
  refine Own.getF_ X1 d5_8 (host := "") (Or.inl (Own.wd hw 34 rfl)) Via.refl fc4 fun T2 X2 => ?_
  clear X1
  refine Own.iconst X2 (v := 1) d5_11 rfl ?_
  refine Own.iadd X2 d5_12 ?_
  show Own.Go p e below s n0 _ _ _ (T2.setTop (mkF m 13 _ [.int (3 : Int32), .ref a]))
  refine Own.putF_ X2 d5_13 (host := "") (Or.inl (Own.wd hw 34 rfl)) Via.refl fc4 fc0 (Or.inl (Own.wd hw 35 rfl)) (Own.wd hw 11 rfl) (ty := .int) (by decide) rfl rfl fq0 fun T3 h3 X3 W3 => ?_
  have F4 := fc0.wr W3
  have F5 := fc1.other W3 (Or.inr (slot_ne (Or.inr (Own.wd hw 22 rfl)) (Or.inl (Own.wd hw 35 rfl)) (by decide) (t := (.array (.array .int))) (t' := .int) (by decide) (by decide)))
  have F6 := fc2.other W3 (Or.inr (slot_ne (Or.inr (Own.wd hw 25 rfl)) (Or.inl (Own.wd hw 35 rfl)) (by decide) (t := (.array .double)) (t' := .int) (by decide) (by decide)))
  have F7 := fc3.other W3 (Or.inr (slot_ne (Or.inr (Own.wd hw 28 rfl)) (Or.inl (Own.wd hw 35 rfl)) (by decide) (t := (.array .long)) (t' := .int) (by decide) (by decide)))
  have F8 := fc5.other W3 (Or.inr (slot_ne (Or.inl (Own.wd hw 45 rfl)) (Or.inl (Own.wd hw 35 rfl)) (by decide) (t := .long) (t' := .int) (by decide) (by decide)))
  have F9 := fc6.other W3 (Or.inr (slot_ne (Or.inl (Own.wd hw 47 rfl)) (Or.inl (Own.wd hw 35 rfl)) (by decide) (t := .int) (t' := .int) (by decide) (by decide)))
  have F10 := fc7.other W3 (Or.inr (slot_ne (Or.inl (Own.wd hw 49 rfl)) (Or.inl (Own.wd hw 35 rfl)) (by decide) (t := .int) (t' := .int) (by decide) (by decide)))
  have F11 := fc8.other W3 (Ne.symm nq0)
  have F12 := fc9.other W3 (Ne.symm nq5)
  have F13 := fc10.other W3 (Ne.symm nq1)
  have F14 := fc11.other W3 (Ne.symm nq2)
  have F15 := fc12.other W3 nq21
  have F16 := (Keep.refl h0 [a, x2, oa, na]).wr W3 (Or.inl (List.mem_of_getElem? (i := 0) rfl))
  have F17 : Fld Z h3 a "com/example/allocus/allocus/method/Population" "count" "I" (.int (3 : Int32)) := Fld.same W3 fc4
  have Z18 : n0 ≤ h3.size := by rw [W3.size]; exact Z0
  clear X2 fc0 fc1 fc10 fc11 fc12 fc2 fc3 fc4 fc5 fc6 fc7 fc8 fc9
  refine Own.aloadN X3 d5_16 rfl rfl ?_
  refine Own.iload X3 d5_17 rfl ?_
  refine Own.aloadN X3 d5_19 rfl rfl ?_
  refine Own.dloadN X3 d5_20 rfl ?_
  refine Own.callP_ (y := mn_2) (D := "com/example/allocus/allocus/method/Population") (z' := mn_4) (z := mn_4) (a := a) X3 d5_21 (Own.wd hw 36 rfl) (Own.wd hw 37 rfl) (Own.wd hw 32 rfl) rfl (Own.wd hw 38 rfl) (Own.wd hw 12 rfl) (Own.wd hw 39 rfl) (by decide) F4 (rm6_2 l Z a0 hw a si dv pl oa na x0 x1 x2 k_pl c_pl k_oa k_na b0 b1 b2 m0 m1 m2 eJ k_si y0 y1 u20 u21 (3 : Int32) (1 : Int32) (0 : Int32) h3 n0 Z18 F4 F5 F6 F7 F17 F8 F9 F10 F11 F12 F13 F14 F15 nq0 nq1 nq2 nq3 nq4 nq5 nq6 nq7 nq8 nq9 nq10 nq11 nq12 nq13 nq14 nq15 nq16 nq17 nq18 nq19 nq20 nq21 nq22 nq23 nq24 nq25 nq26 nq27 fq0 fq1 fq2 fq3 fq4 fq5 ) (lenOf pd_3 rfl) rfl (argsL := [.int (2 : Int32), .ref si, .double dv]) (rest := []) rfl (W := 0) (Nat.le_of_eq rfl) (by decide) (by decide) (by decide) (by decide) fun T19 h19 v19 X19 q19 => ?_
  obtain ⟨rfl, K19, G19_0, G19_1, G19_2, G19_3, G19_4, G19_5, G19_6, G19_7, G19_8, G19_9⟩ := q19
  have F20 := F4.keep K19
  have F21 := F11.keep K19 (ninS (Ne.symm nq0) (ninS nq10 (ninS nq6 (ninS nq7 nin0))))
  have F22 := F15.keep K19 (ninS nq21 (ninS nq27 (ninS nq23 (ninS nq24 nin0))))
  have F23 := F16.trans K19 (allS (Or.inl (List.mem_of_getElem? (i := 0) rfl)) (allS (Or.inl (List.mem_of_getElem? (i := 1) rfl)) (allS (Or.inl (List.mem_of_getElem? (i := 2) rfl)) (allS (Or.inl (List.mem_of_getElem? (i := 3) rfl)) all0))))
  have Z24 : n0 ≤ h19.size := Nat.le_trans Z18 K19.1
  show Own.Go p e below s n0 _ _ _ (T19.setTop (mkF m 24 _ []))
  clear F10 F11 F12 F13 F14 F15 F16 F17 F4 F5 F6 F7 F8 F9 X3
  refine Own.iload X19 d5_24 rfl ?_
  refine Own.iff_ X19 (pc' := 43) d5_26 (by decide) (fun q => absurd (show (2 : Int) = (0 : Int) from q) (show ¬ ((2 : Int) = (0 : Int)) from by decide)) (fun _ => ?_)
  refine Own.dloadN X19 d5_29 rfl ?_
  refine Own.aloadN X19 d5_30 rfl rfl ?_
  refine Own.getF_ X19 d5_31 (host := "") (Or.inl (Own.wd hw 24 rfl)) Via.refl G19_1 fun T25 X25 => ?_
  clear X19
  refine Own.aloadN X25 d5_34 rfl rfl ?_
  refine Own.getF_ X25 d5_35 (host := "") (Or.inl (Own.wd hw 46 rfl)) Via.refl G19_5 fun T26 X26 => ?_
  clear X25
  refine Own.daload_ X26 d5_38 G19_8 (by decide) rfl ?_
  refine Own.dcmpF X26 (pc' := 49) d5_39 d5_40 (by decide) n_dv n_b1 (fun _ => ?_) (fun q => absurd (show Own.dz dv ≤ Own.dz b1 from by omega) q)
  refine Own.iload X26 d5_49 rfl ?_
  refine Own.iff_ X26 (pc' := 68) d5_51 (by decide) (fun q => absurd (show (2 : Int) = (0 : Int) from q) (show ¬ ((2 : Int) = (0 : Int)) from by decide)) (fun _ => ?_)
  refine Own.dloadN X26 d5_54 rfl ?_
  refine Own.aloadN X26 d5_55 rfl rfl ?_
  refine Own.getF_ X26 d5_56 (host := "") (Or.inl (Own.wd hw 24 rfl)) Via.refl G19_1 fun T27 X27 => ?_
  clear X26
  refine Own.aloadN X27 d5_59 rfl rfl ?_
  refine Own.getF_ X27 d5_60 (host := "") (Or.inl (Own.wd hw 48 rfl)) Via.refl G19_6 fun T28 X28 => ?_
  clear X27
  refine Own.daload_ X28 d5_63 G19_8 (by decide) rfl ?_
  refine Own.dcmpF X28 (pc' := 74) d5_64 d5_65 (by decide) n_dv n_b0 (fun _ => ?_) (fun q => absurd (show Own.dz b0 ≤ Own.dz dv from by omega) q)
  exact Own.retV X28 d5_74 ⟨rfl, F23, G19_0, G19_1, G19_2, G19_3, G19_4, G19_5, G19_6, G19_7, G19_8, G19_9⟩ (by decide) (by decide)
theorem ef_5_10001 (m : MethodId) (x0 : Addr) (x1 : Addr) (x2 : UInt64) : entryFrame m #[.ref x0, .ref x1, .double x2] 5 = mkF m 0 #[.val (.ref x0), .val (.ref x1), .val (.double x2), .second, .unset] [] := by first | (simp [entryFrame, mkF, argsToLocals, Value.category, maxLocals]; done) | rfl
set_option maxRecDepth 65536 in
set_option maxHeartbeats 40000000 in
theorem rm5_10001 (l : Launch) (Z : State) (a0 : Array Value) (hw : ∀ d ∈ tables_1, d.before a0 Z = true) (a : Addr) (si : Addr) (dv : UInt64) (pl : Addr) (oa : Addr) (na : Addr) (x0 : Addr) (x1 : Addr) (x2 : Addr) (k_pl : ClassId) (c_pl : ClassId) (k_oa : ClassId) (k_na : ClassId) (b0 : UInt64) (b1 : UInt64) (b2 : UInt64) (m0 : Int64) (m1 : Int64) (m2 : Int64) (eJ : Int64) (k_si : ClassId) (y0 : Int32) (y1 : Int32) (u10 : Int32) (u11 : Int32) (h0 : Heap) (n0 : Nat) (Z0 : n0 ≤ h0.size) (fc0 : Exa Z h0 a "com/example/allocus/allocus/method/Population") (fc1 : Fld Z h0 a "com/example/allocus/allocus/method/Population" "plans" "[[I" (.ref pl)) (fc2 : Fld Z h0 a "com/example/allocus/allocus/method/Population" "objectives" "[D" (.ref oa)) (fc3 : Fld Z h0 a "com/example/allocus/allocus/method/Population" "entered" "[J" (.ref na)) (fc4 : Fld Z h0 a "com/example/allocus/allocus/method/Population" "count" "I" (.int (1 : Int32))) (fc5 : Fld Z h0 a "com/example/allocus/allocus/method/Population" "entries" "J" (.long eJ)) (fc6 : Fld Z h0 a "com/example/allocus/allocus/method/Population" "worst" "I" (.int (0 : Int32))) (fc7 : Fld Z h0 a "com/example/allocus/allocus/method/Population" "best" "I" (.int (0 : Int32))) (fc8 : Arv Z h0 pl k_pl (.array .int) (3 : Int32) [.ref x0, .ref x1, .ref x2] (.null)) (fc9 : Arv Z h0 x1 c_pl .int (2 : Int32) [.int u10, .int u11] (.int (0 : Int32))) (fc10 : Arv Z h0 oa k_oa .double (3 : Int32) [.double b0, .double b1, .double b2] (.double 0)) (fc11 : Arv Z h0 na k_na .long (3 : Int32) [.long m0, .long m1, .long m2] (.long (0 : Int64))) (fc12 : Arv Z h0 si k_si .int (2 : Int32) [.int y0, .int y1] (.int (0 : Int32))) (nq0 : a ≠ pl) (nq1 : a ≠ oa) (nq2 : a ≠ na) (nq3 : a ≠ x0) (nq4 : a ≠ x1) (nq5 : a ≠ x2) (nq6 : pl ≠ oa) (nq7 : pl ≠ na) (nq8 : pl ≠ x0) (nq9 : pl ≠ x1) (nq10 : pl ≠ x2) (nq11 : oa ≠ na) (nq12 : oa ≠ x0) (nq13 : oa ≠ x1) (nq14 : oa ≠ x2) (nq15 : na ≠ x0) (nq16 : na ≠ x1) (nq17 : na ≠ x2) (nq18 : x0 ≠ x1) (nq19 : x0 ≠ x2) (nq20 : x1 ≠ x2) (nq21 : si ≠ a) (nq22 : si ≠ pl) (nq23 : si ≠ oa) (nq24 : si ≠ na) (nq25 : si ≠ x0) (nq26 : si ≠ x1) (nq27 : si ≠ x2) (fq0 : n0 ≤ a) (fq1 : n0 ≤ x0) (fq2 : n0 ≤ x1) (fq3 : n0 ≤ x2) (fq4 : n0 ≤ oa) (fq5 : n0 ≤ na) (n_dv : NoNaN64 dv) (n_b0 : NoNaN64 b0) (c1 : Own.dz dv ≤ Own.dz b0) (c2 : Own.dz dv < Own.dz b0) :
    Own.Con l Z mn_4 [] prog_48_method_5_code 5 none ({ frames := 2, cells := 0, slots := 0, locals := 48 } : Room) #[.ref a, .ref si, .double dv] h0 n0 (fun v h => v = none ∧ Keep h0 h [a, x1, oa, na] ∧ Fld Z h a "com/example/allocus/allocus/method/Population" "plans" "[[I" (.ref pl) ∧ Fld Z h a "com/example/allocus/allocus/method/Population" "objectives" "[D" (.ref oa) ∧ Fld Z h a "com/example/allocus/allocus/method/Population" "entered" "[J" (.ref na) ∧ Fld Z h a "com/example/allocus/allocus/method/Population" "count" "I" (.int (2 : Int32)) ∧ Fld Z h a "com/example/allocus/allocus/method/Population" "entries" "J" (.long (eJ + (1 : Int64))) ∧ Fld Z h a "com/example/allocus/allocus/method/Population" "worst" "I" (.int (0 : Int32)) ∧ Fld Z h a "com/example/allocus/allocus/method/Population" "best" "I" (.int (1 : Int32)) ∧ Arv Z h x1 c_pl .int (2 : Int32) [.int y0, .int y1] (.int (0 : Int32)) ∧ Arv Z h oa k_oa .double (3 : Int32) [.double b0, .double dv, .double b2] (.double 0) ∧ Arv Z h na k_na .long (3 : Int32) [.long m0, .long eJ, .long m2] (.long (0 : Int64))) := by
  refine Own.enter (own := "com/example/allocus/allocus/method/Population") (nm := "add") (plainFor_of_name pn_com_example_allocus_allocus_method_Population) rfl rfl (fun m => ef_5_10001 m a si dv) fun p e s m below meth c T X => ?_
  refine Own.aloadN X d5_0 rfl rfl ?_
  refine Own.getF_ X d5_1 (host := "") (Or.inl (Own.wd hw 34 rfl)) Via.refl fc4 fun T1 X1 => ?_
  clear X
  refine Own.istore X1 d5_4 (l' := #[.val (.ref a), .val (.ref si), .val (.double dv), .second, .val (.int (1 : Int32))]) rfl ?_
  refine Own.aloadN X1 d5_6 rfl rfl ?_
  refine Own.dup X1 d5_7 rfl ?_
  refine Own.getF_ X1 d5_8 (host := "") (Or.inl (Own.wd hw 34 rfl)) Via.refl fc4 fun T2 X2 => ?_
  clear X1
  refine Own.iconst X2 (v := 1) d5_11 rfl ?_
  refine Own.iadd X2 d5_12 ?_
  show Own.Go p e below s n0 _ _ _ (T2.setTop (mkF m 13 _ [.int (2 : Int32), .ref a]))
  refine Own.putF_ X2 d5_13 (host := "") (Or.inl (Own.wd hw 34 rfl)) Via.refl fc4 fc0 (Or.inl (Own.wd hw 35 rfl)) (Own.wd hw 11 rfl) (ty := .int) (by decide) rfl rfl fq0 fun T3 h3 X3 W3 => ?_
  have F4 := fc0.wr W3
  have F5 := fc1.other W3 (Or.inr (slot_ne (Or.inr (Own.wd hw 22 rfl)) (Or.inl (Own.wd hw 35 rfl)) (by decide) (t := (.array (.array .int))) (t' := .int) (by decide) (by decide)))
  have F6 := fc2.other W3 (Or.inr (slot_ne (Or.inr (Own.wd hw 25 rfl)) (Or.inl (Own.wd hw 35 rfl)) (by decide) (t := (.array .double)) (t' := .int) (by decide) (by decide)))
  have F7 := fc3.other W3 (Or.inr (slot_ne (Or.inr (Own.wd hw 28 rfl)) (Or.inl (Own.wd hw 35 rfl)) (by decide) (t := (.array .long)) (t' := .int) (by decide) (by decide)))
  have F8 := fc5.other W3 (Or.inr (slot_ne (Or.inl (Own.wd hw 45 rfl)) (Or.inl (Own.wd hw 35 rfl)) (by decide) (t := .long) (t' := .int) (by decide) (by decide)))
  have F9 := fc6.other W3 (Or.inr (slot_ne (Or.inl (Own.wd hw 47 rfl)) (Or.inl (Own.wd hw 35 rfl)) (by decide) (t := .int) (t' := .int) (by decide) (by decide)))
  have F10 := fc7.other W3 (Or.inr (slot_ne (Or.inl (Own.wd hw 49 rfl)) (Or.inl (Own.wd hw 35 rfl)) (by decide) (t := .int) (t' := .int) (by decide) (by decide)))
  have F11 := fc8.other W3 (Ne.symm nq0)
  have F12 := fc9.other W3 (Ne.symm nq4)
  have F13 := fc10.other W3 (Ne.symm nq1)
  have F14 := fc11.other W3 (Ne.symm nq2)
  have F15 := fc12.other W3 nq21
  have F16 := (Keep.refl h0 [a, x1, oa, na]).wr W3 (Or.inl (List.mem_of_getElem? (i := 0) rfl))
  have F17 : Fld Z h3 a "com/example/allocus/allocus/method/Population" "count" "I" (.int (2 : Int32)) := Fld.same W3 fc4
  have Z18 : n0 ≤ h3.size := by rw [W3.size]; exact Z0
  clear X2 fc0 fc1 fc10 fc11 fc12 fc2 fc3 fc4 fc5 fc6 fc7 fc8 fc9
  refine Own.aloadN X3 d5_16 rfl rfl ?_
  refine Own.iload X3 d5_17 rfl ?_
  refine Own.aloadN X3 d5_19 rfl rfl ?_
  refine Own.dloadN X3 d5_20 rfl ?_
  refine Own.callP_ (y := mn_2) (D := "com/example/allocus/allocus/method/Population") (z' := mn_4) (z := mn_4) (a := a) X3 d5_21 (Own.wd hw 36 rfl) (Own.wd hw 37 rfl) (Own.wd hw 32 rfl) rfl (Own.wd hw 38 rfl) (Own.wd hw 12 rfl) (Own.wd hw 39 rfl) (by decide) F4 (rm6_1 l Z a0 hw a si dv pl oa na x0 x1 x2 k_pl c_pl k_oa k_na b0 b1 b2 m0 m1 m2 eJ k_si y0 y1 u10 u11 (2 : Int32) (0 : Int32) (0 : Int32) h3 n0 Z18 F4 F5 F6 F7 F17 F8 F9 F10 F11 F12 F13 F14 F15 nq0 nq1 nq2 nq3 nq4 nq5 nq6 nq7 nq8 nq9 nq10 nq11 nq12 nq13 nq14 nq15 nq16 nq17 nq18 nq19 nq20 nq21 nq22 nq23 nq24 nq25 nq26 nq27 fq0 fq1 fq2 fq3 fq4 fq5 ) (lenOf pd_3 rfl) rfl (argsL := [.int (1 : Int32), .ref si, .double dv]) (rest := []) rfl (W := 0) (Nat.le_of_eq rfl) (by decide) (by decide) (by decide) (by decide) fun T19 h19 v19 X19 q19 => ?_
  obtain ⟨rfl, K19, G19_0, G19_1, G19_2, G19_3, G19_4, G19_5, G19_6, G19_7, G19_8, G19_9⟩ := q19
  have F20 := F4.keep K19
  have F21 := F11.keep K19 (ninS (Ne.symm nq0) (ninS nq9 (ninS nq6 (ninS nq7 nin0))))
  have F22 := F15.keep K19 (ninS nq21 (ninS nq26 (ninS nq23 (ninS nq24 nin0))))
  have F23 := F16.trans K19 (allS (Or.inl (List.mem_of_getElem? (i := 0) rfl)) (allS (Or.inl (List.mem_of_getElem? (i := 1) rfl)) (allS (Or.inl (List.mem_of_getElem? (i := 2) rfl)) (allS (Or.inl (List.mem_of_getElem? (i := 3) rfl)) all0))))
  have Z24 : n0 ≤ h19.size := Nat.le_trans Z18 K19.1
  show Own.Go p e below s n0 _ _ _ (T19.setTop (mkF m 24 _ []))
  clear F10 F11 F12 F13 F14 F15 F16 F17 F4 F5 F6 F7 F8 F9 X3
  refine Own.iload X19 d5_24 rfl ?_
  refine Own.iff_ X19 (pc' := 43) d5_26 (by decide) (fun q => absurd (show (1 : Int) = (0 : Int) from q) (show ¬ ((1 : Int) = (0 : Int)) from by decide)) (fun _ => ?_)
  refine Own.dloadN X19 d5_29 rfl ?_
  refine Own.aloadN X19 d5_30 rfl rfl ?_
  refine Own.getF_ X19 d5_31 (host := "") (Or.inl (Own.wd hw 24 rfl)) Via.refl G19_1 fun T25 X25 => ?_
  clear X19
  refine Own.aloadN X25 d5_34 rfl rfl ?_
  refine Own.getF_ X25 d5_35 (host := "") (Or.inl (Own.wd hw 46 rfl)) Via.refl G19_5 fun T26 X26 => ?_
  clear X25
  refine Own.daload_ X26 d5_38 G19_8 (by decide) rfl ?_
  refine Own.dcmpF X26 (pc' := 49) d5_39 d5_40 (by decide) n_dv n_b0 (fun _ => ?_) (fun q => absurd (show Own.dz dv ≤ Own.dz b0 from by omega) q)
  refine Own.iload X26 d5_49 rfl ?_
  refine Own.iff_ X26 (pc' := 68) d5_51 (by decide) (fun q => absurd (show (1 : Int) = (0 : Int) from q) (show ¬ ((1 : Int) = (0 : Int)) from by decide)) (fun _ => ?_)
  refine Own.dloadN X26 d5_54 rfl ?_
  refine Own.aloadN X26 d5_55 rfl rfl ?_
  refine Own.getF_ X26 d5_56 (host := "") (Or.inl (Own.wd hw 24 rfl)) Via.refl G19_1 fun T27 X27 => ?_
  clear X26
  refine Own.aloadN X27 d5_59 rfl rfl ?_
  refine Own.getF_ X27 d5_60 (host := "") (Or.inl (Own.wd hw 48 rfl)) Via.refl G19_6 fun T28 X28 => ?_
  clear X27
  refine Own.daload_ X28 d5_63 G19_8 (by decide) rfl ?_
  refine Own.dcmpF X28 (pc' := 74) d5_64 d5_65 (by decide) n_dv n_b0 (fun q => absurd (show Own.dz b0 ≤ Own.dz dv from q) (show ¬ (Own.dz b0 ≤ Own.dz dv) from by omega)) (fun _ => ?_)
  refine Own.aloadN X28 d5_68 rfl rfl ?_
  refine Own.iload X28 d5_69 rfl ?_
  refine Own.putF_ X28 d5_71 (host := "") (Or.inl (Own.wd hw 48 rfl)) Via.refl G19_6 F20 (Or.inl (Own.wd hw 49 rfl)) (Own.wd hw 11 rfl) (ty := .int) (by decide) rfl rfl fq0 fun T29 h29 X29 W29 => ?_
  have F30 := F20.wr W29
  have F31 := F21.other W29 (Ne.symm nq0)
  have F32 := F22.other W29 nq21
  have F33 := F23.wr W29 (Or.inl (List.mem_of_getElem? (i := 0) rfl))
  have F34 := G19_0.other W29 (Or.inr (slot_ne (Or.inr (Own.wd hw 22 rfl)) (Or.inl (Own.wd hw 49 rfl)) (by decide) (t := (.array (.array .int))) (t' := .int) (by decide) (by decide)))
  have F35 := G19_1.other W29 (Or.inr (slot_ne (Or.inr (Own.wd hw 25 rfl)) (Or.inl (Own.wd hw 49 rfl)) (by decide) (t := (.array .double)) (t' := .int) (by decide) (by decide)))
  have F36 := G19_2.other W29 (Or.inr (slot_ne (Or.inr (Own.wd hw 28 rfl)) (Or.inl (Own.wd hw 49 rfl)) (by decide) (t := (.array .long)) (t' := .int) (by decide) (by decide)))
  have F37 := G19_3.other W29 (Or.inr (slot_ne (Or.inl (Own.wd hw 35 rfl)) (Or.inl (Own.wd hw 49 rfl)) (by decide) (t := .int) (t' := .int) (by decide) (by decide)))
  have F38 := G19_4.other W29 (Or.inr (slot_ne (Or.inl (Own.wd hw 45 rfl)) (Or.inl (Own.wd hw 49 rfl)) (by decide) (t := .long) (t' := .int) (by decide) (by decide)))
  have F39 := G19_5.other W29 (Or.inr (slot_ne (Or.inl (Own.wd hw 47 rfl)) (Or.inl (Own.wd hw 49 rfl)) (by decide) (t := .int) (t' := .int) (by decide) (by decide)))
  have F40 := G19_7.other W29 (Ne.symm nq4)
  have F41 := G19_8.other W29 (Ne.symm nq1)
  have F42 := G19_9.other W29 (Ne.symm nq2)
  have F43 : Fld Z h29 a "com/example/allocus/allocus/method/Population" "best" "I" (.int (1 : Int32)) := Fld.same W29 G19_6
  have Z44 : n0 ≤ h29.size := by rw [W29.size]; exact Z24
  clear F20 F21 F22 F23 G19_0 G19_1 G19_2 G19_3 G19_4 G19_5 G19_6 G19_7 G19_8 G19_9 X28
  exact Own.retV X29 d5_74 ⟨rfl, F33, F34, F35, F36, F37, F38, F39, F43, F40, F41, F42⟩ (by decide) (by decide)
theorem ef_5_20121 (m : MethodId) (x0 : Addr) (x1 : Addr) (x2 : UInt64) : entryFrame m #[.ref x0, .ref x1, .double x2] 5 = mkF m 0 #[.val (.ref x0), .val (.ref x1), .val (.double x2), .second, .unset] [] := by first | (simp [entryFrame, mkF, argsToLocals, Value.category, maxLocals]; done) | rfl
set_option maxRecDepth 65536 in
set_option maxHeartbeats 40000000 in
theorem rm5_20121 (l : Launch) (Z : State) (a0 : Array Value) (hw : ∀ d ∈ tables_1, d.before a0 Z = true) (a : Addr) (si : Addr) (dv : UInt64) (pl : Addr) (oa : Addr) (na : Addr) (x0 : Addr) (x1 : Addr) (x2 : Addr) (k_pl : ClassId) (c_pl : ClassId) (k_oa : ClassId) (k_na : ClassId) (b0 : UInt64) (b1 : UInt64) (b2 : UInt64) (m0 : Int64) (m1 : Int64) (m2 : Int64) (eJ : Int64) (k_si : ClassId) (y0 : Int32) (y1 : Int32) (u20 : Int32) (u21 : Int32) (h0 : Heap) (n0 : Nat) (Z0 : n0 ≤ h0.size) (fc0 : Exa Z h0 a "com/example/allocus/allocus/method/Population") (fc1 : Fld Z h0 a "com/example/allocus/allocus/method/Population" "plans" "[[I" (.ref pl)) (fc2 : Fld Z h0 a "com/example/allocus/allocus/method/Population" "objectives" "[D" (.ref oa)) (fc3 : Fld Z h0 a "com/example/allocus/allocus/method/Population" "entered" "[J" (.ref na)) (fc4 : Fld Z h0 a "com/example/allocus/allocus/method/Population" "count" "I" (.int (2 : Int32))) (fc5 : Fld Z h0 a "com/example/allocus/allocus/method/Population" "entries" "J" (.long eJ)) (fc6 : Fld Z h0 a "com/example/allocus/allocus/method/Population" "worst" "I" (.int (0 : Int32))) (fc7 : Fld Z h0 a "com/example/allocus/allocus/method/Population" "best" "I" (.int (1 : Int32))) (fc8 : Arv Z h0 pl k_pl (.array .int) (3 : Int32) [.ref x0, .ref x1, .ref x2] (.null)) (fc9 : Arv Z h0 x2 c_pl .int (2 : Int32) [.int u20, .int u21] (.int (0 : Int32))) (fc10 : Arv Z h0 oa k_oa .double (3 : Int32) [.double b0, .double b1, .double b2] (.double 0)) (fc11 : Arv Z h0 na k_na .long (3 : Int32) [.long m0, .long m1, .long m2] (.long (0 : Int64))) (fc12 : Arv Z h0 si k_si .int (2 : Int32) [.int y0, .int y1] (.int (0 : Int32))) (nq0 : a ≠ pl) (nq1 : a ≠ oa) (nq2 : a ≠ na) (nq3 : a ≠ x0) (nq4 : a ≠ x1) (nq5 : a ≠ x2) (nq6 : pl ≠ oa) (nq7 : pl ≠ na) (nq8 : pl ≠ x0) (nq9 : pl ≠ x1) (nq10 : pl ≠ x2) (nq11 : oa ≠ na) (nq12 : oa ≠ x0) (nq13 : oa ≠ x1) (nq14 : oa ≠ x2) (nq15 : na ≠ x0) (nq16 : na ≠ x1) (nq17 : na ≠ x2) (nq18 : x0 ≠ x1) (nq19 : x0 ≠ x2) (nq20 : x1 ≠ x2) (nq21 : si ≠ a) (nq22 : si ≠ pl) (nq23 : si ≠ oa) (nq24 : si ≠ na) (nq25 : si ≠ x0) (nq26 : si ≠ x1) (nq27 : si ≠ x2) (fq0 : n0 ≤ a) (fq1 : n0 ≤ x0) (fq2 : n0 ≤ x1) (fq3 : n0 ≤ x2) (fq4 : n0 ≤ oa) (fq5 : n0 ≤ na) (n_dv : NoNaN64 dv) (n_b0 : NoNaN64 b0) (n_b1 : NoNaN64 b1) (c1 : Own.dz b0 < Own.dz dv) (c2 : Own.dz b1 ≤ Own.dz dv) :
    Own.Con l Z mn_4 [] prog_48_method_5_code 5 none ({ frames := 2, cells := 0, slots := 0, locals := 48 } : Room) #[.ref a, .ref si, .double dv] h0 n0 (fun v h => v = none ∧ Keep h0 h [a, x2, oa, na] ∧ Fld Z h a "com/example/allocus/allocus/method/Population" "plans" "[[I" (.ref pl) ∧ Fld Z h a "com/example/allocus/allocus/method/Population" "objectives" "[D" (.ref oa) ∧ Fld Z h a "com/example/allocus/allocus/method/Population" "entered" "[J" (.ref na) ∧ Fld Z h a "com/example/allocus/allocus/method/Population" "count" "I" (.int (3 : Int32)) ∧ Fld Z h a "com/example/allocus/allocus/method/Population" "entries" "J" (.long (eJ + (1 : Int64))) ∧ Fld Z h a "com/example/allocus/allocus/method/Population" "worst" "I" (.int (2 : Int32)) ∧ Fld Z h a "com/example/allocus/allocus/method/Population" "best" "I" (.int (1 : Int32)) ∧ Arv Z h x2 c_pl .int (2 : Int32) [.int y0, .int y1] (.int (0 : Int32)) ∧ Arv Z h oa k_oa .double (3 : Int32) [.double b0, .double b1, .double dv] (.double 0) ∧ Arv Z h na k_na .long (3 : Int32) [.long m0, .long m1, .long eJ] (.long (0 : Int64))) := by
  refine Own.enter (own := "com/example/allocus/allocus/method/Population") (nm := "add") (plainFor_of_name pn_com_example_allocus_allocus_method_Population) rfl rfl (fun m => ef_5_20121 m a si dv) fun p e s m below meth c T X => ?_
  refine Own.aloadN X d5_0 rfl rfl ?_
  refine Own.getF_ X d5_1 (host := "") (Or.inl (Own.wd hw 34 rfl)) Via.refl fc4 fun T1 X1 => ?_
  clear X
  refine Own.istore X1 d5_4 (l' := #[.val (.ref a), .val (.ref si), .val (.double dv), .second, .val (.int (2 : Int32))]) rfl ?_
  refine Own.aloadN X1 d5_6 rfl rfl ?_
  refine Own.dup X1 d5_7 rfl ?_
  refine Own.getF_ X1 d5_8 (host := "") (Or.inl (Own.wd hw 34 rfl)) Via.refl fc4 fun T2 X2 => ?_
  clear X1
  refine Own.iconst X2 (v := 1) d5_11 rfl ?_
  refine Own.iadd X2 d5_12 ?_
  show Own.Go p e below s n0 _ _ _ (T2.setTop (mkF m 13 _ [.int (3 : Int32), .ref a]))
  refine Own.putF_ X2 d5_13 (host := "") (Or.inl (Own.wd hw 34 rfl)) Via.refl fc4 fc0 (Or.inl (Own.wd hw 35 rfl)) (Own.wd hw 11 rfl) (ty := .int) (by decide) rfl rfl fq0 fun T3 h3 X3 W3 => ?_
  have F4 := fc0.wr W3
  have F5 := fc1.other W3 (Or.inr (slot_ne (Or.inr (Own.wd hw 22 rfl)) (Or.inl (Own.wd hw 35 rfl)) (by decide) (t := (.array (.array .int))) (t' := .int) (by decide) (by decide)))
  have F6 := fc2.other W3 (Or.inr (slot_ne (Or.inr (Own.wd hw 25 rfl)) (Or.inl (Own.wd hw 35 rfl)) (by decide) (t := (.array .double)) (t' := .int) (by decide) (by decide)))
  have F7 := fc3.other W3 (Or.inr (slot_ne (Or.inr (Own.wd hw 28 rfl)) (Or.inl (Own.wd hw 35 rfl)) (by decide) (t := (.array .long)) (t' := .int) (by decide) (by decide)))
  have F8 := fc5.other W3 (Or.inr (slot_ne (Or.inl (Own.wd hw 45 rfl)) (Or.inl (Own.wd hw 35 rfl)) (by decide) (t := .long) (t' := .int) (by decide) (by decide)))
  have F9 := fc6.other W3 (Or.inr (slot_ne (Or.inl (Own.wd hw 47 rfl)) (Or.inl (Own.wd hw 35 rfl)) (by decide) (t := .int) (t' := .int) (by decide) (by decide)))
  have F10 := fc7.other W3 (Or.inr (slot_ne (Or.inl (Own.wd hw 49 rfl)) (Or.inl (Own.wd hw 35 rfl)) (by decide) (t := .int) (t' := .int) (by decide) (by decide)))
  have F11 := fc8.other W3 (Ne.symm nq0)
  have F12 := fc9.other W3 (Ne.symm nq5)
  have F13 := fc10.other W3 (Ne.symm nq1)
  have F14 := fc11.other W3 (Ne.symm nq2)
  have F15 := fc12.other W3 nq21
  have F16 := (Keep.refl h0 [a, x2, oa, na]).wr W3 (Or.inl (List.mem_of_getElem? (i := 0) rfl))
  have F17 : Fld Z h3 a "com/example/allocus/allocus/method/Population" "count" "I" (.int (3 : Int32)) := Fld.same W3 fc4
  have Z18 : n0 ≤ h3.size := by rw [W3.size]; exact Z0
  clear X2 fc0 fc1 fc10 fc11 fc12 fc2 fc3 fc4 fc5 fc6 fc7 fc8 fc9
  refine Own.aloadN X3 d5_16 rfl rfl ?_
  refine Own.iload X3 d5_17 rfl ?_
  refine Own.aloadN X3 d5_19 rfl rfl ?_
  refine Own.dloadN X3 d5_20 rfl ?_
  refine Own.callP_ (y := mn_2) (D := "com/example/allocus/allocus/method/Population") (z' := mn_4) (z := mn_4) (a := a) X3 d5_21 (Own.wd hw 36 rfl) (Own.wd hw 37 rfl) (Own.wd hw 32 rfl) rfl (Own.wd hw 38 rfl) (Own.wd hw 12 rfl) (Own.wd hw 39 rfl) (by decide) F4 (rm6_2 l Z a0 hw a si dv pl oa na x0 x1 x2 k_pl c_pl k_oa k_na b0 b1 b2 m0 m1 m2 eJ k_si y0 y1 u20 u21 (3 : Int32) (0 : Int32) (1 : Int32) h3 n0 Z18 F4 F5 F6 F7 F17 F8 F9 F10 F11 F12 F13 F14 F15 nq0 nq1 nq2 nq3 nq4 nq5 nq6 nq7 nq8 nq9 nq10 nq11 nq12 nq13 nq14 nq15 nq16 nq17 nq18 nq19 nq20 nq21 nq22 nq23 nq24 nq25 nq26 nq27 fq0 fq1 fq2 fq3 fq4 fq5 ) (lenOf pd_3 rfl) rfl (argsL := [.int (2 : Int32), .ref si, .double dv]) (rest := []) rfl (W := 0) (Nat.le_of_eq rfl) (by decide) (by decide) (by decide) (by decide) fun T19 h19 v19 X19 q19 => ?_
  obtain ⟨rfl, K19, G19_0, G19_1, G19_2, G19_3, G19_4, G19_5, G19_6, G19_7, G19_8, G19_9⟩ := q19
  have F20 := F4.keep K19
  have F21 := F11.keep K19 (ninS (Ne.symm nq0) (ninS nq10 (ninS nq6 (ninS nq7 nin0))))
  have F22 := F15.keep K19 (ninS nq21 (ninS nq27 (ninS nq23 (ninS nq24 nin0))))
  have F23 := F16.trans K19 (allS (Or.inl (List.mem_of_getElem? (i := 0) rfl)) (allS (Or.inl (List.mem_of_getElem? (i := 1) rfl)) (allS (Or.inl (List.mem_of_getElem? (i := 2) rfl)) (allS (Or.inl (List.mem_of_getElem? (i := 3) rfl)) all0))))
  have Z24 : n0 ≤ h19.size := Nat.le_trans Z18 K19.1
  show Own.Go p e below s n0 _ _ _ (T19.setTop (mkF m 24 _ []))
  clear F10 F11 F12 F13 F14 F15 F16 F17 F4 F5 F6 F7 F8 F9 X3
  refine Own.iload X19 d5_24 rfl ?_
  refine Own.iff_ X19 (pc' := 43) d5_26 (by decide) (fun q => absurd (show (2 : Int) = (0 : Int) from q) (show ¬ ((2 : Int) = (0 : Int)) from by decide)) (fun _ => ?_)
  refine Own.dloadN X19 d5_29 rfl ?_
  refine Own.aloadN X19 d5_30 rfl rfl ?_
  refine Own.getF_ X19 d5_31 (host := "") (Or.inl (Own.wd hw 24 rfl)) Via.refl G19_1 fun T25 X25 => ?_
  clear X19
  refine Own.aloadN X25 d5_34 rfl rfl ?_
  refine Own.getF_ X25 d5_35 (host := "") (Or.inl (Own.wd hw 46 rfl)) Via.refl G19_5 fun T26 X26 => ?_
  clear X25
  refine Own.daload_ X26 d5_38 G19_8 (by decide) rfl ?_
  refine Own.dcmpF X26 (pc' := 49) d5_39 d5_40 (by decide) n_dv n_b0 (fun q => absurd (show Own.dz dv ≤ Own.dz b0 from q) (show ¬ (Own.dz dv ≤ Own.dz b0) from by omega)) (fun _ => ?_)
  refine Own.aloadN X26 d5_43 rfl rfl ?_
  refine Own.iload X26 d5_44 rfl ?_
  refine Own.putF_ X26 d5_46 (host := "") (Or.inl (Own.wd hw 46 rfl)) Via.refl G19_5 F20 (Or.inl (Own.wd hw 47 rfl)) (Own.wd hw 11 rfl) (ty := .int) (by decide) rfl rfl fq0 fun T27 h27 X27 W27 => ?_
  have F28 := F20.wr W27
  have F29 := F21.other W27 (Ne.symm nq0)
  have F30 := F22.other W27 nq21
  have F31 := F23.wr W27 (Or.inl (List.mem_of_getElem? (i := 0) rfl))
  have F32 := G19_0.other W27 (Or.inr (slot_ne (Or.inr (Own.wd hw 22 rfl)) (Or.inl (Own.wd hw 47 rfl)) (by decide) (t := (.array (.array .int))) (t' := .int) (by decide) (by decide)))
  have F33 := G19_1.other W27 (Or.inr (slot_ne (Or.inr (Own.wd hw 25 rfl)) (Or.inl (Own.wd hw 47 rfl)) (by decide) (t := (.array .double)) (t' := .int) (by decide) (by decide)))
  have F34 := G19_2.other W27 (Or.inr (slot_ne (Or.inr (Own.wd hw 28 rfl)) (Or.inl (Own.wd hw 47 rfl)) (by decide) (t := (.array .long)) (t' := .int) (by decide) (by decide)))
  have F35 := G19_3.other W27 (Or.inr (slot_ne (Or.inl (Own.wd hw 35 rfl)) (Or.inl (Own.wd hw 47 rfl)) (by decide) (t := .int) (t' := .int) (by decide) (by decide)))
  have F36 := G19_4.other W27 (Or.inr (slot_ne (Or.inl (Own.wd hw 45 rfl)) (Or.inl (Own.wd hw 47 rfl)) (by decide) (t := .long) (t' := .int) (by decide) (by decide)))
  have F37 := G19_6.other W27 (Or.inr (slot_ne (Or.inl (Own.wd hw 49 rfl)) (Or.inl (Own.wd hw 47 rfl)) (by decide) (t := .int) (t' := .int) (by decide) (by decide)))
  have F38 := G19_7.other W27 (Ne.symm nq5)
  have F39 := G19_8.other W27 (Ne.symm nq1)
  have F40 := G19_9.other W27 (Ne.symm nq2)
  have F41 : Fld Z h27 a "com/example/allocus/allocus/method/Population" "worst" "I" (.int (2 : Int32)) := Fld.same W27 G19_5
  have Z42 : n0 ≤ h27.size := by rw [W27.size]; exact Z24
  clear F20 F21 F22 F23 G19_0 G19_1 G19_2 G19_3 G19_4 G19_5 G19_6 G19_7 G19_8 G19_9 X26
  refine Own.iload X27 d5_49 rfl ?_
  refine Own.iff_ X27 (pc' := 68) d5_51 (by decide) (fun q => absurd (show (2 : Int) = (0 : Int) from q) (show ¬ ((2 : Int) = (0 : Int)) from by decide)) (fun _ => ?_)
  refine Own.dloadN X27 d5_54 rfl ?_
  refine Own.aloadN X27 d5_55 rfl rfl ?_
  refine Own.getF_ X27 d5_56 (host := "") (Or.inl (Own.wd hw 24 rfl)) Via.refl F33 fun T43 X43 => ?_
  clear X27
  refine Own.aloadN X43 d5_59 rfl rfl ?_
  refine Own.getF_ X43 d5_60 (host := "") (Or.inl (Own.wd hw 48 rfl)) Via.refl F37 fun T44 X44 => ?_
  clear X43
  refine Own.daload_ X44 d5_63 F39 (by decide) rfl ?_
  refine Own.dcmpF X44 (pc' := 74) d5_64 d5_65 (by decide) n_dv n_b1 (fun _ => ?_) (fun q => absurd (show Own.dz b1 ≤ Own.dz dv from by omega) q)
  exact Own.retV X44 d5_74 ⟨rfl, F31, F32, F33, F34, F35, F36, F41, F37, F38, F39, F40⟩ (by decide) (by decide)
theorem ef_5_20102 (m : MethodId) (x0 : Addr) (x1 : Addr) (x2 : UInt64) : entryFrame m #[.ref x0, .ref x1, .double x2] 5 = mkF m 0 #[.val (.ref x0), .val (.ref x1), .val (.double x2), .second, .unset] [] := by first | (simp [entryFrame, mkF, argsToLocals, Value.category, maxLocals]; done) | rfl
set_option maxRecDepth 65536 in
set_option maxHeartbeats 40000000 in
theorem rm5_20102 (l : Launch) (Z : State) (a0 : Array Value) (hw : ∀ d ∈ tables_1, d.before a0 Z = true) (a : Addr) (si : Addr) (dv : UInt64) (pl : Addr) (oa : Addr) (na : Addr) (x0 : Addr) (x1 : Addr) (x2 : Addr) (k_pl : ClassId) (c_pl : ClassId) (k_oa : ClassId) (k_na : ClassId) (b0 : UInt64) (b1 : UInt64) (b2 : UInt64) (m0 : Int64) (m1 : Int64) (m2 : Int64) (eJ : Int64) (k_si : ClassId) (y0 : Int32) (y1 : Int32) (u20 : Int32) (u21 : Int32) (h0 : Heap) (n0 : Nat) (Z0 : n0 ≤ h0.size) (fc0 : Exa Z h0 a "com/example/allocus/allocus/method/Population") (fc1 : Fld Z h0 a "com/example/allocus/allocus/method/Population" "plans" "[[I" (.ref pl)) (fc2 : Fld Z h0 a "com/example/allocus/allocus/method/Population" "objectives" "[D" (.ref oa)) (fc3 : Fld Z h0 a "com/example/allocus/allocus/method/Population" "entered" "[J" (.ref na)) (fc4 : Fld Z h0 a "com/example/allocus/allocus/method/Population" "count" "I" (.int (2 : Int32))) (fc5 : Fld Z h0 a "com/example/allocus/allocus/method/Population" "entries" "J" (.long eJ)) (fc6 : Fld Z h0 a "com/example/allocus/allocus/method/Population" "worst" "I" (.int (0 : Int32))) (fc7 : Fld Z h0 a "com/example/allocus/allocus/method/Population" "best" "I" (.int (1 : Int32))) (fc8 : Arv Z h0 pl k_pl (.array .int) (3 : Int32) [.ref x0, .ref x1, .ref x2] (.null)) (fc9 : Arv Z h0 x2 c_pl .int (2 : Int32) [.int u20, .int u21] (.int (0 : Int32))) (fc10 : Arv Z h0 oa k_oa .double (3 : Int32) [.double b0, .double b1, .double b2] (.double 0)) (fc11 : Arv Z h0 na k_na .long (3 : Int32) [.long m0, .long m1, .long m2] (.long (0 : Int64))) (fc12 : Arv Z h0 si k_si .int (2 : Int32) [.int y0, .int y1] (.int (0 : Int32))) (nq0 : a ≠ pl) (nq1 : a ≠ oa) (nq2 : a ≠ na) (nq3 : a ≠ x0) (nq4 : a ≠ x1) (nq5 : a ≠ x2) (nq6 : pl ≠ oa) (nq7 : pl ≠ na) (nq8 : pl ≠ x0) (nq9 : pl ≠ x1) (nq10 : pl ≠ x2) (nq11 : oa ≠ na) (nq12 : oa ≠ x0) (nq13 : oa ≠ x1) (nq14 : oa ≠ x2) (nq15 : na ≠ x0) (nq16 : na ≠ x1) (nq17 : na ≠ x2) (nq18 : x0 ≠ x1) (nq19 : x0 ≠ x2) (nq20 : x1 ≠ x2) (nq21 : si ≠ a) (nq22 : si ≠ pl) (nq23 : si ≠ oa) (nq24 : si ≠ na) (nq25 : si ≠ x0) (nq26 : si ≠ x1) (nq27 : si ≠ x2) (fq0 : n0 ≤ a) (fq1 : n0 ≤ x0) (fq2 : n0 ≤ x1) (fq3 : n0 ≤ x2) (fq4 : n0 ≤ oa) (fq5 : n0 ≤ na) (n_dv : NoNaN64 dv) (n_b0 : NoNaN64 b0) (n_b1 : NoNaN64 b1) (c1 : Own.dz dv ≤ Own.dz b0) (c2 : Own.dz dv < Own.dz b1) :
    Own.Con l Z mn_4 [] prog_48_method_5_code 5 none ({ frames := 2, cells := 0, slots := 0, locals := 48 } : Room) #[.ref a, .ref si, .double dv] h0 n0 (fun v h => v = none ∧ Keep h0 h [a, x2, oa, na] ∧ Fld Z h a "com/example/allocus/allocus/method/Population" "plans" "[[I" (.ref pl) ∧ Fld Z h a "com/example/allocus/allocus/method/Population" "objectives" "[D" (.ref oa) ∧ Fld Z h a "com/example/allocus/allocus/method/Population" "entered" "[J" (.ref na) ∧ Fld Z h a "com/example/allocus/allocus/method/Population" "count" "I" (.int (3 : Int32)) ∧ Fld Z h a "com/example/allocus/allocus/method/Population" "entries" "J" (.long (eJ + (1 : Int64))) ∧ Fld Z h a "com/example/allocus/allocus/method/Population" "worst" "I" (.int (0 : Int32)) ∧ Fld Z h a "com/example/allocus/allocus/method/Population" "best" "I" (.int (2 : Int32)) ∧ Arv Z h x2 c_pl .int (2 : Int32) [.int y0, .int y1] (.int (0 : Int32)) ∧ Arv Z h oa k_oa .double (3 : Int32) [.double b0, .double b1, .double dv] (.double 0) ∧ Arv Z h na k_na .long (3 : Int32) [.long m0, .long m1, .long eJ] (.long (0 : Int64))) := by
  refine Own.enter (own := "com/example/allocus/allocus/method/Population") (nm := "add") (plainFor_of_name pn_com_example_allocus_allocus_method_Population) rfl rfl (fun m => ef_5_20102 m a si dv) fun p e s m below meth c T X => ?_
  refine Own.aloadN X d5_0 rfl rfl ?_
  refine Own.getF_ X d5_1 (host := "") (Or.inl (Own.wd hw 34 rfl)) Via.refl fc4 fun T1 X1 => ?_
  clear X
  refine Own.istore X1 d5_4 (l' := #[.val (.ref a), .val (.ref si), .val (.double dv), .second, .val (.int (2 : Int32))]) rfl ?_
  refine Own.aloadN X1 d5_6 rfl rfl ?_
  refine Own.dup X1 d5_7 rfl ?_
  refine Own.getF_ X1 d5_8 (host := "") (Or.inl (Own.wd hw 34 rfl)) Via.refl fc4 fun T2 X2 => ?_
  clear X1
  refine Own.iconst X2 (v := 1) d5_11 rfl ?_
  refine Own.iadd X2 d5_12 ?_
  show Own.Go p e below s n0 _ _ _ (T2.setTop (mkF m 13 _ [.int (3 : Int32), .ref a]))
  refine Own.putF_ X2 d5_13 (host := "") (Or.inl (Own.wd hw 34 rfl)) Via.refl fc4 fc0 (Or.inl (Own.wd hw 35 rfl)) (Own.wd hw 11 rfl) (ty := .int) (by decide) rfl rfl fq0 fun T3 h3 X3 W3 => ?_
  have F4 := fc0.wr W3
  have F5 := fc1.other W3 (Or.inr (slot_ne (Or.inr (Own.wd hw 22 rfl)) (Or.inl (Own.wd hw 35 rfl)) (by decide) (t := (.array (.array .int))) (t' := .int) (by decide) (by decide)))
  have F6 := fc2.other W3 (Or.inr (slot_ne (Or.inr (Own.wd hw 25 rfl)) (Or.inl (Own.wd hw 35 rfl)) (by decide) (t := (.array .double)) (t' := .int) (by decide) (by decide)))
  have F7 := fc3.other W3 (Or.inr (slot_ne (Or.inr (Own.wd hw 28 rfl)) (Or.inl (Own.wd hw 35 rfl)) (by decide) (t := (.array .long)) (t' := .int) (by decide) (by decide)))
  have F8 := fc5.other W3 (Or.inr (slot_ne (Or.inl (Own.wd hw 45 rfl)) (Or.inl (Own.wd hw 35 rfl)) (by decide) (t := .long) (t' := .int) (by decide) (by decide)))
  have F9 := fc6.other W3 (Or.inr (slot_ne (Or.inl (Own.wd hw 47 rfl)) (Or.inl (Own.wd hw 35 rfl)) (by decide) (t := .int) (t' := .int) (by decide) (by decide)))
  have F10 := fc7.other W3 (Or.inr (slot_ne (Or.inl (Own.wd hw 49 rfl)) (Or.inl (Own.wd hw 35 rfl)) (by decide) (t := .int) (t' := .int) (by decide) (by decide)))
  have F11 := fc8.other W3 (Ne.symm nq0)
  have F12 := fc9.other W3 (Ne.symm nq5)
  have F13 := fc10.other W3 (Ne.symm nq1)
  have F14 := fc11.other W3 (Ne.symm nq2)
  have F15 := fc12.other W3 nq21
  have F16 := (Keep.refl h0 [a, x2, oa, na]).wr W3 (Or.inl (List.mem_of_getElem? (i := 0) rfl))
  have F17 : Fld Z h3 a "com/example/allocus/allocus/method/Population" "count" "I" (.int (3 : Int32)) := Fld.same W3 fc4
  have Z18 : n0 ≤ h3.size := by rw [W3.size]; exact Z0
  clear X2 fc0 fc1 fc10 fc11 fc12 fc2 fc3 fc4 fc5 fc6 fc7 fc8 fc9
  refine Own.aloadN X3 d5_16 rfl rfl ?_
  refine Own.iload X3 d5_17 rfl ?_
  refine Own.aloadN X3 d5_19 rfl rfl ?_
  refine Own.dloadN X3 d5_20 rfl ?_
  refine Own.callP_ (y := mn_2) (D := "com/example/allocus/allocus/method/Population") (z' := mn_4) (z := mn_4) (a := a) X3 d5_21 (Own.wd hw 36 rfl) (Own.wd hw 37 rfl) (Own.wd hw 32 rfl) rfl (Own.wd hw 38 rfl) (Own.wd hw 12 rfl) (Own.wd hw 39 rfl) (by decide) F4 (rm6_2 l Z a0 hw a si dv pl oa na x0 x1 x2 k_pl c_pl k_oa k_na b0 b1 b2 m0 m1 m2 eJ k_si y0 y1 u20 u21 (3 : Int32) (0 : Int32) (1 : Int32) h3 n0 Z18 F4 F5 F6 F7 F17 F8 F9 F10 F11 F12 F13 F14 F15 nq0 nq1 nq2 nq3 nq4 nq5 nq6 nq7 nq8 nq9 nq10 nq11 nq12 nq13 nq14 nq15 nq16 nq17 nq18 nq19 nq20 nq21 nq22 nq23 nq24 nq25 nq26 nq27 fq0 fq1 fq2 fq3 fq4 fq5 ) (lenOf pd_3 rfl) rfl (argsL := [.int (2 : Int32), .ref si, .double dv]) (rest := []) rfl (W := 0) (Nat.le_of_eq rfl) (by decide) (by decide) (by decide) (by decide) fun T19 h19 v19 X19 q19 => ?_
  obtain ⟨rfl, K19, G19_0, G19_1, G19_2, G19_3, G19_4, G19_5, G19_6, G19_7, G19_8, G19_9⟩ := q19
  have F20 := F4.keep K19
  have F21 := F11.keep K19 (ninS (Ne.symm nq0) (ninS nq10 (ninS nq6 (ninS nq7 nin0))))
  have F22 := F15.keep K19 (ninS nq21 (ninS nq27 (ninS nq23 (ninS nq24 nin0))))
  have F23 := F16.trans K19 (allS (Or.inl (List.mem_of_getElem? (i := 0) rfl)) (allS (Or.inl (List.mem_of_getElem? (i := 1) rfl)) (allS (Or.inl (List.mem_of_getElem? (i := 2) rfl)) (allS (Or.inl (List.mem_of_getElem? (i := 3) rfl)) all0))))
  have Z24 : n0 ≤ h19.size := Nat.le_trans Z18 K19.1
  show Own.Go p e below s n0 _ _ _ (T19.setTop (mkF m 24 _ []))
  clear F10 F11 F12 F13 F14 F15 F16 F17 F4 F5 F6 F7 F8 F9 X3
  refine Own.iload X19 d5_24 rfl ?_
  refine Own.iff_ X19 (pc' := 43) d5_26 (by decide) (fun q => absurd (show (2 : Int) = (0 : Int) from q) (show ¬ ((2 : Int) = (0 : Int)) from by decide)) (fun _ => ?_)
  refine Own.dloadN X19 d5_29 rfl ?_
  refine Own.aloadN X19 d5_30 rfl rfl ?_
  refine Own.getF_ X19 d5_31 (host := "") (Or.inl (Own.wd hw 24 rfl)) Via.refl G19_1 fun T25 X25 => ?_
  clear X19
  refine Own.aloadN X25 d5_34 rfl rfl ?_
  refine Own.getF_ X25 d5_35 (host := "") (Or.inl (Own.wd hw 46 rfl)) Via.refl G19_5 fun T26 X26 => ?_
  clear X25
  refine Own.daload_ X26 d5_38 G19_8 (by decide) rfl ?_
  refine Own.dcmpF X26 (pc' := 49) d5_39 d5_40 (by decide) n_dv n_b0 (fun _ => ?_) (fun q => absurd (show Own.dz dv ≤ Own.dz b0 from by omega) q)
  refine Own.iload X26 d5_49 rfl ?_
  refine Own.iff_ X26 (pc' := 68) d5_51 (by decide) (fun q => absurd (show (2 : Int) = (0 : Int) from q) (show ¬ ((2 : Int) = (0 : Int)) from by decide)) (fun _ => ?_)
  refine Own.dloadN X26 d5_54 rfl ?_
  refine Own.aloadN X26 d5_55 rfl rfl ?_
  refine Own.getF_ X26 d5_56 (host := "") (Or.inl (Own.wd hw 24 rfl)) Via.refl G19_1 fun T27 X27 => ?_
  clear X26
  refine Own.aloadN X27 d5_59 rfl rfl ?_
  refine Own.getF_ X27 d5_60 (host := "") (Or.inl (Own.wd hw 48 rfl)) Via.refl G19_6 fun T28 X28 => ?_
  clear X27
  refine Own.daload_ X28 d5_63 G19_8 (by decide) rfl ?_
  refine Own.dcmpF X28 (pc' := 74) d5_64 d5_65 (by decide) n_dv n_b1 (fun q => absurd (show Own.dz b1 ≤ Own.dz dv from q) (show ¬ (Own.dz b1 ≤ Own.dz dv) from by omega)) (fun _ => ?_)
  refine Own.aloadN X28 d5_68 rfl rfl ?_
  refine Own.iload X28 d5_69 rfl ?_
  refine Own.putF_ X28 d5_71 (host := "") (Or.inl (Own.wd hw 48 rfl)) Via.refl G19_6 F20 (Or.inl (Own.wd hw 49 rfl)) (Own.wd hw 11 rfl) (ty := .int) (by decide) rfl rfl fq0 fun T29 h29 X29 W29 => ?_
  have F30 := F20.wr W29
  have F31 := F21.other W29 (Ne.symm nq0)
  have F32 := F22.other W29 nq21
  have F33 := F23.wr W29 (Or.inl (List.mem_of_getElem? (i := 0) rfl))
  have F34 := G19_0.other W29 (Or.inr (slot_ne (Or.inr (Own.wd hw 22 rfl)) (Or.inl (Own.wd hw 49 rfl)) (by decide) (t := (.array (.array .int))) (t' := .int) (by decide) (by decide)))
  have F35 := G19_1.other W29 (Or.inr (slot_ne (Or.inr (Own.wd hw 25 rfl)) (Or.inl (Own.wd hw 49 rfl)) (by decide) (t := (.array .double)) (t' := .int) (by decide) (by decide)))
  have F36 := G19_2.other W29 (Or.inr (slot_ne (Or.inr (Own.wd hw 28 rfl)) (Or.inl (Own.wd hw 49 rfl)) (by decide) (t := (.array .long)) (t' := .int) (by decide) (by decide)))
  have F37 := G19_3.other W29 (Or.inr (slot_ne (Or.inl (Own.wd hw 35 rfl)) (Or.inl (Own.wd hw 49 rfl)) (by decide) (t := .int) (t' := .int) (by decide) (by decide)))
  have F38 := G19_4.other W29 (Or.inr (slot_ne (Or.inl (Own.wd hw 45 rfl)) (Or.inl (Own.wd hw 49 rfl)) (by decide) (t := .long) (t' := .int) (by decide) (by decide)))
  have F39 := G19_5.other W29 (Or.inr (slot_ne (Or.inl (Own.wd hw 47 rfl)) (Or.inl (Own.wd hw 49 rfl)) (by decide) (t := .int) (t' := .int) (by decide) (by decide)))
  have F40 := G19_7.other W29 (Ne.symm nq5)
  have F41 := G19_8.other W29 (Ne.symm nq1)
  have F42 := G19_9.other W29 (Ne.symm nq2)
  have F43 : Fld Z h29 a "com/example/allocus/allocus/method/Population" "best" "I" (.int (2 : Int32)) := Fld.same W29 G19_6
  have Z44 : n0 ≤ h29.size := by rw [W29.size]; exact Z24
  clear F20 F21 F22 F23 G19_0 G19_1 G19_2 G19_3 G19_4 G19_5 G19_6 G19_7 G19_8 G19_9 X28
  exact Own.retV X29 d5_74 ⟨rfl, F33, F34, F35, F36, F37, F38, F39, F43, F40, F41, F42⟩ (by decide) (by decide)
theorem ef_5_20101 (m : MethodId) (x0 : Addr) (x1 : Addr) (x2 : UInt64) : entryFrame m #[.ref x0, .ref x1, .double x2] 5 = mkF m 0 #[.val (.ref x0), .val (.ref x1), .val (.double x2), .second, .unset] [] := by first | (simp [entryFrame, mkF, argsToLocals, Value.category, maxLocals]; done) | rfl
set_option maxRecDepth 65536 in
set_option maxHeartbeats 40000000 in
theorem rm5_20101 (l : Launch) (Z : State) (a0 : Array Value) (hw : ∀ d ∈ tables_1, d.before a0 Z = true) (a : Addr) (si : Addr) (dv : UInt64) (pl : Addr) (oa : Addr) (na : Addr) (x0 : Addr) (x1 : Addr) (x2 : Addr) (k_pl : ClassId) (c_pl : ClassId) (k_oa : ClassId) (k_na : ClassId) (b0 : UInt64) (b1 : UInt64) (b2 : UInt64) (m0 : Int64) (m1 : Int64) (m2 : Int64) (eJ : Int64) (k_si : ClassId) (y0 : Int32) (y1 : Int32) (u20 : Int32) (u21 : Int32) (h0 : Heap) (n0 : Nat) (Z0 : n0 ≤ h0.size) (fc0 : Exa Z h0 a "com/example/allocus/allocus/method/Population") (fc1 : Fld Z h0 a "com/example/allocus/allocus/method/Population" "plans" "[[I" (.ref pl)) (fc2 : Fld Z h0 a "com/example/allocus/allocus/method/Population" "objectives" "[D" (.ref oa)) (fc3 : Fld Z h0 a "com/example/allocus/allocus/method/Population" "entered" "[J" (.ref na)) (fc4 : Fld Z h0 a "com/example/allocus/allocus/method/Population" "count" "I" (.int (2 : Int32))) (fc5 : Fld Z h0 a "com/example/allocus/allocus/method/Population" "entries" "J" (.long eJ)) (fc6 : Fld Z h0 a "com/example/allocus/allocus/method/Population" "worst" "I" (.int (0 : Int32))) (fc7 : Fld Z h0 a "com/example/allocus/allocus/method/Population" "best" "I" (.int (1 : Int32))) (fc8 : Arv Z h0 pl k_pl (.array .int) (3 : Int32) [.ref x0, .ref x1, .ref x2] (.null)) (fc9 : Arv Z h0 x2 c_pl .int (2 : Int32) [.int u20, .int u21] (.int (0 : Int32))) (fc10 : Arv Z h0 oa k_oa .double (3 : Int32) [.double b0, .double b1, .double b2] (.double 0)) (fc11 : Arv Z h0 na k_na .long (3 : Int32) [.long m0, .long m1, .long m2] (.long (0 : Int64))) (fc12 : Arv Z h0 si k_si .int (2 : Int32) [.int y0, .int y1] (.int (0 : Int32))) (nq0 : a ≠ pl) (nq1 : a ≠ oa) (nq2 : a ≠ na) (nq3 : a ≠ x0) (nq4 : a ≠ x1) (nq5 : a ≠ x2) (nq6 : pl ≠ oa) (nq7 : pl ≠ na) (nq8 : pl ≠ x0) (nq9 : pl ≠ x1) (nq10 : pl ≠ x2) (nq11 : oa ≠ na) (nq12 : oa ≠ x0) (nq13 : oa ≠ x1) (nq14 : oa ≠ x2) (nq15 : na ≠ x0) (nq16 : na ≠ x1) (nq17 : na ≠ x2) (nq18 : x0 ≠ x1) (nq19 : x0 ≠ x2) (nq20 : x1 ≠ x2) (nq21 : si ≠ a) (nq22 : si ≠ pl) (nq23 : si ≠ oa) (nq24 : si ≠ na) (nq25 : si ≠ x0) (nq26 : si ≠ x1) (nq27 : si ≠ x2) (fq0 : n0 ≤ a) (fq1 : n0 ≤ x0) (fq2 : n0 ≤ x1) (fq3 : n0 ≤ x2) (fq4 : n0 ≤ oa) (fq5 : n0 ≤ na) (n_dv : NoNaN64 dv) (n_b0 : NoNaN64 b0) (n_b1 : NoNaN64 b1) (c1 : Own.dz dv ≤ Own.dz b0) (c2 : Own.dz b1 ≤ Own.dz dv) :
    Own.Con l Z mn_4 [] prog_48_method_5_code 5 none ({ frames := 2, cells := 0, slots := 0, locals := 48 } : Room) #[.ref a, .ref si, .double dv] h0 n0 (fun v h => v = none ∧ Keep h0 h [a, x2, oa, na] ∧ Fld Z h a "com/example/allocus/allocus/method/Population" "plans" "[[I" (.ref pl) ∧ Fld Z h a "com/example/allocus/allocus/method/Population" "objectives" "[D" (.ref oa) ∧ Fld Z h a "com/example/allocus/allocus/method/Population" "entered" "[J" (.ref na) ∧ Fld Z h a "com/example/allocus/allocus/method/Population" "count" "I" (.int (3 : Int32)) ∧ Fld Z h a "com/example/allocus/allocus/method/Population" "entries" "J" (.long (eJ + (1 : Int64))) ∧ Fld Z h a "com/example/allocus/allocus/method/Population" "worst" "I" (.int (0 : Int32)) ∧ Fld Z h a "com/example/allocus/allocus/method/Population" "best" "I" (.int (1 : Int32)) ∧ Arv Z h x2 c_pl .int (2 : Int32) [.int y0, .int y1] (.int (0 : Int32)) ∧ Arv Z h oa k_oa .double (3 : Int32) [.double b0, .double b1, .double dv] (.double 0) ∧ Arv Z h na k_na .long (3 : Int32) [.long m0, .long m1, .long eJ] (.long (0 : Int64))) := by
  refine Own.enter (own := "com/example/allocus/allocus/method/Population") (nm := "add") (plainFor_of_name pn_com_example_allocus_allocus_method_Population) rfl rfl (fun m => ef_5_20101 m a si dv) fun p e s m below meth c T X => ?_
  refine Own.aloadN X d5_0 rfl rfl ?_
  refine Own.getF_ X d5_1 (host := "") (Or.inl (Own.wd hw 34 rfl)) Via.refl fc4 fun T1 X1 => ?_
  clear X
  refine Own.istore X1 d5_4 (l' := #[.val (.ref a), .val (.ref si), .val (.double dv), .second, .val (.int (2 : Int32))]) rfl ?_
  refine Own.aloadN X1 d5_6 rfl rfl ?_
  refine Own.dup X1 d5_7 rfl ?_
  refine Own.getF_ X1 d5_8 (host := "") (Or.inl (Own.wd hw 34 rfl)) Via.refl fc4 fun T2 X2 => ?_
  clear X1
  refine Own.iconst X2 (v := 1) d5_11 rfl ?_
  refine Own.iadd X2 d5_12 ?_
  show Own.Go p e below s n0 _ _ _ (T2.setTop (mkF m 13 _ [.int (3 : Int32), .ref a]))
  refine Own.putF_ X2 d5_13 (host := "") (Or.inl (Own.wd hw 34 rfl)) Via.refl fc4 fc0 (Or.inl (Own.wd hw 35 rfl)) (Own.wd hw 11 rfl) (ty := .int) (by decide) rfl rfl fq0 fun T3 h3 X3 W3 => ?_
  have F4 := fc0.wr W3
  have F5 := fc1.other W3 (Or.inr (slot_ne (Or.inr (Own.wd hw 22 rfl)) (Or.inl (Own.wd hw 35 rfl)) (by decide) (t := (.array (.array .int))) (t' := .int) (by decide) (by decide)))
  have F6 := fc2.other W3 (Or.inr (slot_ne (Or.inr (Own.wd hw 25 rfl)) (Or.inl (Own.wd hw 35 rfl)) (by decide) (t := (.array .double)) (t' := .int) (by decide) (by decide)))
  have F7 := fc3.other W3 (Or.inr (slot_ne (Or.inr (Own.wd hw 28 rfl)) (Or.inl (Own.wd hw 35 rfl)) (by decide) (t := (.array .long)) (t' := .int) (by decide) (by decide)))
  have F8 := fc5.other W3 (Or.inr (slot_ne (Or.inl (Own.wd hw 45 rfl)) (Or.inl (Own.wd hw 35 rfl)) (by decide) (t := .long) (t' := .int) (by decide) (by decide)))
  have F9 := fc6.other W3 (Or.inr (slot_ne (Or.inl (Own.wd hw 47 rfl)) (Or.inl (Own.wd hw 35 rfl)) (by decide) (t := .int) (t' := .int) (by decide) (by decide)))
  have F10 := fc7.other W3 (Or.inr (slot_ne (Or.inl (Own.wd hw 49 rfl)) (Or.inl (Own.wd hw 35 rfl)) (by decide) (t := .int) (t' := .int) (by decide) (by decide)))
  have F11 := fc8.other W3 (Ne.symm nq0)
  have F12 := fc9.other W3 (Ne.symm nq5)
  have F13 := fc10.other W3 (Ne.symm nq1)
  have F14 := fc11.other W3 (Ne.symm nq2)
  have F15 := fc12.other W3 nq21
  have F16 := (Keep.refl h0 [a, x2, oa, na]).wr W3 (Or.inl (List.mem_of_getElem? (i := 0) rfl))
  have F17 : Fld Z h3 a "com/example/allocus/allocus/method/Population" "count" "I" (.int (3 : Int32)) := Fld.same W3 fc4
  have Z18 : n0 ≤ h3.size := by rw [W3.size]; exact Z0
  clear X2 fc0 fc1 fc10 fc11 fc12 fc2 fc3 fc4 fc5 fc6 fc7 fc8 fc9
  refine Own.aloadN X3 d5_16 rfl rfl ?_
  refine Own.iload X3 d5_17 rfl ?_
  refine Own.aloadN X3 d5_19 rfl rfl ?_
  refine Own.dloadN X3 d5_20 rfl ?_
  refine Own.callP_ (y := mn_2) (D := "com/example/allocus/allocus/method/Population") (z' := mn_4) (z := mn_4) (a := a) X3 d5_21 (Own.wd hw 36 rfl) (Own.wd hw 37 rfl) (Own.wd hw 32 rfl) rfl (Own.wd hw 38 rfl) (Own.wd hw 12 rfl) (Own.wd hw 39 rfl) (by decide) F4 (rm6_2 l Z a0 hw a si dv pl oa na x0 x1 x2 k_pl c_pl k_oa k_na b0 b1 b2 m0 m1 m2 eJ k_si y0 y1 u20 u21 (3 : Int32) (0 : Int32) (1 : Int32) h3 n0 Z18 F4 F5 F6 F7 F17 F8 F9 F10 F11 F12 F13 F14 F15 nq0 nq1 nq2 nq3 nq4 nq5 nq6 nq7 nq8 nq9 nq10 nq11 nq12 nq13 nq14 nq15 nq16 nq17 nq18 nq19 nq20 nq21 nq22 nq23 nq24 nq25 nq26 nq27 fq0 fq1 fq2 fq3 fq4 fq5 ) (lenOf pd_3 rfl) rfl (argsL := [.int (2 : Int32), .ref si, .double dv]) (rest := []) rfl (W := 0) (Nat.le_of_eq rfl) (by decide) (by decide) (by decide) (by decide) fun T19 h19 v19 X19 q19 => ?_
  obtain ⟨rfl, K19, G19_0, G19_1, G19_2, G19_3, G19_4, G19_5, G19_6, G19_7, G19_8, G19_9⟩ := q19
  have F20 := F4.keep K19
  have F21 := F11.keep K19 (ninS (Ne.symm nq0) (ninS nq10 (ninS nq6 (ninS nq7 nin0))))
  have F22 := F15.keep K19 (ninS nq21 (ninS nq27 (ninS nq23 (ninS nq24 nin0))))
  have F23 := F16.trans K19 (allS (Or.inl (List.mem_of_getElem? (i := 0) rfl)) (allS (Or.inl (List.mem_of_getElem? (i := 1) rfl)) (allS (Or.inl (List.mem_of_getElem? (i := 2) rfl)) (allS (Or.inl (List.mem_of_getElem? (i := 3) rfl)) all0))))
  have Z24 : n0 ≤ h19.size := Nat.le_trans Z18 K19.1
  show Own.Go p e below s n0 _ _ _ (T19.setTop (mkF m 24 _ []))
  clear F10 F11 F12 F13 F14 F15 F16 F17 F4 F5 F6 F7 F8 F9 X3
  refine Own.iload X19 d5_24 rfl ?_
  refine Own.iff_ X19 (pc' := 43) d5_26 (by decide) (fun q => absurd (show (2 : Int) = (0 : Int) from q) (show ¬ ((2 : Int) = (0 : Int)) from by decide)) (fun _ => ?_)
  refine Own.dloadN X19 d5_29 rfl ?_
  refine Own.aloadN X19 d5_30 rfl rfl ?_
  refine Own.getF_ X19 d5_31 (host := "") (Or.inl (Own.wd hw 24 rfl)) Via.refl G19_1 fun T25 X25 => ?_
  clear X19
  refine Own.aloadN X25 d5_34 rfl rfl ?_
  refine Own.getF_ X25 d5_35 (host := "") (Or.inl (Own.wd hw 46 rfl)) Via.refl G19_5 fun T26 X26 => ?_
  clear X25
  refine Own.daload_ X26 d5_38 G19_8 (by decide) rfl ?_
  refine Own.dcmpF X26 (pc' := 49) d5_39 d5_40 (by decide) n_dv n_b0 (fun _ => ?_) (fun q => absurd (show Own.dz dv ≤ Own.dz b0 from by omega) q)
  refine Own.iload X26 d5_49 rfl ?_
  refine Own.iff_ X26 (pc' := 68) d5_51 (by decide) (fun q => absurd (show (2 : Int) = (0 : Int) from q) (show ¬ ((2 : Int) = (0 : Int)) from by decide)) (fun _ => ?_)
  refine Own.dloadN X26 d5_54 rfl ?_
  refine Own.aloadN X26 d5_55 rfl rfl ?_
  refine Own.getF_ X26 d5_56 (host := "") (Or.inl (Own.wd hw 24 rfl)) Via.refl G19_1 fun T27 X27 => ?_
  clear X26
  refine Own.aloadN X27 d5_59 rfl rfl ?_
  refine Own.getF_ X27 d5_60 (host := "") (Or.inl (Own.wd hw 48 rfl)) Via.refl G19_6 fun T28 X28 => ?_
  clear X27
  refine Own.daload_ X28 d5_63 G19_8 (by decide) rfl ?_
  refine Own.dcmpF X28 (pc' := 74) d5_64 d5_65 (by decide) n_dv n_b1 (fun _ => ?_) (fun q => absurd (show Own.dz b1 ≤ Own.dz dv from by omega) q)
  exact Own.retV X28 d5_74 ⟨rfl, F23, G19_0, G19_1, G19_2, G19_3, G19_4, G19_5, G19_6, G19_7, G19_8, G19_9⟩ (by decide) (by decide)
theorem ef_5_10000 (m : MethodId) (x0 : Addr) (x1 : Addr) (x2 : UInt64) : entryFrame m #[.ref x0, .ref x1, .double x2] 5 = mkF m 0 #[.val (.ref x0), .val (.ref x1), .val (.double x2), .second, .unset] [] := by first | (simp [entryFrame, mkF, argsToLocals, Value.category, maxLocals]; done) | rfl
set_option maxRecDepth 65536 in
set_option maxHeartbeats 40000000 in
theorem rm5_10000 (l : Launch) (Z : State) (a0 : Array Value) (hw : ∀ d ∈ tables_1, d.before a0 Z = true) (a : Addr) (si : Addr) (dv : UInt64) (pl : Addr) (oa : Addr) (na : Addr) (x0 : Addr) (x1 : Addr) (x2 : Addr) (k_pl : ClassId) (c_pl : ClassId) (k_oa : ClassId) (k_na : ClassId) (b0 : UInt64) (b1 : UInt64) (b2 : UInt64) (m0 : Int64) (m1 : Int64) (m2 : Int64) (eJ : Int64) (k_si : ClassId) (y0 : Int32) (y1 : Int32) (u10 : Int32) (u11 : Int32) (h0 : Heap) (n0 : Nat) (Z0 : n0 ≤ h0.size) (fc0 : Exa Z h0 a "com/example/allocus/allocus/method/Population") (fc1 : Fld Z h0 a "com/example/allocus/allocus/method/Population" "plans" "[[I" (.ref pl)) (fc2 : Fld Z h0 a "com/example/allocus/allocus/method/Population" "objectives" "[D" (.ref oa)) (fc3 : Fld Z h0 a "com/example/allocus/allocus/method/Population" "entered" "[J" (.ref na)) (fc4 : Fld Z h0 a "com/example/allocus/allocus/method/Population" "count" "I" (.int (1 : Int32))) (fc5 : Fld Z h0 a "com/example/allocus/allocus/method/Population" "entries" "J" (.long eJ)) (fc6 : Fld Z h0 a "com/example/allocus/allocus/method/Population" "worst" "I" (.int (0 : Int32))) (fc7 : Fld Z h0 a "com/example/allocus/allocus/method/Population" "best" "I" (.int (0 : Int32))) (fc8 : Arv Z h0 pl k_pl (.array .int) (3 : Int32) [.ref x0, .ref x1, .ref x2] (.null)) (fc9 : Arv Z h0 x1 c_pl .int (2 : Int32) [.int u10, .int u11] (.int (0 : Int32))) (fc10 : Arv Z h0 oa k_oa .double (3 : Int32) [.double b0, .double b1, .double b2] (.double 0)) (fc11 : Arv Z h0 na k_na .long (3 : Int32) [.long m0, .long m1, .long m2] (.long (0 : Int64))) (fc12 : Arv Z h0 si k_si .int (2 : Int32) [.int y0, .int y1] (.int (0 : Int32))) (nq0 : a ≠ pl) (nq1 : a ≠ oa) (nq2 : a ≠ na) (nq3 : a ≠ x0) (nq4 : a ≠ x1) (nq5 : a ≠ x2) (nq6 : pl ≠ oa) (nq7 : pl ≠ na) (nq8 : pl ≠ x0) (nq9 : pl ≠ x1) (nq10 : pl ≠ x2) (nq11 : oa ≠ na) (nq12 : oa ≠ x0) (nq13 : oa ≠ x1) (nq14 : oa ≠ x2) (nq15 : na ≠ x0) (nq16 : na ≠ x1) (nq17 : na ≠ x2) (nq18 : x0 ≠ x1) (nq19 : x0 ≠ x2) (nq20 : x1 ≠ x2) (nq21 : si ≠ a) (nq22 : si ≠ pl) (nq23 : si ≠ oa) (nq24 : si ≠ na) (nq25 : si ≠ x0) (nq26 : si ≠ x1) (nq27 : si ≠ x2) (fq0 : n0 ≤ a) (fq1 : n0 ≤ x0) (fq2 : n0 ≤ x1) (fq3 : n0 ≤ x2) (fq4 : n0 ≤ oa) (fq5 : n0 ≤ na) (n_dv : NoNaN64 dv) (n_b0 : NoNaN64 b0) (c1 : Own.dz dv ≤ Own.dz b0) (c2 : Own.dz b0 ≤ Own.dz dv) :
    Own.Con l Z mn_4 [] prog_48_method_5_code 5 none ({ frames := 2, cells := 0, slots := 0, locals := 48 } : Room) #[.ref a, .ref si, .double dv] h0 n0 (fun v h => v = none ∧ Keep h0 h [a, x1, oa, na] ∧ Fld Z h a "com/example/allocus/allocus/method/Population" "plans" "[[I" (.ref pl) ∧ Fld Z h a "com/example/allocus/allocus/method/Population" "objectives" "[D" (.ref oa) ∧ Fld Z h a "com/example/allocus/allocus/method/Population" "entered" "[J" (.ref na) ∧ Fld Z h a "com/example/allocus/allocus/method/Population" "count" "I" (.int (2 : Int32)) ∧ Fld Z h a "com/example/allocus/allocus/method/Population" "entries" "J" (.long (eJ + (1 : Int64))) ∧ Fld Z h a "com/example/allocus/allocus/method/Population" "worst" "I" (.int (0 : Int32)) ∧ Fld Z h a "com/example/allocus/allocus/method/Population" "best" "I" (.int (0 : Int32)) ∧ Arv Z h x1 c_pl .int (2 : Int32) [.int y0, .int y1] (.int (0 : Int32)) ∧ Arv Z h oa k_oa .double (3 : Int32) [.double b0, .double dv, .double b2] (.double 0) ∧ Arv Z h na k_na .long (3 : Int32) [.long m0, .long eJ, .long m2] (.long (0 : Int64))) := by
  refine Own.enter (own := "com/example/allocus/allocus/method/Population") (nm := "add") (plainFor_of_name pn_com_example_allocus_allocus_method_Population) rfl rfl (fun m => ef_5_10000 m a si dv) fun p e s m below meth c T X => ?_
  refine Own.aloadN X d5_0 rfl rfl ?_
  refine Own.getF_ X d5_1 (host := "") (Or.inl (Own.wd hw 34 rfl)) Via.refl fc4 fun T1 X1 => ?_
  clear X
  refine Own.istore X1 d5_4 (l' := #[.val (.ref a), .val (.ref si), .val (.double dv), .second, .val (.int (1 : Int32))]) rfl ?_
  refine Own.aloadN X1 d5_6 rfl rfl ?_
  refine Own.dup X1 d5_7 rfl ?_
  refine Own.getF_ X1 d5_8 (host := "") (Or.inl (Own.wd hw 34 rfl)) Via.refl fc4 fun T2 X2 => ?_
  clear X1
  refine Own.iconst X2 (v := 1) d5_11 rfl ?_
  refine Own.iadd X2 d5_12 ?_
  show Own.Go p e below s n0 _ _ _ (T2.setTop (mkF m 13 _ [.int (2 : Int32), .ref a]))
  refine Own.putF_ X2 d5_13 (host := "") (Or.inl (Own.wd hw 34 rfl)) Via.refl fc4 fc0 (Or.inl (Own.wd hw 35 rfl)) (Own.wd hw 11 rfl) (ty := .int) (by decide) rfl rfl fq0 fun T3 h3 X3 W3 => ?_
  have F4 := fc0.wr W3
  have F5 := fc1.other W3 (Or.inr (slot_ne (Or.inr (Own.wd hw 22 rfl)) (Or.inl (Own.wd hw 35 rfl)) (by decide) (t := (.array (.array .int))) (t' := .int) (by decide) (by decide)))
  have F6 := fc2.other W3 (Or.inr (slot_ne (Or.inr (Own.wd hw 25 rfl)) (Or.inl (Own.wd hw 35 rfl)) (by decide) (t := (.array .double)) (t' := .int) (by decide) (by decide)))
  have F7 := fc3.other W3 (Or.inr (slot_ne (Or.inr (Own.wd hw 28 rfl)) (Or.inl (Own.wd hw 35 rfl)) (by decide) (t := (.array .long)) (t' := .int) (by decide) (by decide)))
  have F8 := fc5.other W3 (Or.inr (slot_ne (Or.inl (Own.wd hw 45 rfl)) (Or.inl (Own.wd hw 35 rfl)) (by decide) (t := .long) (t' := .int) (by decide) (by decide)))
  have F9 := fc6.other W3 (Or.inr (slot_ne (Or.inl (Own.wd hw 47 rfl)) (Or.inl (Own.wd hw 35 rfl)) (by decide) (t := .int) (t' := .int) (by decide) (by decide)))
  have F10 := fc7.other W3 (Or.inr (slot_ne (Or.inl (Own.wd hw 49 rfl)) (Or.inl (Own.wd hw 35 rfl)) (by decide) (t := .int) (t' := .int) (by decide) (by decide)))
  have F11 := fc8.other W3 (Ne.symm nq0)
  have F12 := fc9.other W3 (Ne.symm nq4)
  have F13 := fc10.other W3 (Ne.symm nq1)
  have F14 := fc11.other W3 (Ne.symm nq2)
  have F15 := fc12.other W3 nq21
  have F16 := (Keep.refl h0 [a, x1, oa, na]).wr W3 (Or.inl (List.mem_of_getElem? (i := 0) rfl))
  have F17 : Fld Z h3 a "com/example/allocus/allocus/method/Population" "count" "I" (.int (2 : Int32)) := Fld.same W3 fc4
  have Z18 : n0 ≤ h3.size := by rw [W3.size]; exact Z0
  clear X2 fc0 fc1 fc10 fc11 fc12 fc2 fc3 fc4 fc5 fc6 fc7 fc8 fc9
  refine Own.aloadN X3 d5_16 rfl rfl ?_
  refine Own.iload X3 d5_17 rfl ?_
  refine Own.aloadN X3 d5_19 rfl rfl ?_
  refine Own.dloadN X3 d5_20 rfl ?_
  refine Own.callP_ (y := mn_2) (D := "com/example/allocus/allocus/method/Population") (z' := mn_4) (z := mn_4) (a := a) X3 d5_21 (Own.wd hw 36 rfl) (Own.wd hw 37 rfl) (Own.wd hw 32 rfl) rfl (Own.wd hw 38 rfl) (Own.wd hw 12 rfl) (Own.wd hw 39 rfl) (by decide) F4 (rm6_1 l Z a0 hw a si dv pl oa na x0 x1 x2 k_pl c_pl k_oa k_na b0 b1 b2 m0 m1 m2 eJ k_si y0 y1 u10 u11 (2 : Int32) (0 : Int32) (0 : Int32) h3 n0 Z18 F4 F5 F6 F7 F17 F8 F9 F10 F11 F12 F13 F14 F15 nq0 nq1 nq2 nq3 nq4 nq5 nq6 nq7 nq8 nq9 nq10 nq11 nq12 nq13 nq14 nq15 nq16 nq17 nq18 nq19 nq20 nq21 nq22 nq23 nq24 nq25 nq26 nq27 fq0 fq1 fq2 fq3 fq4 fq5 ) (lenOf pd_3 rfl) rfl (argsL := [.int (1 : Int32), .ref si, .double dv]) (rest := []) rfl (W := 0) (Nat.le_of_eq rfl) (by decide) (by decide) (by decide) (by decide) fun T19 h19 v19 X19 q19 => ?_
  obtain ⟨rfl, K19, G19_0, G19_1, G19_2, G19_3, G19_4, G19_5, G19_6, G19_7, G19_8, G19_9⟩ := q19
  have F20 := F4.keep K19
  have F21 := F11.keep K19 (ninS (Ne.symm nq0) (ninS nq9 (ninS nq6 (ninS nq7 nin0))))
  have F22 := F15.keep K19 (ninS nq21 (ninS nq26 (ninS nq23 (ninS nq24 nin0))))
  have F23 := F16.trans K19 (allS (Or.inl (List.mem_of_getElem? (i := 0) rfl)) (allS (Or.inl (List.mem_of_getElem? (i := 1) rfl)) (allS (Or.inl (List.mem_of_getElem? (i := 2) rfl)) (allS (Or.inl (List.mem_of_getElem? (i := 3) rfl)) all0))))
  have Z24 : n0 ≤ h19.size := Nat.le_trans Z18 K19.1
  show Own.Go p e below s n0 _ _ _ (T19.setTop (mkF m 24 _ []))
  clear F10 F11 F12 F13 F14 F15 F16 F17 F4 F5 F6 F7 F8 F9 X3
  refine Own.iload X19 d5_24 rfl ?_
  refine Own.iff_ X19 (pc' := 43) d5_26 (by decide) (fun q => absurd (show (1 : Int) = (0 : Int) from q) (show ¬ ((1 : Int) = (0 : Int)) from by decide)) (fun _ => ?_)
  refine Own.dloadN X19 d5_29 rfl ?_
  refine Own.aloadN X19 d5_30 rfl rfl ?_
  refine Own.getF_ X19 d5_31 (host := "") (Or.inl (Own.wd hw 24 rfl)) Via.refl G19_1 fun T25 X25 => ?_
  clear X19
  refine Own.aloadN X25 d5_34 rfl rfl ?_
  refine Own.getF_ X25 d5_35 (host := "") (Or.inl (Own.wd hw 46 rfl)) Via.refl G19_5 fun T26 X26 => ?_
  clear X25
  refine Own.daload_ X26 d5_38 G19_8 (by decide) rfl ?_
  refine Own.dcmpF X26 (pc' := 49) d5_39 d5_40 (by decide) n_dv n_b0 (fun _ => ?_) (fun q => absurd (show Own.dz dv ≤ Own.dz b0 from by omega) q)
  refine Own.iload X26 d5_49 rfl ?_
  refine Own.iff_ X26 (pc' := 68) d5_51 (by decide) (fun q => absurd (show (1 : Int) = (0 : Int) from q) (show ¬ ((1 : Int) = (0 : Int)) from by decide)) (fun _ => ?_)
  refine Own.dloadN X26 d5_54 rfl ?_
  refine Own.aloadN X26 d5_55 rfl rfl ?_
  refine Own.getF_ X26 d5_56 (host := "") (Or.inl (Own.wd hw 24 rfl)) Via.refl G19_1 fun T27 X27 => ?_
  clear X26
  refine Own.aloadN X27 d5_59 rfl rfl ?_
  refine Own.getF_ X27 d5_60 (host := "") (Or.inl (Own.wd hw 48 rfl)) Via.refl G19_6 fun T28 X28 => ?_
  clear X27
  refine Own.daload_ X28 d5_63 G19_8 (by decide) rfl ?_
  refine Own.dcmpF X28 (pc' := 74) d5_64 d5_65 (by decide) n_dv n_b0 (fun _ => ?_) (fun q => absurd (show Own.dz b0 ≤ Own.dz dv from by omega) q)
  exact Own.retV X28 d5_74 ⟨rfl, F23, G19_0, G19_1, G19_2, G19_3, G19_4, G19_5, G19_6, G19_7, G19_8, G19_9⟩ (by decide) (by decide)
theorem ef_5_20020 (m : MethodId) (x0 : Addr) (x1 : Addr) (x2 : UInt64) : entryFrame m #[.ref x0, .ref x1, .double x2] 5 = mkF m 0 #[.val (.ref x0), .val (.ref x1), .val (.double x2), .second, .unset] [] := by first | (simp [entryFrame, mkF, argsToLocals, Value.category, maxLocals]; done) | rfl
set_option maxRecDepth 65536 in
set_option maxHeartbeats 40000000 in
theorem rm5_20020 (l : Launch) (Z : State) (a0 : Array Value) (hw : ∀ d ∈ tables_1, d.before a0 Z = true) (a : Addr) (si : Addr) (dv : UInt64) (pl : Addr) (oa : Addr) (na : Addr) (x0 : Addr) (x1 : Addr) (x2 : Addr) (k_pl : ClassId) (c_pl : ClassId) (k_oa : ClassId) (k_na : ClassId) (b0 : UInt64) (b1 : UInt64) (b2 : UInt64) (m0 : Int64) (m1 : Int64) (m2 : Int64) (eJ : Int64) (k_si : ClassId) (y0 : Int32) (y1 : Int32) (u20 : Int32) (u21 : Int32) (h0 : Heap) (n0 : Nat) (Z0 : n0 ≤ h0.size) (fc0 : Exa Z h0 a "com/example/allocus/allocus/method/Population") (fc1 : Fld Z h0 a "com/example/allocus/allocus/method/Population" "plans" "[[I" (.ref pl)) (fc2 : Fld Z h0 a "com/example/allocus/allocus/method/Population" "objectives" "[D" (.ref oa)) (fc3 : Fld Z h0 a "com/example/allocus/allocus/method/Population" "entered" "[J" (.ref na)) (fc4 : Fld Z h0 a "com/example/allocus/allocus/method/Population" "count" "I" (.int (2 : Int32))) (fc5 : Fld Z h0 a "com/example/allocus/allocus/method/Population" "entries" "J" (.long eJ)) (fc6 : Fld Z h0 a "com/example/allocus/allocus/method/Population" "worst" "I" (.int (0 : Int32))) (fc7 : Fld Z h0 a "com/example/allocus/allocus/method/Population" "best" "I" (.int (0 : Int32))) (fc8 : Arv Z h0 pl k_pl (.array .int) (3 : Int32) [.ref x0, .ref x1, .ref x2] (.null)) (fc9 : Arv Z h0 x2 c_pl .int (2 : Int32) [.int u20, .int u21] (.int (0 : Int32))) (fc10 : Arv Z h0 oa k_oa .double (3 : Int32) [.double b0, .double b1, .double b2] (.double 0)) (fc11 : Arv Z h0 na k_na .long (3 : Int32) [.long m0, .long m1, .long m2] (.long (0 : Int64))) (fc12 : Arv Z h0 si k_si .int (2 : Int32) [.int y0, .int y1] (.int (0 : Int32))) (nq0 : a ≠ pl) (nq1 : a ≠ oa) (nq2 : a ≠ na) (nq3 : a ≠ x0) (nq4 : a ≠ x1) (nq5 : a ≠ x2) (nq6 : pl ≠ oa) (nq7 : pl ≠ na) (nq8 : pl ≠ x0) (nq9 : pl ≠ x1) (nq10 : pl ≠ x2) (nq11 : oa ≠ na) (nq12 : oa ≠ x0) (nq13 : oa ≠ x1) (nq14 : oa ≠ x2) (nq15 : na ≠ x0) (nq16 : na ≠ x1) (nq17 : na ≠ x2) (nq18 : x0 ≠ x1) (nq19 : x0 ≠ x2) (nq20 : x1 ≠ x2) (nq21 : si ≠ a) (nq22 : si ≠ pl) (nq23 : si ≠ oa) (nq24 : si ≠ na) (nq25 : si ≠ x0) (nq26 : si ≠ x1) (nq27 : si ≠ x2) (fq0 : n0 ≤ a) (fq1 : n0 ≤ x0) (fq2 : n0 ≤ x1) (fq3 : n0 ≤ x2) (fq4 : n0 ≤ oa) (fq5 : n0 ≤ na) (n_dv : NoNaN64 dv) (n_b0 : NoNaN64 b0) (c1 : Own.dz b0 < Own.dz dv) (c2 : Own.dz b0 ≤ Own.dz dv) :
    Own.Con l Z mn_4 [] prog_48_method_5_code 5 none ({ frames := 2, cells := 0, slots := 0, locals := 48 } : Room) #[.ref a, .ref si, .double dv] h0 n0 (fun v h => v = none ∧ Keep h0 h [a, x2, oa, na] ∧ Fld Z h a "com/example/allocus/allocus/method/Population" "plans" "[[I" (.ref pl) ∧ Fld Z h a "com/example/allocus/allocus/method/Population" "objectives" "[D" (.ref oa) ∧ Fld Z h a "com/example/allocus/allocus/method/Population" "entered" "[J" (.ref na) ∧ Fld Z h a "com/example/allocus/allocus/method/Population" "count" "I" (.int (3 : Int32)) ∧ Fld Z h a "com/example/allocus/allocus/method/Population" "entries" "J" (.long (eJ + (1 : Int64))) ∧ Fld Z h a "com/example/allocus/allocus/method/Population" "worst" "I" (.int (2 : Int32)) ∧ Fld Z h a "com/example/allocus/allocus/method/Population" "best" "I" (.int (0 : Int32)) ∧ Arv Z h x2 c_pl .int (2 : Int32) [.int y0, .int y1] (.int (0 : Int32)) ∧ Arv Z h oa k_oa .double (3 : Int32) [.double b0, .double b1, .double dv] (.double 0) ∧ Arv Z h na k_na .long (3 : Int32) [.long m0, .long m1, .long eJ] (.long (0 : Int64))) := by
  refine Own.enter (own := "com/example/allocus/allocus/method/Population") (nm := "add") (plainFor_of_name pn_com_example_allocus_allocus_method_Population) rfl rfl (fun m => ef_5_20020 m a si dv) fun p e s m below meth c T X => ?_
  refine Own.aloadN X d5_0 rfl rfl ?_
  refine Own.getF_ X d5_1 (host := "") (Or.inl (Own.wd hw 34 rfl)) Via.refl fc4 fun T1 X1 => ?_
  clear X
  refine Own.istore X1 d5_4 (l' := #[.val (.ref a), .val (.ref si), .val (.double dv), .second, .val (.int (2 : Int32))]) rfl ?_
  refine Own.aloadN X1 d5_6 rfl rfl ?_
  refine Own.dup X1 d5_7 rfl ?_
  refine Own.getF_ X1 d5_8 (host := "") (Or.inl (Own.wd hw 34 rfl)) Via.refl fc4 fun T2 X2 => ?_
  clear X1
  refine Own.iconst X2 (v := 1) d5_11 rfl ?_
  refine Own.iadd X2 d5_12 ?_
  show Own.Go p e below s n0 _ _ _ (T2.setTop (mkF m 13 _ [.int (3 : Int32), .ref a]))
  refine Own.putF_ X2 d5_13 (host := "") (Or.inl (Own.wd hw 34 rfl)) Via.refl fc4 fc0 (Or.inl (Own.wd hw 35 rfl)) (Own.wd hw 11 rfl) (ty := .int) (by decide) rfl rfl fq0 fun T3 h3 X3 W3 => ?_
  have F4 := fc0.wr W3
  have F5 := fc1.other W3 (Or.inr (slot_ne (Or.inr (Own.wd hw 22 rfl)) (Or.inl (Own.wd hw 35 rfl)) (by decide) (t := (.array (.array .int))) (t' := .int) (by decide) (by decide)))
  have F6 := fc2.other W3 (Or.inr (slot_ne (Or.inr (Own.wd hw 25 rfl)) (Or.inl (Own.wd hw 35 rfl)) (by decide) (t := (.array .double)) (t' := .int) (by decide) (by decide)))
  have F7 := fc3.other W3 (Or.inr (slot_ne (Or.inr (Own.wd hw 28 rfl)) (Or.inl (Own.wd hw 35 rfl)) (by decide) (t := (.array .long)) (t' := .int) (by decide) (by decide)))
  have F8 := fc5.other W3 (Or.inr (slot_ne (Or.inl (Own.wd hw 45 rfl)) (Or.inl (Own.wd hw 35 rfl)) (by decide) (t := .long) (t' := .int) (by decide) (by decide)))
  have F9 := fc6.other W3 (Or.inr (slot_ne (Or.inl (Own.wd hw 47 rfl)) (Or.inl (Own.wd hw 35 rfl)) (by decide) (t := .int) (t' := .int) (by decide) (by decide)))
  have F10 := fc7.other W3 (Or.inr (slot_ne (Or.inl (Own.wd hw 49 rfl)) (Or.inl (Own.wd hw 35 rfl)) (by decide) (t := .int) (t' := .int) (by decide) (by decide)))
  have F11 := fc8.other W3 (Ne.symm nq0)
  have F12 := fc9.other W3 (Ne.symm nq5)
  have F13 := fc10.other W3 (Ne.symm nq1)
  have F14 := fc11.other W3 (Ne.symm nq2)
  have F15 := fc12.other W3 nq21
  have F16 := (Keep.refl h0 [a, x2, oa, na]).wr W3 (Or.inl (List.mem_of_getElem? (i := 0) rfl))
  have F17 : Fld Z h3 a "com/example/allocus/allocus/method/Population" "count" "I" (.int (3 : Int32)) := Fld.same W3 fc4
  have Z18 : n0 ≤ h3.size := by rw [W3.size]; exact Z0
  clear X2 fc0 fc1 fc10 fc11 fc12 fc2 fc3 fc4 fc5 fc6 fc7 fc8 fc9
  refine Own.aloadN X3 d5_16 rfl rfl ?_
  refine Own.iload X3 d5_17 rfl ?_
  refine Own.aloadN X3 d5_19 rfl rfl ?_
  refine Own.dloadN X3 d5_20 rfl ?_
  refine Own.callP_ (y := mn_2) (D := "com/example/allocus/allocus/method/Population") (z' := mn_4) (z := mn_4) (a := a) X3 d5_21 (Own.wd hw 36 rfl) (Own.wd hw 37 rfl) (Own.wd hw 32 rfl) rfl (Own.wd hw 38 rfl) (Own.wd hw 12 rfl) (Own.wd hw 39 rfl) (by decide) F4 (rm6_2 l Z a0 hw a si dv pl oa na x0 x1 x2 k_pl c_pl k_oa k_na b0 b1 b2 m0 m1 m2 eJ k_si y0 y1 u20 u21 (3 : Int32) (0 : Int32) (0 : Int32) h3 n0 Z18 F4 F5 F6 F7 F17 F8 F9 F10 F11 F12 F13 F14 F15 nq0 nq1 nq2 nq3 nq4 nq5 nq6 nq7 nq8 nq9 nq10 nq11 nq12 nq13 nq14 nq15 nq16 nq17 nq18 nq19 nq20 nq21 nq22 nq23 nq24 nq25 nq26 nq27 fq0 fq1 fq2 fq3 fq4 fq5 ) (lenOf pd_3 rfl) rfl (argsL := [.int (2 : Int32), .ref si, .double dv]) (rest := []) rfl (W := 0) (Nat.le_of_eq rfl) (by decide) (by decide) (by decide) (by decide) fun T19 h19 v19 X19 q19 => ?_
  obtain ⟨rfl, K19, G19_0, G19_1, G19_2, G19_3, G19_4, G19_5, G19_6, G19_7, G19_8, G19_9⟩ := q19
  have F20 := F4.keep K19
  have F21 := F11.keep K19 (ninS (Ne.symm nq0) (ninS nq10 (ninS nq6 (ninS nq7 nin0))))
  have F22 := F15.keep K19 (ninS nq21 (ninS nq27 (ninS nq23 (ninS nq24 nin0))))
  have F23 := F16.trans K19 (allS (Or.inl (List.mem_of_getElem? (i := 0) rfl)) (allS (Or.inl (List.mem_of_getElem? (i := 1) rfl)) (allS (Or.inl (List.mem_of_getElem? (i := 2) rfl)) (allS (Or.inl (List.mem_of_getElem? (i := 3) rfl)) all0))))
  have Z24 : n0 ≤ h19.size := Nat.le_trans Z18 K19.1
  show Own.Go p e below s n0 _ _ _ (T19.setTop (mkF m 24 _ []))
  clear F10 F11 F12 F13 F14 F15 F16 F17 F4 F5 F6 F7 F8 F9 X3
  refine Own.iload X19 d5_24 rfl ?_
  refine Own.iff_ X19 (pc' := 43) d5_26 (by decide) (fun q => absurd (show (2 : Int) = (0 : Int) from q) (show ¬ ((2 : Int) = (0 : Int)) from by decide)) (fun _ => ?_)
  refine Own.dloadN X19 d5_29 rfl ?_
  refine Own.aloadN X19 d5_30 rfl rfl ?_
  refine Own.getF_ X19 d5_31 (host := "") (Or.inl (Own.wd hw 24 rfl)) Via.refl G19_1 fun T25 X25 => ?_
  clear X19
  refine Own.aloadN X25 d5_34 rfl rfl ?_
  refine Own.getF_ X25 d5_35 (host := "") (Or.inl (Own.wd hw 46 rfl)) Via.refl G19_5 fun T26 X26 => ?_
  clear X25
  refine Own.daload_ X26 d5_38 G19_8 (by decide) rfl ?_
  refine Own.dcmpF X26 (pc' := 49) d5_39 d5_40 (by decide) n_dv n_b0 (fun q => absurd (show Own.dz dv ≤ Own.dz b0 from q) (show ¬ (Own.dz dv ≤ Own.dz b0) from by omega)) (fun _ => ?_)
  refine Own.aloadN X26 d5_43 rfl rfl ?_
  refine Own.iload X26 d5_44 rfl ?_
  refine Own.putF_ X26 d5_46 (host := "") (Or.inl (Own.wd hw 46 rfl)) Via.refl G19_5 F20 (Or.inl (Own.wd hw 47 rfl)) (Own.wd hw 11 rfl) (ty := .int) (by decide) rfl rfl fq0 fun T27 h27 X27 W27 => ?_
  have F28 := F20.wr W27
  have F29 := F21.other W27 (Ne.symm nq0)
  have F30 := F22.other W27 nq21
  have F31 := F23.wr W27 (Or.inl (List.mem_of_getElem? (i := 0) rfl))
  have F32 := G19_0.other W27 (Or.inr (slot_ne (Or.inr (Own.wd hw 22 rfl)) (Or.inl (Own.wd hw 47 rfl)) (by decide) (t := (.array (.array .int))) (t' := .int) (by decide) (by decide)))
  have F33 := G19_1.other W27 (Or.inr (slot_ne (Or.inr (Own.wd hw 25 rfl)) (Or.inl (Own.wd hw 47 rfl)) (by decide) (t := (.array .double)) (t' := .int) (by decide) (by decide)))
  have F34 := G19_2.other W27 (Or.inr (slot_ne (Or.inr (Own.wd hw 28 rfl)) (Or.inl (Own.wd hw 47 rfl)) (by decide) (t := (.array .long)) (t' := .int) (by decide) (by decide)))
  have F35 := G19_3.other W27 (Or.inr (slot_ne (Or.inl (Own.wd hw 35 rfl)) (Or.inl (Own.wd hw 47 rfl)) (by decide) (t := .int) (t' := .int) (by decide) (by decide)))
  have F36 := G19_4.other W27 (Or.inr (slot_ne (Or.inl (Own.wd hw 45 rfl)) (Or.inl (Own.wd hw 47 rfl)) (by decide) (t := .long) (t' := .int) (by decide) (by decide)))
  have F37 := G19_6.other W27 (Or.inr (slot_ne (Or.inl (Own.wd hw 49 rfl)) (Or.inl (Own.wd hw 47 rfl)) (by decide) (t := .int) (t' := .int) (by decide) (by decide)))
  have F38 := G19_7.other W27 (Ne.symm nq5)
  have F39 := G19_8.other W27 (Ne.symm nq1)
  have F40 := G19_9.other W27 (Ne.symm nq2)
  have F41 : Fld Z h27 a "com/example/allocus/allocus/method/Population" "worst" "I" (.int (2 : Int32)) := Fld.same W27 G19_5
  have Z42 : n0 ≤ h27.size := by rw [W27.size]; exact Z24
  clear F20 F21 F22 F23 G19_0 G19_1 G19_2 G19_3 G19_4 G19_5 G19_6 G19_7 G19_8 G19_9 X26
  refine Own.iload X27 d5_49 rfl ?_
  refine Own.iff_ X27 (pc' := 68) d5_51 (by decide) (fun q => absurd (show (2 : Int) = (0 : Int) from q) (show ¬ ((2 : Int) = (0 : Int)) from by decide)) (fun _ => ?_)
  refine Own.dloadN X27 d5_54 rfl ?_
  refine Own.aloadN X27 d5_55 rfl rfl ?_
  refine Own.getF_ X27 d5_56 (host := "") (Or.inl (Own.wd hw 24 rfl)) Via.refl F33 fun T43 X43 => ?_
  clear X27
  refine Own.aloadN X43 d5_59 rfl rfl ?_
  refine Own.getF_ X43 d5_60 (host := "") (Or.inl (Own.wd hw 48 rfl)) Via.refl F37 fun T44 X44 => ?_
  clear X43
  refine Own.daload_ X44 d5_63 F39 (by decide) rfl ?_
  refine Own.dcmpF X44 (pc' := 74) d5_64 d5_65 (by decide) n_dv n_b0 (fun _ => ?_) (fun q => absurd (show Own.dz b0 ≤ Own.dz dv from by omega) q)
  exact Own.retV X44 d5_74 ⟨rfl, F31, F32, F33, F34, F35, F36, F41, F37, F38, F39, F40⟩ (by decide) (by decide)
theorem ef_5_20002 (m : MethodId) (x0 : Addr) (x1 : Addr) (x2 : UInt64) : entryFrame m #[.ref x0, .ref x1, .double x2] 5 = mkF m 0 #[.val (.ref x0), .val (.ref x1), .val (.double x2), .second, .unset] [] := by first | (simp [entryFrame, mkF, argsToLocals, Value.category, maxLocals]; done) | rfl
set_option maxRecDepth 65536 in
set_option maxHeartbeats 40000000 in
theorem rm5_20002 (l : Launch) (Z : State) (a0 : Array Value) (hw : ∀ d ∈ tables_1, d.before a0 Z = true) (a : Addr) (si : Addr) (dv : UInt64) (pl : Addr) (oa : Addr) (na : Addr) (x0 : Addr) (x1 : Addr) (x2 : Addr) (k_pl : ClassId) (c_pl : ClassId) (k_oa : ClassId) (k_na : ClassId) (b0 : UInt64) (b1 : UInt64) (b2 : UInt64) (m0 : Int64) (m1 : Int64) (m2 : Int64) (eJ : Int64) (k_si : ClassId) (y0 : Int32) (y1 : Int32) (u20 : Int32) (u21 : Int32) (h0 : Heap) (n0 : Nat) (Z0 : n0 ≤ h0.size) (fc0 : Exa Z h0 a "com/example/allocus/allocus/method/Population") (fc1 : Fld Z h0 a "com/example/allocus/allocus/method/Population" "plans" "[[I" (.ref pl)) (fc2 : Fld Z h0 a "com/example/allocus/allocus/method/Population" "objectives" "[D" (.ref oa)) (fc3 : Fld Z h0 a "com/example/allocus/allocus/method/Population" "entered" "[J" (.ref na)) (fc4 : Fld Z h0 a "com/example/allocus/allocus/method/Population" "count" "I" (.int (2 : Int32))) (fc5 : Fld Z h0 a "com/example/allocus/allocus/method/Population" "entries" "J" (.long eJ)) (fc6 : Fld Z h0 a "com/example/allocus/allocus/method/Population" "worst" "I" (.int (0 : Int32))) (fc7 : Fld Z h0 a "com/example/allocus/allocus/method/Population" "best" "I" (.int (0 : Int32))) (fc8 : Arv Z h0 pl k_pl (.array .int) (3 : Int32) [.ref x0, .ref x1, .ref x2] (.null)) (fc9 : Arv Z h0 x2 c_pl .int (2 : Int32) [.int u20, .int u21] (.int (0 : Int32))) (fc10 : Arv Z h0 oa k_oa .double (3 : Int32) [.double b0, .double b1, .double b2] (.double 0)) (fc11 : Arv Z h0 na k_na .long (3 : Int32) [.long m0, .long m1, .long m2] (.long (0 : Int64))) (fc12 : Arv Z h0 si k_si .int (2 : Int32) [.int y0, .int y1] (.int (0 : Int32))) (nq0 : a ≠ pl) (nq1 : a ≠ oa) (nq2 : a ≠ na) (nq3 : a ≠ x0) (nq4 : a ≠ x1) (nq5 : a ≠ x2) (nq6 : pl ≠ oa) (nq7 : pl ≠ na) (nq8 : pl ≠ x0) (nq9 : pl ≠ x1) (nq10 : pl ≠ x2) (nq11 : oa ≠ na) (nq12 : oa ≠ x0) (nq13 : oa ≠ x1) (nq14 : oa ≠ x2) (nq15 : na ≠ x0) (nq16 : na ≠ x1) (nq17 : na ≠ x2) (nq18 : x0 ≠ x1) (nq19 : x0 ≠ x2) (nq20 : x1 ≠ x2) (nq21 : si ≠ a) (nq22 : si ≠ pl) (nq23 : si ≠ oa) (nq24 : si ≠ na) (nq25 : si ≠ x0) (nq26 : si ≠ x1) (nq27 : si ≠ x2) (fq0 : n0 ≤ a) (fq1 : n0 ≤ x0) (fq2 : n0 ≤ x1) (fq3 : n0 ≤ x2) (fq4 : n0 ≤ oa) (fq5 : n0 ≤ na) (n_dv : NoNaN64 dv) (n_b0 : NoNaN64 b0) (c1 : Own.dz dv ≤ Own.dz b0) (c2 : Own.dz dv < Own.dz b0) :
    Own.Con l Z mn_4 [] prog_48_method_5_code 5 none ({ frames := 2, cells := 0, slots := 0, locals := 48 } : Room) #[.ref a, .ref si, .double dv] h0 n0 (fun v h => v = none ∧ Keep h0 h [a, x2, oa, na] ∧ Fld Z h a "com/example/allocus/allocus/method/Population" "plans" "[[I" (.ref pl) ∧ Fld Z h a "com/example/allocus/allocus/method/Population" "objectives" "[D" (.ref oa) ∧ Fld Z h a "com/example/allocus/allocus/method/Population" "entered" "[J" (.ref na) ∧ Fld Z h a "com/example/allocus/allocus/method/Population" "count" "I" (.int (3 : Int32)) ∧ Fld Z h a "com/example/allocus/allocus/method/Population" "entries" "J" (.long (eJ + (1 : Int64))) ∧ Fld Z h a "com/example/allocus/allocus/method/Population" "worst" "I" (.int (0 : Int32)) ∧ Fld Z h a "com/example/allocus/allocus/method/Population" "best" "I" (.int (2 : Int32)) ∧ Arv Z h x2 c_pl .int (2 : Int32) [.int y0, .int y1] (.int (0 : Int32)) ∧ Arv Z h oa k_oa .double (3 : Int32) [.double b0, .double b1, .double dv] (.double 0) ∧ Arv Z h na k_na .long (3 : Int32) [.long m0, .long m1, .long eJ] (.long (0 : Int64))) := by
  refine Own.enter (own := "com/example/allocus/allocus/method/Population") (nm := "add") (plainFor_of_name pn_com_example_allocus_allocus_method_Population) rfl rfl (fun m => ef_5_20002 m a si dv) fun p e s m below meth c T X => ?_
  refine Own.aloadN X d5_0 rfl rfl ?_
  refine Own.getF_ X d5_1 (host := "") (Or.inl (Own.wd hw 34 rfl)) Via.refl fc4 fun T1 X1 => ?_
  clear X
  refine Own.istore X1 d5_4 (l' := #[.val (.ref a), .val (.ref si), .val (.double dv), .second, .val (.int (2 : Int32))]) rfl ?_
  refine Own.aloadN X1 d5_6 rfl rfl ?_
  refine Own.dup X1 d5_7 rfl ?_
  refine Own.getF_ X1 d5_8 (host := "") (Or.inl (Own.wd hw 34 rfl)) Via.refl fc4 fun T2 X2 => ?_
  clear X1
  refine Own.iconst X2 (v := 1) d5_11 rfl ?_
  refine Own.iadd X2 d5_12 ?_
  show Own.Go p e below s n0 _ _ _ (T2.setTop (mkF m 13 _ [.int (3 : Int32), .ref a]))
  refine Own.putF_ X2 d5_13 (host := "") (Or.inl (Own.wd hw 34 rfl)) Via.refl fc4 fc0 (Or.inl (Own.wd hw 35 rfl)) (Own.wd hw 11 rfl) (ty := .int) (by decide) rfl rfl fq0 fun T3 h3 X3 W3 => ?_
  have F4 := fc0.wr W3
  have F5 := fc1.other W3 (Or.inr (slot_ne (Or.inr (Own.wd hw 22 rfl)) (Or.inl (Own.wd hw 35 rfl)) (by decide) (t := (.array (.array .int))) (t' := .int) (by decide) (by decide)))
  have F6 := fc2.other W3 (Or.inr (slot_ne (Or.inr (Own.wd hw 25 rfl)) (Or.inl (Own.wd hw 35 rfl)) (by decide) (t := (.array .double)) (t' := .int) (by decide) (by decide)))
  have F7 := fc3.other W3 (Or.inr (slot_ne (Or.inr (Own.wd hw 28 rfl)) (Or.inl (Own.wd hw 35 rfl)) (by decide) (t := (.array .long)) (t' := .int) (by decide) (by decide)))
  have F8 := fc5.other W3 (Or.inr (slot_ne (Or.inl (Own.wd hw 45 rfl)) (Or.inl (Own.wd hw 35 rfl)) (by decide) (t := .long) (t' := .int) (by decide) (by decide)))
  have F9 := fc6.other W3 (Or.inr (slot_ne (Or.inl (Own.wd hw 47 rfl)) (Or.inl (Own.wd hw 35 rfl)) (by decide) (t := .int) (t' := .int) (by decide) (by decide)))
  have F10 := fc7.other W3 (Or.inr (slot_ne (Or.inl (Own.wd hw 49 rfl)) (Or.inl (Own.wd hw 35 rfl)) (by decide) (t := .int) (t' := .int) (by decide) (by decide)))
  have F11 := fc8.other W3 (Ne.symm nq0)
  have F12 := fc9.other W3 (Ne.symm nq5)
  have F13 := fc10.other W3 (Ne.symm nq1)
  have F14 := fc11.other W3 (Ne.symm nq2)
  have F15 := fc12.other W3 nq21
  have F16 := (Keep.refl h0 [a, x2, oa, na]).wr W3 (Or.inl (List.mem_of_getElem? (i := 0) rfl))
  have F17 : Fld Z h3 a "com/example/allocus/allocus/method/Population" "count" "I" (.int (3 : Int32)) := Fld.same W3 fc4
  have Z18 : n0 ≤ h3.size := by rw [W3.size]; exact Z0
  clear X2 fc0 fc1 fc10 fc11 fc12 fc2 fc3 fc4 fc5 fc6 fc7 fc8 fc9
  refine Own.aloadN X3 d5_16 rfl rfl ?_
  refine Own.iload X3 d5_17 rfl ?_
  refine Own.aloadN X3 d5_19 rfl rfl ?_
  refine Own.dloadN X3 d5_20 rfl ?_
  refine Own.callP_ (y := mn_2) (D := "com/example/allocus/allocus/method/Population") (z' := mn_4) (z := mn_4) (a := a) X3 d5_21 (Own.wd hw 36 rfl) (Own.wd hw 37 rfl) (Own.wd hw 32 rfl) rfl (Own.wd hw 38 rfl) (Own.wd hw 12 rfl) (Own.wd hw 39 rfl) (by decide) F4 (rm6_2 l Z a0 hw a si dv pl oa na x0 x1 x2 k_pl c_pl k_oa k_na b0 b1 b2 m0 m1 m2 eJ k_si y0 y1 u20 u21 (3 : Int32) (0 : Int32) (0 : Int32) h3 n0 Z18 F4 F5 F6 F7 F17 F8 F9 F10 F11 F12 F13 F14 F15 nq0 nq1 nq2 nq3 nq4 nq5 nq6 nq7 nq8 nq9 nq10 nq11 nq12 nq13 nq14 nq15 nq16 nq17 nq18 nq19 nq20 nq21 nq22 nq23 nq24 nq25 nq26 nq27 fq0 fq1 fq2 fq3 fq4 fq5 ) (lenOf pd_3 rfl) rfl (argsL := [.int (2 : Int32), .ref si, .double dv]) (rest := []) rfl (W := 0) (Nat.le_of_eq rfl) (by decide) (by decide) (by decide) (by decide) fun T19 h19 v19 X19 q19 => ?_
  obtain ⟨rfl, K19, G19_0, G19_1, G19_2, G19_3, G19_4, G19_5, G19_6, G19_7, G19_8, G19_9⟩ := q19
  have F20 := F4.keep K19
  have F21 := F11.keep K19 (ninS (Ne.symm nq0) (ninS nq10 (ninS nq6 (ninS nq7 nin0))))
  have F22 := F15.keep K19 (ninS nq21 (ninS nq27 (ninS nq23 (ninS nq24 nin0))))
  have F23 := F16.trans K19 (allS (Or.inl (List.mem_of_getElem? (i := 0) rfl)) (allS (Or.inl (List.mem_of_getElem? (i := 1) rfl)) (allS (Or.inl (List.mem_of_getElem? (i := 2) rfl)) (allS (Or.inl (List.mem_of_getElem? (i := 3) rfl)) all0))))
  have Z24 : n0 ≤ h19.size := Nat.le_trans Z18 K19.1
  show Own.Go p e below s n0 _ _ _ (T19.setTop (mkF m 24 _ []))
  clear F10 F11 F12 F13 F14 F15 F16 F17 F4 F5 F6 F7 F8 F9 X3
  refine Own.iload X19 d5_24 rfl ?_
  refine Own.iff_ X19 (pc' := 43) d5_26 (by decide) (fun q => absurd (show (2 : Int) = (0 : Int) from q) (show ¬ ((2 : Int) = (0 : Int)) from by decide)) (fun _ => ?_)
  refine Own.dloadN X19 d5_29 rfl ?_
  refine Own.aloadN X19 d5_30 rfl rfl ?_
  refine Own.getF_ X19 d5_31 (host := "") (Or.inl (Own.wd hw 24 rfl)) Via.refl G19_1 fun T25 X25 => ?_
  clear X19
  refine Own.aloadN X25 d5_34 rfl rfl ?_
  refine Own.getF_ X25 d5_35 (host := "") (Or.inl (Own.wd hw 46 rfl)) Via.refl G19_5 fun T26 X26 => ?_
  clear X25
  refine Own.daload_ X26 d5_38 G19_8 (by decide) rfl ?_
  refine Own.dcmpF X26 (pc' := 49) d5_39 d5_40 (by decide) n_dv n_b0 (fun _ => ?_) (fun q => absurd (show Own.dz dv ≤ Own.dz b0 from by omega) q)
  refine Own.iload X26 d5_49 rfl ?_
  refine Own.iff_ X26 (pc' := 68) d5_51 (by decide) (fun q => absurd (show (2 : Int) = (0 : Int) from q) (show ¬ ((2 : Int) = (0 : Int)) from by decide)) (fun _ => ?_)
  refine Own.dloadN X26 d5_54 rfl ?_
  refine Own.aloadN X26 d5_55 rfl rfl ?_
  refine Own.getF_ X26 d5_56 (host := "") (Or.inl (Own.wd hw 24 rfl)) Via.refl G19_1 fun T27 X27 => ?_
  clear X26
  refine Own.aloadN X27 d5_59 rfl rfl ?_
  refine Own.getF_ X27 d5_60 (host := "") (Or.inl (Own.wd hw 48 rfl)) Via.refl G19_6 fun T28 X28 => ?_
  clear X27
  refine Own.daload_ X28 d5_63 G19_8 (by decide) rfl ?_
  refine Own.dcmpF X28 (pc' := 74) d5_64 d5_65 (by decide) n_dv n_b0 (fun q => absurd (show Own.dz b0 ≤ Own.dz dv from q) (show ¬ (Own.dz b0 ≤ Own.dz dv) from by omega)) (fun _ => ?_)
  refine Own.aloadN X28 d5_68 rfl rfl ?_
  refine Own.iload X28 d5_69 rfl ?_
  refine Own.putF_ X28 d5_71 (host := "") (Or.inl (Own.wd hw 48 rfl)) Via.refl G19_6 F20 (Or.inl (Own.wd hw 49 rfl)) (Own.wd hw 11 rfl) (ty := .int) (by decide) rfl rfl fq0 fun T29 h29 X29 W29 => ?_
  have F30 := F20.wr W29
  have F31 := F21.other W29 (Ne.symm nq0)
  have F32 := F22.other W29 nq21
  have F33 := F23.wr W29 (Or.inl (List.mem_of_getElem? (i := 0) rfl))
  have F34 := G19_0.other W29 (Or.inr (slot_ne (Or.inr (Own.wd hw 22 rfl)) (Or.inl (Own.wd hw 49 rfl)) (by decide) (t := (.array (.array .int))) (t' := .int) (by decide) (by decide)))
  have F35 := G19_1.other W29 (Or.inr (slot_ne (Or.inr (Own.wd hw 25 rfl)) (Or.inl (Own.wd hw 49 rfl)) (by decide) (t := (.array .double)) (t' := .int) (by decide) (by decide)))
  have F36 := G19_2.other W29 (Or.inr (slot_ne (Or.inr (Own.wd hw 28 rfl)) (Or.inl (Own.wd hw 49 rfl)) (by decide) (t := (.array .long)) (t' := .int) (by decide) (by decide)))
  have F37 := G19_3.other W29 (Or.inr (slot_ne (Or.inl (Own.wd hw 35 rfl)) (Or.inl (Own.wd hw 49 rfl)) (by decide) (t := .int) (t' := .int) (by decide) (by decide)))
  have F38 := G19_4.other W29 (Or.inr (slot_ne (Or.inl (Own.wd hw 45 rfl)) (Or.inl (Own.wd hw 49 rfl)) (by decide) (t := .long) (t' := .int) (by decide) (by decide)))
  have F39 := G19_5.other W29 (Or.inr (slot_ne (Or.inl (Own.wd hw 47 rfl)) (Or.inl (Own.wd hw 49 rfl)) (by decide) (t := .int) (t' := .int) (by decide) (by decide)))
  have F40 := G19_7.other W29 (Ne.symm nq5)
  have F41 := G19_8.other W29 (Ne.symm nq1)
  have F42 := G19_9.other W29 (Ne.symm nq2)
  have F43 : Fld Z h29 a "com/example/allocus/allocus/method/Population" "best" "I" (.int (2 : Int32)) := Fld.same W29 G19_6
  have Z44 : n0 ≤ h29.size := by rw [W29.size]; exact Z24
  clear F20 F21 F22 F23 G19_0 G19_1 G19_2 G19_3 G19_4 G19_5 G19_6 G19_7 G19_8 G19_9 X28
  exact Own.retV X29 d5_74 ⟨rfl, F33, F34, F35, F36, F37, F38, F39, F43, F40, F41, F42⟩ (by decide) (by decide)
theorem ef_5_20000 (m : MethodId) (x0 : Addr) (x1 : Addr) (x2 : UInt64) : entryFrame m #[.ref x0, .ref x1, .double x2] 5 = mkF m 0 #[.val (.ref x0), .val (.ref x1), .val (.double x2), .second, .unset] [] := by first | (simp [entryFrame, mkF, argsToLocals, Value.category, maxLocals]; done) | rfl
set_option maxRecDepth 65536 in
set_option maxHeartbeats 40000000 in
theorem rm5_20000 (l : Launch) (Z : State) (a0 : Array Value) (hw : ∀ d ∈ tables_1, d.before a0 Z = true) (a : Addr) (si : Addr) (dv : UInt64) (pl : Addr) (oa : Addr) (na : Addr) (x0 : Addr) (x1 : Addr) (x2 : Addr) (k_pl : ClassId) (c_pl : ClassId) (k_oa : ClassId) (k_na : ClassId) (b0 : UInt64) (b1 : UInt64) (b2 : UInt64) (m0 : Int64) (m1 : Int64) (m2 : Int64) (eJ : Int64) (k_si : ClassId) (y0 : Int32) (y1 : Int32) (u20 : Int32) (u21 : Int32) (h0 : Heap) (n0 : Nat) (Z0 : n0 ≤ h0.size) (fc0 : Exa Z h0 a "com/example/allocus/allocus/method/Population") (fc1 : Fld Z h0 a "com/example/allocus/allocus/method/Population" "plans" "[[I" (.ref pl)) (fc2 : Fld Z h0 a "com/example/allocus/allocus/method/Population" "objectives" "[D" (.ref oa)) (fc3 : Fld Z h0 a "com/example/allocus/allocus/method/Population" "entered" "[J" (.ref na)) (fc4 : Fld Z h0 a "com/example/allocus/allocus/method/Population" "count" "I" (.int (2 : Int32))) (fc5 : Fld Z h0 a "com/example/allocus/allocus/method/Population" "entries" "J" (.long eJ)) (fc6 : Fld Z h0 a "com/example/allocus/allocus/method/Population" "worst" "I" (.int (0 : Int32))) (fc7 : Fld Z h0 a "com/example/allocus/allocus/method/Population" "best" "I" (.int (0 : Int32))) (fc8 : Arv Z h0 pl k_pl (.array .int) (3 : Int32) [.ref x0, .ref x1, .ref x2] (.null)) (fc9 : Arv Z h0 x2 c_pl .int (2 : Int32) [.int u20, .int u21] (.int (0 : Int32))) (fc10 : Arv Z h0 oa k_oa .double (3 : Int32) [.double b0, .double b1, .double b2] (.double 0)) (fc11 : Arv Z h0 na k_na .long (3 : Int32) [.long m0, .long m1, .long m2] (.long (0 : Int64))) (fc12 : Arv Z h0 si k_si .int (2 : Int32) [.int y0, .int y1] (.int (0 : Int32))) (nq0 : a ≠ pl) (nq1 : a ≠ oa) (nq2 : a ≠ na) (nq3 : a ≠ x0) (nq4 : a ≠ x1) (nq5 : a ≠ x2) (nq6 : pl ≠ oa) (nq7 : pl ≠ na) (nq8 : pl ≠ x0) (nq9 : pl ≠ x1) (nq10 : pl ≠ x2) (nq11 : oa ≠ na) (nq12 : oa ≠ x0) (nq13 : oa ≠ x1) (nq14 : oa ≠ x2) (nq15 : na ≠ x0) (nq16 : na ≠ x1) (nq17 : na ≠ x2) (nq18 : x0 ≠ x1) (nq19 : x0 ≠ x2) (nq20 : x1 ≠ x2) (nq21 : si ≠ a) (nq22 : si ≠ pl) (nq23 : si ≠ oa) (nq24 : si ≠ na) (nq25 : si ≠ x0) (nq26 : si ≠ x1) (nq27 : si ≠ x2) (fq0 : n0 ≤ a) (fq1 : n0 ≤ x0) (fq2 : n0 ≤ x1) (fq3 : n0 ≤ x2) (fq4 : n0 ≤ oa) (fq5 : n0 ≤ na) (n_dv : NoNaN64 dv) (n_b0 : NoNaN64 b0) (c1 : Own.dz dv ≤ Own.dz b0) (c2 : Own.dz b0 ≤ Own.dz dv) :
    Own.Con l Z mn_4 [] prog_48_method_5_code 5 none ({ frames := 2, cells := 0, slots := 0, locals := 48 } : Room) #[.ref a, .ref si, .double dv] h0 n0 (fun v h => v = none ∧ Keep h0 h [a, x2, oa, na] ∧ Fld Z h a "com/example/allocus/allocus/method/Population" "plans" "[[I" (.ref pl) ∧ Fld Z h a "com/example/allocus/allocus/method/Population" "objectives" "[D" (.ref oa) ∧ Fld Z h a "com/example/allocus/allocus/method/Population" "entered" "[J" (.ref na) ∧ Fld Z h a "com/example/allocus/allocus/method/Population" "count" "I" (.int (3 : Int32)) ∧ Fld Z h a "com/example/allocus/allocus/method/Population" "entries" "J" (.long (eJ + (1 : Int64))) ∧ Fld Z h a "com/example/allocus/allocus/method/Population" "worst" "I" (.int (0 : Int32)) ∧ Fld Z h a "com/example/allocus/allocus/method/Population" "best" "I" (.int (0 : Int32)) ∧ Arv Z h x2 c_pl .int (2 : Int32) [.int y0, .int y1] (.int (0 : Int32)) ∧ Arv Z h oa k_oa .double (3 : Int32) [.double b0, .double b1, .double dv] (.double 0) ∧ Arv Z h na k_na .long (3 : Int32) [.long m0, .long m1, .long eJ] (.long (0 : Int64))) := by
  refine Own.enter (own := "com/example/allocus/allocus/method/Population") (nm := "add") (plainFor_of_name pn_com_example_allocus_allocus_method_Population) rfl rfl (fun m => ef_5_20000 m a si dv) fun p e s m below meth c T X => ?_
  refine Own.aloadN X d5_0 rfl rfl ?_
  refine Own.getF_ X d5_1 (host := "") (Or.inl (Own.wd hw 34 rfl)) Via.refl fc4 fun T1 X1 => ?_
  clear X
  refine Own.istore X1 d5_4 (l' := #[.val (.ref a), .val (.ref si), .val (.double dv), .second, .val (.int (2 : Int32))]) rfl ?_
  refine Own.aloadN X1 d5_6 rfl rfl ?_
  refine Own.dup X1 d5_7 rfl ?_
  refine Own.getF_ X1 d5_8 (host := "") (Or.inl (Own.wd hw 34 rfl)) Via.refl fc4 fun T2 X2 => ?_
  clear X1
  refine Own.iconst X2 (v := 1) d5_11 rfl ?_
  refine Own.iadd X2 d5_12 ?_
  show Own.Go p e below s n0 _ _ _ (T2.setTop (mkF m 13 _ [.int (3 : Int32), .ref a]))
  refine Own.putF_ X2 d5_13 (host := "") (Or.inl (Own.wd hw 34 rfl)) Via.refl fc4 fc0 (Or.inl (Own.wd hw 35 rfl)) (Own.wd hw 11 rfl) (ty := .int) (by decide) rfl rfl fq0 fun T3 h3 X3 W3 => ?_
  have F4 := fc0.wr W3
  have F5 := fc1.other W3 (Or.inr (slot_ne (Or.inr (Own.wd hw 22 rfl)) (Or.inl (Own.wd hw 35 rfl)) (by decide) (t := (.array (.array .int))) (t' := .int) (by decide) (by decide)))
  have F6 := fc2.other W3 (Or.inr (slot_ne (Or.inr (Own.wd hw 25 rfl)) (Or.inl (Own.wd hw 35 rfl)) (by decide) (t := (.array .double)) (t' := .int) (by decide) (by decide)))
  have F7 := fc3.other W3 (Or.inr (slot_ne (Or.inr (Own.wd hw 28 rfl)) (Or.inl (Own.wd hw 35 rfl)) (by decide) (t := (.array .long)) (t' := .int) (by decide) (by decide)))
  have F8 := fc5.other W3 (Or.inr (slot_ne (Or.inl (Own.wd hw 45 rfl)) (Or.inl (Own.wd hw 35 rfl)) (by decide) (t := .long) (t' := .int) (by decide) (by decide)))
  have F9 := fc6.other W3 (Or.inr (slot_ne (Or.inl (Own.wd hw 47 rfl)) (Or.inl (Own.wd hw 35 rfl)) (by decide) (t := .int) (t' := .int) (by decide) (by decide)))
  have F10 := fc7.other W3 (Or.inr (slot_ne (Or.inl (Own.wd hw 49 rfl)) (Or.inl (Own.wd hw 35 rfl)) (by decide) (t := .int) (t' := .int) (by decide) (by decide)))
  have F11 := fc8.other W3 (Ne.symm nq0)
  have F12 := fc9.other W3 (Ne.symm nq5)
  have F13 := fc10.other W3 (Ne.symm nq1)
  have F14 := fc11.other W3 (Ne.symm nq2)
  have F15 := fc12.other W3 nq21
  have F16 := (Keep.refl h0 [a, x2, oa, na]).wr W3 (Or.inl (List.mem_of_getElem? (i := 0) rfl))
  have F17 : Fld Z h3 a "com/example/allocus/allocus/method/Population" "count" "I" (.int (3 : Int32)) := Fld.same W3 fc4
  have Z18 : n0 ≤ h3.size := by rw [W3.size]; exact Z0
  clear X2 fc0 fc1 fc10 fc11 fc12 fc2 fc3 fc4 fc5 fc6 fc7 fc8 fc9
  refine Own.aloadN X3 d5_16 rfl rfl ?_
  refine Own.iload X3 d5_17 rfl ?_
  refine Own.aloadN X3 d5_19 rfl rfl ?_
  refine Own.dloadN X3 d5_20 rfl ?_
  refine Own.callP_ (y := mn_2) (D := "com/example/allocus/allocus/method/Population") (z' := mn_4) (z := mn_4) (a := a) X3 d5_21 (Own.wd hw 36 rfl) (Own.wd hw 37 rfl) (Own.wd hw 32 rfl) rfl (Own.wd hw 38 rfl) (Own.wd hw 12 rfl) (Own.wd hw 39 rfl) (by decide) F4 (rm6_2 l Z a0 hw a si dv pl oa na x0 x1 x2 k_pl c_pl k_oa k_na b0 b1 b2 m0 m1 m2 eJ k_si y0 y1 u20 u21 (3 : Int32) (0 : Int32) (0 : Int32) h3 n0 Z18 F4 F5 F6 F7 F17 F8 F9 F10 F11 F12 F13 F14 F15 nq0 nq1 nq2 nq3 nq4 nq5 nq6 nq7 nq8 nq9 nq10 nq11 nq12 nq13 nq14 nq15 nq16 nq17 nq18 nq19 nq20 nq21 nq22 nq23 nq24 nq25 nq26 nq27 fq0 fq1 fq2 fq3 fq4 fq5 ) (lenOf pd_3 rfl) rfl (argsL := [.int (2 : Int32), .ref si, .double dv]) (rest := []) rfl (W := 0) (Nat.le_of_eq rfl) (by decide) (by decide) (by decide) (by decide) fun T19 h19 v19 X19 q19 => ?_
  obtain ⟨rfl, K19, G19_0, G19_1, G19_2, G19_3, G19_4, G19_5, G19_6, G19_7, G19_8, G19_9⟩ := q19
  have F20 := F4.keep K19
  have F21 := F11.keep K19 (ninS (Ne.symm nq0) (ninS nq10 (ninS nq6 (ninS nq7 nin0))))
  have F22 := F15.keep K19 (ninS nq21 (ninS nq27 (ninS nq23 (ninS nq24 nin0))))
  have F23 := F16.trans K19 (allS (Or.inl (List.mem_of_getElem? (i := 0) rfl)) (allS (Or.inl (List.mem_of_getElem? (i := 1) rfl)) (allS (Or.inl (List.mem_of_getElem? (i := 2) rfl)) (allS (Or.inl (List.mem_of_getElem? (i := 3) rfl)) all0))))
  have Z24 : n0 ≤ h19.size := Nat.le_trans Z18 K19.1
  show Own.Go p e below s n0 _ _ _ (T19.setTop (mkF m 24 _ []))
  clear F10 F11 F12 F13 F14 F15 F16 F17 F4 F5 F6 F7 F8 F9 X3
  refine Own.iload X19 d5_24 rfl ?_
  refine Own.iff_ X19 (pc' := 43) d5_26 (by decide) (fun q => absurd (show (2 : Int) = (0 : Int) from q) (show ¬ ((2 : Int) = (0 : Int)) from by decide)) (fun _ => ?_)
  refine Own.dloadN X19 d5_29 rfl ?_
  refine Own.aloadN X19 d5_30 rfl rfl ?_
  refine Own.getF_ X19 d5_31 (host := "") (Or.inl (Own.wd hw 24 rfl)) Via.refl G19_1 fun T25 X25 => ?_
  clear X19
  refine Own.aloadN X25 d5_34 rfl rfl ?_
  refine Own.getF_ X25 d5_35 (host := "") (Or.inl (Own.wd hw 46 rfl)) Via.refl G19_5 fun T26 X26 => ?_
  clear X25
  refine Own.daload_ X26 d5_38 G19_8 (by decide) rfl ?_
  refine Own.dcmpF X26 (pc' := 49) d5_39 d5_40 (by decide) n_dv n_b0 (fun _ => ?_) (fun q => absurd (show Own.dz dv ≤ Own.dz b0 from by omega) q)
  refine Own.iload X26 d5_49 rfl ?_
  refine Own.iff_ X26 (pc' := 68) d5_51 (by decide) (fun q => absurd (show (2 : Int) = (0 : Int) from q) (show ¬ ((2 : Int) = (0 : Int)) from by decide)) (fun _ => ?_)
  refine Own.dloadN X26 d5_54 rfl ?_
  refine Own.aloadN X26 d5_55 rfl rfl ?_
  refine Own.getF_ X26 d5_56 (host := "") (Or.inl (Own.wd hw 24 rfl)) Via.refl G19_1 fun T27 X27 => ?_
  clear X26
  refine Own.aloadN X27 d5_59 rfl rfl ?_
  refine Own.getF_ X27 d5_60 (host := "") (Or.inl (Own.wd hw 48 rfl)) Via.refl G19_6 fun T28 X28 => ?_
  clear X27
  refine Own.daload_ X28 d5_63 G19_8 (by decide) rfl ?_
  refine Own.dcmpF X28 (pc' := 74) d5_64 d5_65 (by decide) n_dv n_b0 (fun _ => ?_) (fun q => absurd (show Own.dz b0 ≤ Own.dz dv from by omega) q)
  exact Own.retV X28 d5_74 ⟨rfl, F23, G19_0, G19_1, G19_2, G19_3, G19_4, G19_5, G19_6, G19_7, G19_8, G19_9⟩ (by decide) (by decide)
theorem ef_7 (m : MethodId) (x0 : Addr) : entryFrame m #[.ref x0] 1 = mkF m 0 #[.val (.ref x0)] [] := by first | (simp [entryFrame, mkF, argsToLocals, Value.category, maxLocals]; done) | rfl
set_option maxRecDepth 65536 in
set_option maxHeartbeats 40000000 in
theorem rm7 (l : Launch) (Z : State) (a0 : Array Value) (hw : ∀ d ∈ tables_1, d.before a0 Z = true) (a : Addr) (ct : Int32) (h0 : Heap) (n0 : Nat) (Z0 : n0 ≤ h0.size) (fc0 : Fld Z h0 a "com/example/allocus/allocus/method/Population" "count" "I" (.int ct))  :
    Own.Con l Z mn_5 [] prog_48_method_4_code 1 (some .int) ({ frames := 0, cells := 0, slots := 0, locals := 0 } : Room) #[.ref a] h0 n0 (fun v h => v = some (.int ct) ∧ h0 = h) := by
  refine Own.enter (own := "com/example/allocus/allocus/method/Population") (nm := "count") (plainFor_of_name pn_com_example_allocus_allocus_method_Population) rfl rfl (fun m => ef_7 m a) fun p e s m below meth c T X => ?_
  refine Own.aloadN X d7_0 rfl rfl ?_
  refine Own.getF_ X d7_1 (host := "") (Or.inl (Own.wd hw 34 rfl)) Via.refl fc0 fun T1 X1 => ?_
  clear X
  exact Own.retI X1 d7_4 ⟨rfl, rfl⟩ (by decide) (by decide)
theorem ef_8_0 (m : MethodId) (x0 : Addr) : entryFrame m #[.ref x0] 1 = mkF m 0 #[.val (.ref x0)] [] := by first | (simp [entryFrame, mkF, argsToLocals, Value.category, maxLocals]; done) | rfl
set_option maxRecDepth 65536 in
set_option maxHeartbeats 40000000 in
theorem rm8_0 (l : Launch) (Z : State) (a0 : Array Value) (hw : ∀ d ∈ tables_1, d.before a0 Z = true) (a : Addr) (oa : Addr) (k_oa : ClassId) (b0 : UInt64) (b1 : UInt64) (b2 : UInt64) (h0 : Heap) (n0 : Nat) (Z0 : n0 ≤ h0.size) (fc0 : Fld Z h0 a "com/example/allocus/allocus/method/Population" "objectives" "[D" (.ref oa)) (fc1 : Fld Z h0 a "com/example/allocus/allocus/method/Population" "best" "I" (.int (0 : Int32))) (fc2 : Arv Z h0 oa k_oa .double (3 : Int32) [.double b0, .double b1, .double b2] (.double 0))  :
    Own.Con l Z mn_6 [] prog_48_method_9_code 1 (some .double) ({ frames := 0, cells := 0, slots := 0, locals := 0 } : Room) #[.ref a] h0 n0 (fun v h => v = some (.double b0) ∧ h0 = h) := by
  refine Own.enter (own := "com/example/allocus/allocus/method/Population") (nm := "bestObjective") (plainFor_of_name pn_com_example_allocus_allocus_method_Population) rfl rfl (fun m => ef_8_0 m a) fun p e s m below meth c T X => ?_
  refine Own.aloadN X d8_0 rfl rfl ?_
  refine Own.getF_ X d8_1 (host := "") (Or.inl (Own.wd hw 24 rfl)) Via.refl fc0 fun T1 X1 => ?_
  clear X
  refine Own.aloadN X1 d8_4 rfl rfl ?_
  refine Own.getF_ X1 d8_5 (host := "") (Or.inl (Own.wd hw 48 rfl)) Via.refl fc1 fun T2 X2 => ?_
  clear X1
  refine Own.daload_ X2 d8_8 fc2 (by decide) rfl ?_
  exact Own.retD X2 d8_9 ⟨rfl, rfl⟩ (by decide) (by decide)
theorem ef_9_0 (m : MethodId) (x0 : Addr) : entryFrame m #[.ref x0] 1 = mkF m 0 #[.val (.ref x0)] [] := by first | (simp [entryFrame, mkF, argsToLocals, Value.category, maxLocals]; done) | rfl
set_option maxRecDepth 65536 in
set_option maxHeartbeats 40000000 in
theorem rm9_0 (l : Launch) (Z : State) (a0 : Array Value) (hw : ∀ d ∈ tables_1, d.before a0 Z = true) (a : Addr) (pl : Addr) (x0 : Addr) (x1 : Addr) (x2 : Addr) (k_pl : ClassId) (c_pl : ClassId) (u00 : Int32) (u01 : Int32) (h0 : Heap) (n0 : Nat) (Z0 : n0 ≤ h0.size) (fc0 : Fld Z h0 a "com/example/allocus/allocus/method/Population" "plans" "[[I" (.ref pl)) (fc1 : Fld Z h0 a "com/example/allocus/allocus/method/Population" "best" "I" (.int (0 : Int32))) (fc2 : Arv Z h0 pl k_pl (.array .int) (3 : Int32) [.ref x0, .ref x1, .ref x2] (.null)) (fc3 : Arv Z h0 x0 c_pl .int (2 : Int32) [.int u00, .int u01] (.int (0 : Int32))) (fc4 : Exa Z h0 x0 "[I")  :
    Own.Con l Z mn_7 [] prog_48_method_8_code 1 (some (.array .int)) ({ frames := 1, cells := 1, slots := 2, locals := 14 } : Room) #[.ref a] h0 n0 (fun v h => ∃ (cl : Addr), v = some (.ref cl) ∧ Keep h0 h [] ∧ h0.size ≤ cl ∧ Arv Z h cl c_pl .int (2 : Int32) [.int u00, .int u01] (.int (0 : Int32))) := by
  refine Own.enter (own := "com/example/allocus/allocus/method/Population") (nm := "best") (plainFor_of_name pn_com_example_allocus_allocus_method_Population) rfl rfl (fun m => ef_9_0 m a) fun p e s m below meth c T X => ?_
  refine Own.aloadN X d9_0 rfl rfl ?_
  refine Own.getF_ X d9_1 (host := "") (Or.inl (Own.wd hw 21 rfl)) Via.refl fc0 fun T1 X1 => ?_
  clear X
  refine Own.aloadN X1 d9_4 rfl rfl ?_
  refine Own.getF_ X1 d9_5 (host := "") (Or.inl (Own.wd hw 48 rfl)) Via.refl fc1 fun T2 X2 => ?_
  clear X1
  refine Own.aaload_ X2 d9_8 fc2 rfl (by decide) rfl ?_
  refine Own.clone_ X2 (cap := 2) d9_9 (Own.wd hw 65 rfl) (Own.wd hw 66 rfl) (Own.wd hw 70 rfl) (Own.wd hw 68 rfl) (Own.wd hw 69 rfl) (Own.wd hw 71 rfl) fc3 fc4 rfl (by decide) (W := 0) (Nat.le_of_eq rfl) (by decide) (by decide) (by decide) (by decide) fun T3 h3 cl g_cl X3 E3 V3 A3 => ?_
  have ne4 : a ≠ cl := Nat.ne_of_lt (Nat.lt_of_lt_of_le fc0.lt (Nat.le_of_eq g_cl.symm))
  have ne5 : pl ≠ cl := Nat.ne_of_lt (Nat.lt_of_lt_of_le fc2.lt (Nat.le_of_eq g_cl.symm))
  have ne6 : x0 ≠ cl := Nat.ne_of_lt (Nat.lt_of_lt_of_le fc3.lt (Nat.le_of_eq g_cl.symm))
  have fr7 : n0 ≤ cl := Nat.le_trans Z0 (Nat.le_of_eq g_cl.symm)
  have bn8 : h0.size ≤ cl := Nat.le_trans (Keep.refl h0 []).1 (Nat.le_of_eq g_cl.symm)
  have F9 := fc0.ext E3
  have F10 := fc1.ext E3
  have F11 := fc2.ext E3
  have F12 := fc3.ext E3
  have F13 := fc4.ext E3
  have F14 := (Keep.refl h0 []).ext E3
  have Z15 : n0 ≤ h3.size := Nat.le_trans Z0 E3.1
  clear X2 fc0 fc1 fc2 fc3 fc4
  refine Own.cast_ X3 d9_12 (Own.wd hw 72 rfl) (Ins.self A3) fun T16 X16 => ?_
  clear X3
  exact Own.retA X16 d9_15 rfl rfl rfl ⟨cl, rfl, F14, bn8, V3⟩ (by decide) (by decide)
theorem ef_8_1 (m : MethodId) (x0 : Addr) : entryFrame m #[.ref x0] 1 = mkF m 0 #[.val (.ref x0)] [] := by first | (simp [entryFrame, mkF, argsToLocals, Value.category, maxLocals]; done) | rfl
set_option maxRecDepth 65536 in
set_option maxHeartbeats 40000000 in
theorem rm8_1 (l : Launch) (Z : State) (a0 : Array Value) (hw : ∀ d ∈ tables_1, d.before a0 Z = true) (a : Addr) (oa : Addr) (k_oa : ClassId) (b0 : UInt64) (b1 : UInt64) (b2 : UInt64) (h0 : Heap) (n0 : Nat) (Z0 : n0 ≤ h0.size) (fc0 : Fld Z h0 a "com/example/allocus/allocus/method/Population" "objectives" "[D" (.ref oa)) (fc1 : Fld Z h0 a "com/example/allocus/allocus/method/Population" "best" "I" (.int (1 : Int32))) (fc2 : Arv Z h0 oa k_oa .double (3 : Int32) [.double b0, .double b1, .double b2] (.double 0))  :
    Own.Con l Z mn_6 [] prog_48_method_9_code 1 (some .double) ({ frames := 0, cells := 0, slots := 0, locals := 0 } : Room) #[.ref a] h0 n0 (fun v h => v = some (.double b1) ∧ h0 = h) := by
  refine Own.enter (own := "com/example/allocus/allocus/method/Population") (nm := "bestObjective") (plainFor_of_name pn_com_example_allocus_allocus_method_Population) rfl rfl (fun m => ef_8_1 m a) fun p e s m below meth c T X => ?_
  refine Own.aloadN X d8_0 rfl rfl ?_
  refine Own.getF_ X d8_1 (host := "") (Or.inl (Own.wd hw 24 rfl)) Via.refl fc0 fun T1 X1 => ?_
  clear X
  refine Own.aloadN X1 d8_4 rfl rfl ?_
  refine Own.getF_ X1 d8_5 (host := "") (Or.inl (Own.wd hw 48 rfl)) Via.refl fc1 fun T2 X2 => ?_
  clear X1
  refine Own.daload_ X2 d8_8 fc2 (by decide) rfl ?_
  exact Own.retD X2 d8_9 ⟨rfl, rfl⟩ (by decide) (by decide)
theorem ef_9_1 (m : MethodId) (x0 : Addr) : entryFrame m #[.ref x0] 1 = mkF m 0 #[.val (.ref x0)] [] := by first | (simp [entryFrame, mkF, argsToLocals, Value.category, maxLocals]; done) | rfl
set_option maxRecDepth 65536 in
set_option maxHeartbeats 40000000 in
theorem rm9_1 (l : Launch) (Z : State) (a0 : Array Value) (hw : ∀ d ∈ tables_1, d.before a0 Z = true) (a : Addr) (pl : Addr) (x0 : Addr) (x1 : Addr) (x2 : Addr) (k_pl : ClassId) (c_pl : ClassId) (u10 : Int32) (u11 : Int32) (h0 : Heap) (n0 : Nat) (Z0 : n0 ≤ h0.size) (fc0 : Fld Z h0 a "com/example/allocus/allocus/method/Population" "plans" "[[I" (.ref pl)) (fc1 : Fld Z h0 a "com/example/allocus/allocus/method/Population" "best" "I" (.int (1 : Int32))) (fc2 : Arv Z h0 pl k_pl (.array .int) (3 : Int32) [.ref x0, .ref x1, .ref x2] (.null)) (fc3 : Arv Z h0 x1 c_pl .int (2 : Int32) [.int u10, .int u11] (.int (0 : Int32))) (fc4 : Exa Z h0 x1 "[I")  :
    Own.Con l Z mn_7 [] prog_48_method_8_code 1 (some (.array .int)) ({ frames := 1, cells := 1, slots := 2, locals := 14 } : Room) #[.ref a] h0 n0 (fun v h => ∃ (cl : Addr), v = some (.ref cl) ∧ Keep h0 h [] ∧ h0.size ≤ cl ∧ Arv Z h cl c_pl .int (2 : Int32) [.int u10, .int u11] (.int (0 : Int32))) := by
  refine Own.enter (own := "com/example/allocus/allocus/method/Population") (nm := "best") (plainFor_of_name pn_com_example_allocus_allocus_method_Population) rfl rfl (fun m => ef_9_1 m a) fun p e s m below meth c T X => ?_
  refine Own.aloadN X d9_0 rfl rfl ?_
  refine Own.getF_ X d9_1 (host := "") (Or.inl (Own.wd hw 21 rfl)) Via.refl fc0 fun T1 X1 => ?_
  clear X
  refine Own.aloadN X1 d9_4 rfl rfl ?_
  refine Own.getF_ X1 d9_5 (host := "") (Or.inl (Own.wd hw 48 rfl)) Via.refl fc1 fun T2 X2 => ?_
  clear X1
  refine Own.aaload_ X2 d9_8 fc2 rfl (by decide) rfl ?_
  refine Own.clone_ X2 (cap := 2) d9_9 (Own.wd hw 65 rfl) (Own.wd hw 66 rfl) (Own.wd hw 70 rfl) (Own.wd hw 68 rfl) (Own.wd hw 69 rfl) (Own.wd hw 71 rfl) fc3 fc4 rfl (by decide) (W := 0) (Nat.le_of_eq rfl) (by decide) (by decide) (by decide) (by decide) fun T3 h3 cl g_cl X3 E3 V3 A3 => ?_
  have ne4 : a ≠ cl := Nat.ne_of_lt (Nat.lt_of_lt_of_le fc0.lt (Nat.le_of_eq g_cl.symm))
  have ne5 : pl ≠ cl := Nat.ne_of_lt (Nat.lt_of_lt_of_le fc2.lt (Nat.le_of_eq g_cl.symm))
  have ne6 : x1 ≠ cl := Nat.ne_of_lt (Nat.lt_of_lt_of_le fc3.lt (Nat.le_of_eq g_cl.symm))
  have fr7 : n0 ≤ cl := Nat.le_trans Z0 (Nat.le_of_eq g_cl.symm)
  have bn8 : h0.size ≤ cl := Nat.le_trans (Keep.refl h0 []).1 (Nat.le_of_eq g_cl.symm)
  have F9 := fc0.ext E3
  have F10 := fc1.ext E3
  have F11 := fc2.ext E3
  have F12 := fc3.ext E3
  have F13 := fc4.ext E3
  have F14 := (Keep.refl h0 []).ext E3
  have Z15 : n0 ≤ h3.size := Nat.le_trans Z0 E3.1
  clear X2 fc0 fc1 fc2 fc3 fc4
  refine Own.cast_ X3 d9_12 (Own.wd hw 72 rfl) (Ins.self A3) fun T16 X16 => ?_
  clear X3
  exact Own.retA X16 d9_15 rfl rfl rfl ⟨cl, rfl, F14, bn8, V3⟩ (by decide) (by decide)
theorem ef_8_2 (m : MethodId) (x0 : Addr) : entryFrame m #[.ref x0] 1 = mkF m 0 #[.val (.ref x0)] [] := by first | (simp [entryFrame, mkF, argsToLocals, Value.category, maxLocals]; done) | rfl
set_option maxRecDepth 65536 in
set_option maxHeartbeats 40000000 in
theorem rm8_2 (l : Launch) (Z : State) (a0 : Array Value) (hw : ∀ d ∈ tables_1, d.before a0 Z = true) (a : Addr) (oa : Addr) (k_oa : ClassId) (b0 : UInt64) (b1 : UInt64) (b2 : UInt64) (h0 : Heap) (n0 : Nat) (Z0 : n0 ≤ h0.size) (fc0 : Fld Z h0 a "com/example/allocus/allocus/method/Population" "objectives" "[D" (.ref oa)) (fc1 : Fld Z h0 a "com/example/allocus/allocus/method/Population" "best" "I" (.int (2 : Int32))) (fc2 : Arv Z h0 oa k_oa .double (3 : Int32) [.double b0, .double b1, .double b2] (.double 0))  :
    Own.Con l Z mn_6 [] prog_48_method_9_code 1 (some .double) ({ frames := 0, cells := 0, slots := 0, locals := 0 } : Room) #[.ref a] h0 n0 (fun v h => v = some (.double b2) ∧ h0 = h) := by
  refine Own.enter (own := "com/example/allocus/allocus/method/Population") (nm := "bestObjective") (plainFor_of_name pn_com_example_allocus_allocus_method_Population) rfl rfl (fun m => ef_8_2 m a) fun p e s m below meth c T X => ?_
  refine Own.aloadN X d8_0 rfl rfl ?_
  refine Own.getF_ X d8_1 (host := "") (Or.inl (Own.wd hw 24 rfl)) Via.refl fc0 fun T1 X1 => ?_
  clear X
  refine Own.aloadN X1 d8_4 rfl rfl ?_
  refine Own.getF_ X1 d8_5 (host := "") (Or.inl (Own.wd hw 48 rfl)) Via.refl fc1 fun T2 X2 => ?_
  clear X1
  refine Own.daload_ X2 d8_8 fc2 (by decide) rfl ?_
  exact Own.retD X2 d8_9 ⟨rfl, rfl⟩ (by decide) (by decide)
theorem ef_9_2 (m : MethodId) (x0 : Addr) : entryFrame m #[.ref x0] 1 = mkF m 0 #[.val (.ref x0)] [] := by first | (simp [entryFrame, mkF, argsToLocals, Value.category, maxLocals]; done) | rfl
set_option maxRecDepth 65536 in
set_option maxHeartbeats 40000000 in
theorem rm9_2 (l : Launch) (Z : State) (a0 : Array Value) (hw : ∀ d ∈ tables_1, d.before a0 Z = true) (a : Addr) (pl : Addr) (x0 : Addr) (x1 : Addr) (x2 : Addr) (k_pl : ClassId) (c_pl : ClassId) (u20 : Int32) (u21 : Int32) (h0 : Heap) (n0 : Nat) (Z0 : n0 ≤ h0.size) (fc0 : Fld Z h0 a "com/example/allocus/allocus/method/Population" "plans" "[[I" (.ref pl)) (fc1 : Fld Z h0 a "com/example/allocus/allocus/method/Population" "best" "I" (.int (2 : Int32))) (fc2 : Arv Z h0 pl k_pl (.array .int) (3 : Int32) [.ref x0, .ref x1, .ref x2] (.null)) (fc3 : Arv Z h0 x2 c_pl .int (2 : Int32) [.int u20, .int u21] (.int (0 : Int32))) (fc4 : Exa Z h0 x2 "[I")  :
    Own.Con l Z mn_7 [] prog_48_method_8_code 1 (some (.array .int)) ({ frames := 1, cells := 1, slots := 2, locals := 14 } : Room) #[.ref a] h0 n0 (fun v h => ∃ (cl : Addr), v = some (.ref cl) ∧ Keep h0 h [] ∧ h0.size ≤ cl ∧ Arv Z h cl c_pl .int (2 : Int32) [.int u20, .int u21] (.int (0 : Int32))) := by
  refine Own.enter (own := "com/example/allocus/allocus/method/Population") (nm := "best") (plainFor_of_name pn_com_example_allocus_allocus_method_Population) rfl rfl (fun m => ef_9_2 m a) fun p e s m below meth c T X => ?_
  refine Own.aloadN X d9_0 rfl rfl ?_
  refine Own.getF_ X d9_1 (host := "") (Or.inl (Own.wd hw 21 rfl)) Via.refl fc0 fun T1 X1 => ?_
  clear X
  refine Own.aloadN X1 d9_4 rfl rfl ?_
  refine Own.getF_ X1 d9_5 (host := "") (Or.inl (Own.wd hw 48 rfl)) Via.refl fc1 fun T2 X2 => ?_
  clear X1
  refine Own.aaload_ X2 d9_8 fc2 rfl (by decide) rfl ?_
  refine Own.clone_ X2 (cap := 2) d9_9 (Own.wd hw 65 rfl) (Own.wd hw 66 rfl) (Own.wd hw 70 rfl) (Own.wd hw 68 rfl) (Own.wd hw 69 rfl) (Own.wd hw 71 rfl) fc3 fc4 rfl (by decide) (W := 0) (Nat.le_of_eq rfl) (by decide) (by decide) (by decide) (by decide) fun T3 h3 cl g_cl X3 E3 V3 A3 => ?_
  have ne4 : a ≠ cl := Nat.ne_of_lt (Nat.lt_of_lt_of_le fc0.lt (Nat.le_of_eq g_cl.symm))
  have ne5 : pl ≠ cl := Nat.ne_of_lt (Nat.lt_of_lt_of_le fc2.lt (Nat.le_of_eq g_cl.symm))
  have ne6 : x2 ≠ cl := Nat.ne_of_lt (Nat.lt_of_lt_of_le fc3.lt (Nat.le_of_eq g_cl.symm))
  have fr7 : n0 ≤ cl := Nat.le_trans Z0 (Nat.le_of_eq g_cl.symm)
  have bn8 : h0.size ≤ cl := Nat.le_trans (Keep.refl h0 []).1 (Nat.le_of_eq g_cl.symm)
  have F9 := fc0.ext E3
  have F10 := fc1.ext E3
  have F11 := fc2.ext E3
  have F12 := fc3.ext E3
  have F13 := fc4.ext E3
  have F14 := (Keep.refl h0 []).ext E3
  have Z15 : n0 ≤ h3.size := Nat.le_trans Z0 E3.1
  clear X2 fc0 fc1 fc2 fc3 fc4
  refine Own.cast_ X3 d9_12 (Own.wd hw 72 rfl) (Ins.self A3) fun T16 X16 => ?_
  clear X3
  exact Own.retA X16 d9_15 rfl rfl rfl ⟨cl, rfl, F14, bn8, V3⟩ (by decide) (by decide)
theorem ef_13_0 (m : MethodId) (x0 : Addr) (x1 : Int32) : entryFrame m #[.ref x0, .int x1] 2 = mkF m 0 #[.val (.ref x0), .val (.int x1)] [] := by first | (simp [entryFrame, mkF, argsToLocals, Value.category, maxLocals]; done) | rfl
set_option maxRecDepth 65536 in
set_option maxHeartbeats 40000000 in
theorem rm13_0 (l : Launch) (Z : State) (a0 : Array Value) (hw : ∀ d ∈ tables_1, d.before a0 Z = true) (a : Addr) (pl : Addr) (x0 : Addr) (x1 : Addr) (x2 : Addr) (k_pl : ClassId) (h0 : Heap) (n0 : Nat) (Z0 : n0 ≤ h0.size) (fc0 : Fld Z h0 a "com/example/allocus/allocus/method/Population" "plans" "[[I" (.ref pl)) (fc1 : Arv Z h0 pl k_pl (.array .int) (3 : Int32) [.ref x0, .ref x1, .ref x2] (.null))  :
    Own.Con l Z mn_8 [] prog_48_method_7_code 2 (some (.array .int)) ({ frames := 0, cells := 0, slots := 0, locals := 0 } : Room) #[.ref a, .int (0 : Int32)] h0 n0 (fun v h => v = some (.ref x0) ∧ h0 = h) := by
  refine Own.enter (own := "com/example/allocus/allocus/method/Population") (nm := "plan") (plainFor_of_name pn_com_example_allocus_allocus_method_Population) rfl rfl (fun m => ef_13_0 m a (0 : Int32)) fun p e s m below meth c T X => ?_
  refine Own.aloadN X d13_0 rfl rfl ?_
  refine Own.getF_ X d13_1 (host := "") (Or.inl (Own.wd hw 21 rfl)) Via.refl fc0 fun T1 X1 => ?_
  clear X
  refine Own.iloadN X1 d13_4 rfl ?_
  refine Own.aaload_ X1 d13_5 fc1 rfl (by decide) rfl ?_
  exact Own.retA X1 d13_6 rfl rfl rfl ⟨rfl, rfl⟩ (by decide) (by decide)
theorem ef_13_1 (m : MethodId) (x0 : Addr) (x1 : Int32) : entryFrame m #[.ref x0, .int x1] 2 = mkF m 0 #[.val (.ref x0), .val (.int x1)] [] := by first | (simp [entryFrame, mkF, argsToLocals, Value.category, maxLocals]; done) | rfl
set_option maxRecDepth 65536 in
set_option maxHeartbeats 40000000 in
theorem rm13_1 (l : Launch) (Z : State) (a0 : Array Value) (hw : ∀ d ∈ tables_1, d.before a0 Z = true) (a : Addr) (pl : Addr) (x0 : Addr) (x1 : Addr) (x2 : Addr) (k_pl : ClassId) (h0 : Heap) (n0 : Nat) (Z0 : n0 ≤ h0.size) (fc0 : Fld Z h0 a "com/example/allocus/allocus/method/Population" "plans" "[[I" (.ref pl)) (fc1 : Arv Z h0 pl k_pl (.array .int) (3 : Int32) [.ref x0, .ref x1, .ref x2] (.null))  :
    Own.Con l Z mn_8 [] prog_48_method_7_code 2 (some (.array .int)) ({ frames := 0, cells := 0, slots := 0, locals := 0 } : Room) #[.ref a, .int (1 : Int32)] h0 n0 (fun v h => v = some (.ref x1) ∧ h0 = h) := by
  refine Own.enter (own := "com/example/allocus/allocus/method/Population") (nm := "plan") (plainFor_of_name pn_com_example_allocus_allocus_method_Population) rfl rfl (fun m => ef_13_1 m a (1 : Int32)) fun p e s m below meth c T X => ?_
  refine Own.aloadN X d13_0 rfl rfl ?_
  refine Own.getF_ X d13_1 (host := "") (Or.inl (Own.wd hw 21 rfl)) Via.refl fc0 fun T1 X1 => ?_
  clear X
  refine Own.iloadN X1 d13_4 rfl ?_
  refine Own.aaload_ X1 d13_5 fc1 rfl (by decide) rfl ?_
  exact Own.retA X1 d13_6 rfl rfl rfl ⟨rfl, rfl⟩ (by decide) (by decide)
theorem ef_13_2 (m : MethodId) (x0 : Addr) (x1 : Int32) : entryFrame m #[.ref x0, .int x1] 2 = mkF m 0 #[.val (.ref x0), .val (.int x1)] [] := by first | (simp [entryFrame, mkF, argsToLocals, Value.category, maxLocals]; done) | rfl
set_option maxRecDepth 65536 in
set_option maxHeartbeats 40000000 in
theorem rm13_2 (l : Launch) (Z : State) (a0 : Array Value) (hw : ∀ d ∈ tables_1, d.before a0 Z = true) (a : Addr) (pl : Addr) (x0 : Addr) (x1 : Addr) (x2 : Addr) (k_pl : ClassId) (h0 : Heap) (n0 : Nat) (Z0 : n0 ≤ h0.size) (fc0 : Fld Z h0 a "com/example/allocus/allocus/method/Population" "plans" "[[I" (.ref pl)) (fc1 : Arv Z h0 pl k_pl (.array .int) (3 : Int32) [.ref x0, .ref x1, .ref x2] (.null))  :
    Own.Con l Z mn_8 [] prog_48_method_7_code 2 (some (.array .int)) ({ frames := 0, cells := 0, slots := 0, locals := 0 } : Room) #[.ref a, .int (2 : Int32)] h0 n0 (fun v h => v = some (.ref x2) ∧ h0 = h) := by
  refine Own.enter (own := "com/example/allocus/allocus/method/Population") (nm := "plan") (plainFor_of_name pn_com_example_allocus_allocus_method_Population) rfl rfl (fun m => ef_13_2 m a (2 : Int32)) fun p e s m below meth c T X => ?_
  refine Own.aloadN X d13_0 rfl rfl ?_
  refine Own.getF_ X d13_1 (host := "") (Or.inl (Own.wd hw 21 rfl)) Via.refl fc0 fun T1 X1 => ?_
  clear X
  refine Own.iloadN X1 d13_4 rfl ?_
  refine Own.aaload_ X1 d13_5 fc1 rfl (by decide) rfl ?_
  exact Own.retA X1 d13_6 rfl rfl rfl ⟨rfl, rfl⟩ (by decide) (by decide)
theorem ef_12 (m : MethodId) (x0 : Addr) (x1 : Addr) (x2 : UInt64) : entryFrame m #[.ref x0, .ref x1, .double x2] 5 = mkF m 0 #[.val (.ref x0), .val (.ref x1), .val (.double x2), .second, .unset] [] := by first | (simp [entryFrame, mkF, argsToLocals, Value.category, maxLocals]; done) | rfl
set_option maxRecDepth 65536 in
set_option maxHeartbeats 40000000 in
theorem rm12 (l : Launch) (Z : State) (a0 : Array Value) (hw : ∀ d ∈ tables_1, d.before a0 Z = true) (a : Addr) (si : Addr) (dv : UInt64) (oa : Addr) (k_oa : ClassId) (b0 : UInt64) (b1 : UInt64) (b2 : UInt64) (h0 : Heap) (n0 : Nat) (Z0 : n0 ≤ h0.size) (fc0 : Fld Z h0 a "com/example/allocus/allocus/method/Population" "objectives" "[D" (.ref oa)) (fc1 : Fld Z h0 a "com/example/allocus/allocus/method/Population" "count" "I" (.int (3 : Int32))) (fc2 : Arv Z h0 oa k_oa .double (3 : Int32) [.double b0, .double b1, .double b2] (.double 0)) (n_dv : NoNaN64 dv) (n_b0 : NoNaN64 b0) (n_b1 : NoNaN64 b1) (n_b2 : NoNaN64 b2) (c0 : Own.dz dv < Own.dz b0) (c1 : Own.dz dv < Own.dz b1) (c2 : Own.dz dv < Own.dz b2) :
    Own.Con l Z mn_9 [] prog_48_method_11_code 5 (some .boolean) ({ frames := 0, cells := 0, slots := 0, locals := 0 } : Room) #[.ref a, .ref si, .double dv] h0 n0 (fun v h => v = some (.int (0 : Int32)) ∧ h0 = h) := by
  refine Own.enter (own := "com/example/allocus/allocus/method/Population") (nm := "isMember") (plainFor_of_name pn_com_example_allocus_allocus_method_Population) rfl rfl (fun m => ef_12 m a si dv) fun p e s m below meth c T X => ?_
  refine Own.iconst X (v := 0) d12_0 rfl ?_
  refine Own.istore X d12_1 (l' := #[.val (.ref a), .val (.ref si), .val (.double dv), .second, .val (.int (0 : Int32))]) rfl ?_
  refine Own.iload X d12_3 rfl ?_
  refine Own.aloadN X d12_5 rfl rfl ?_
  refine Own.getF_ X d12_6 (host := "") (Or.inl (Own.wd hw 34 rfl)) Via.refl fc1 fun T1 X1 => ?_
  clear X
  refine Own.icmp_ X1 (pc' := 46) d12_9 (by decide) (fun q => absurd (show (3 : Int) ≤ (0 : Int) from q) (show ¬ ((3 : Int) ≤ (0 : Int)) from by decide)) (fun _ => ?_)
  refine Own.aloadN X1 d12_12 rfl rfl ?_
  refine Own.getF_ X1 d12_13 (host := "") (Or.inl (Own.wd hw 24 rfl)) Via.refl fc0 fun T2 X2 => ?_
  clear X1
  refine Own.iload X2 d12_16 rfl ?_
  refine Own.daload_ X2 d12_18 fc2 (by decide) rfl ?_
  refine Own.dloadN X2 d12_19 rfl ?_
  refine Own.dcmpF X2 (pc' := 40) d12_20 d12_21 (by decide) n_b0 n_dv (fun _ => ?_) (fun q => absurd (show ¬ (Own.dz b0 = Own.dz dv) from by omega) q)
  refine Own.iinc X2 d12_40 rfl (l' := #[.val (.ref a), .val (.ref si), .val (.double dv), .second, .val (.int (1 : Int32))]) rfl ?_
  refine Own.goto_ X2 (pc' := 3) d12_43 (by decide) ?_
  refine Own.iload X2 d12_3 rfl ?_
  refine Own.aloadN X2 d12_5 rfl rfl ?_
  refine Own.getF_ X2 d12_6 (host := "") (Or.inl (Own.wd hw 34 rfl)) Via.refl fc1 fun T3 X3 => ?_
  clear X2
  refine Own.icmp_ X3 (pc' := 46) d12_9 (by decide) (fun q => absurd (show (3 : Int) ≤ (1 : Int) from q) (show ¬ ((3 : Int) ≤ (1 : Int)) from by decide)) (fun _ => ?_)
  refine Own.aloadN X3 d12_12 rfl rfl ?_
  refine Own.getF_ X3 d12_13 (host := "") (Or.inl (Own.wd hw 24 rfl)) Via.refl fc0 fun T4 X4 => ?_
  clear X3
  refine Own.iload X4 d12_16 rfl ?_
  refine Own.daload_ X4 d12_18 fc2 (by decide) rfl ?_
  refine Own.dloadN X4 d12_19 rfl ?_
  refine Own.dcmpF X4 (pc' := 40) d12_20 d12_21 (by decide) n_b1 n_dv (fun _ => ?_) (fun q => absurd (show ¬ (Own.dz b1 = Own.dz dv) from by omega) q)
  refine Own.iinc X4 d12_40 rfl (l' := #[.val (.ref a), .val (.ref si), .val (.double dv), .second, .val (.int (2 : Int32))]) rfl ?_
  refine Own.goto_ X4 (pc' := 3) d12_43 (by decide) ?_
  refine Own.iload X4 d12_3 rfl ?_
  refine Own.aloadN X4 d12_5 rfl rfl ?_
  refine Own.getF_ X4 d12_6 (host := "") (Or.inl (Own.wd hw 34 rfl)) Via.refl fc1 fun T5 X5 => ?_
  clear X4
  refine Own.icmp_ X5 (pc' := 46) d12_9 (by decide) (fun q => absurd (show (3 : Int) ≤ (2 : Int) from q) (show ¬ ((3 : Int) ≤ (2 : Int)) from by decide)) (fun _ => ?_)
  refine Own.aloadN X5 d12_12 rfl rfl ?_
  refine Own.getF_ X5 d12_13 (host := "") (Or.inl (Own.wd hw 24 rfl)) Via.refl fc0 fun T6 X6 => ?_
  clear X5
  refine Own.iload X6 d12_16 rfl ?_
  refine Own.daload_ X6 d12_18 fc2 (by decide) rfl ?_
  refine Own.dloadN X6 d12_19 rfl ?_
  refine Own.dcmpF X6 (pc' := 40) d12_20 d12_21 (by decide) n_b2 n_dv (fun _ => ?_) (fun q => absurd (show ¬ (Own.dz b2 = Own.dz dv) from by omega) q)
  refine Own.iinc X6 d12_40 rfl (l' := #[.val (.ref a), .val (.ref si), .val (.double dv), .second, .val (.int (3 : Int32))]) rfl ?_
  refine Own.goto_ X6 (pc' := 3) d12_43 (by decide) ?_
  refine Own.iload X6 d12_3 rfl ?_
  refine Own.aloadN X6 d12_5 rfl rfl ?_
  refine Own.getF_ X6 d12_6 (host := "") (Or.inl (Own.wd hw 34 rfl)) Via.refl fc1 fun T7 X7 => ?_
  clear X6
  refine Own.icmp_ X7 (pc' := 46) d12_9 (by decide) (fun _ => ?_) (fun q => absurd (show (3 : Int) ≤ (3 : Int) from by decide) q)
  refine Own.iconst X7 (v := 0) d12_46 rfl ?_
  exact Own.retB X7 d12_47 (by decide) ⟨rfl, rfl⟩ (by decide) (by decide)
theorem ef_11_0N (m : MethodId) (x0 : Addr) (x1 : Addr) (x2 : UInt64) : entryFrame m #[.ref x0, .ref x1, .double x2] 7 = mkF m 0 #[.val (.ref x0), .val (.ref x1), .val (.double x2), .second, .unset, .unset, .unset] [] := by first | (simp [entryFrame, mkF, argsToLocals, Value.category, maxLocals]; done) | rfl
set_option maxRecDepth 65536 in
set_option maxHeartbeats 40000000 in
theorem rm11_0N (l : Launch) (Z : State) (a0 : Array Value) (hw : ∀ d ∈ tables_1, d.before a0 Z = true) (a : Addr) (si : Addr) (dv : UInt64) (pl : Addr) (oa : Addr) (na : Addr) (x0 : Addr) (x1 : Addr) (x2 : Addr) (k_pl : ClassId) (c_pl : ClassId) (k_oa : ClassId) (k_na : ClassId) (b0 : UInt64) (b1 : UInt64) (b2 : UInt64) (m0 : Int64) (m1 : Int64) (m2 : Int64) (eJ : Int64) (k_si : ClassId) (y0 : Int32) (y1 : Int32) (be : Int32) (u00 : Int32) (u01 : Int32) (h0 : Heap) (n0 : Nat) (Z0 : n0 ≤ h0.size) (fc0 : Exa Z h0 a "com/example/allocus/allocus/method/Population") (fc1 : Fld Z h0 a "com/example/allocus/allocus/method/Population" "plans" "[[I" (.ref pl)) (fc2 : Fld Z h0 a "com/example/allocus/allocus/method/Population" "objectives" "[D" (.ref oa)) (fc3 : Fld Z h0 a "com/example/allocus/allocus/method/Population" "entered" "[J" (.ref na)) (fc4 : Fld Z h0 a "com/example/allocus/allocus/method/Population" "count" "I" (.int (3 : Int32))) (fc5 : Fld Z h0 a "com/example/allocus/allocus/method/Population" "entries" "J" (.long eJ)) (fc6 : Fld Z h0 a "com/example/allocus/allocus/method/Population" "worst" "I" (.int (0 : Int32))) (fc7 : Fld Z h0 a "com/example/allocus/allocus/method/Population" "best" "I" (.int be)) (fc8 : Arv Z h0 pl k_pl (.array .int) (3 : Int32) [.ref x0, .ref x1, .ref x2] (.null)) (fc9 : Arv Z h0 x0 c_pl .int (2 : Int32) [.int u00, .int u01] (.int (0 : Int32))) (fc10 : Arv Z h0 oa k_oa .double (3 : Int32) [.double b0, .double b1, .double b2] (.double 0)) (fc11 : Arv Z h0 na k_na .long (3 : Int32) [.long m0, .long m1, .long m2] (.long (0 : Int64))) (fc12 : Arv Z h0 si k_si .int (2 : Int32) [.int y0, .int y1] (.int (0 : Int32))) (nq0 : a ≠ pl) (nq1 : a ≠ oa) (nq2 : a ≠ na) (nq3 : a ≠ x0) (nq4 : a ≠ x1) (nq5 : a ≠ x2) (nq6 : pl ≠ oa) (nq7 : pl ≠ na) (nq8 : pl ≠ x0) (nq9 : pl ≠ x1) (nq10 : pl ≠ x2) (nq11 : oa ≠ na) (nq12 : oa ≠ x0) (nq13 : oa ≠ x1) (nq14 : oa ≠ x2) (nq15 : na ≠ x0) (nq16 : na ≠ x1) (nq17 : na ≠ x2) (nq18 : x0 ≠ x1) (nq19 : x0 ≠ x2) (nq20 : x1 ≠ x2) (nq21 : si ≠ a) (nq22 : si ≠ pl) (nq23 : si ≠ oa) (nq24 : si ≠ na) (nq25 : si ≠ x0) (nq26 : si ≠ x1) (nq27 : si ≠ x2) (fq0 : n0 ≤ a) (fq1 : n0 ≤ x0) (fq2 : n0 ≤ x1) (fq3 : n0 ≤ x2) (fq4 : n0 ≤ oa) (fq5 : n0 ≤ na) (n_dv : NoNaN64 dv) (n_b0 : NoNaN64 b0) (n_b1 : NoNaN64 b1) (n_b2 : NoNaN64 b2) (c0 : Own.dz dv < Own.dz b0) (c1 : Own.dz dv < Own.dz b1) (c2 : Own.dz dv < Own.dz b2) (bx : UInt64) (hj : ¬ be < 0 ∧ be < (3 : Int32)) (hv : ([.double b0, .double b1, .double b2] : List Value).getD be.toNatClampNeg (.double 0) = .double bx) (n_bx : NoNaN64 bx) (cx : Own.dz dv < Own.dz bx) :
    Own.Con l Z mn_11 [] prog_48_method_6_code 7 (some .boolean) ({ frames := 2, cells := 0, slots := 0, locals := 48 } : Room) #[.ref a, .ref si, .double dv] h0 n0 (fun v h => v = some (.int (1 : Int32)) ∧ Keep h0 h [a, x0, oa, na] ∧ Fld Z h a "com/example/allocus/allocus/method/Population" "plans" "[[I" (.ref pl) ∧ Fld Z h a "com/example/allocus/allocus/method/Population" "best" "I" (.int (0 : Int32)) ∧ Arv Z h x0 c_pl .int (2 : Int32) [.int y0, .int y1] (.int (0 : Int32))) := by
  refine Own.enter (own := "com/example/allocus/allocus/method/Population") (nm := "offer") (plainFor_of_name pn_com_example_allocus_allocus_method_Population) rfl rfl (fun m => ef_11_0N m a si dv) fun p e s m below meth c T X => ?_
  refine Own.dloadN X d11_0 rfl ?_
  refine Own.aloadN X d11_1 rfl rfl ?_
  refine Own.getF_ X d11_2 (host := "") (Or.inl (Own.wd hw 24 rfl)) Via.refl fc2 fun T1 X1 => ?_
  clear X
  refine Own.aloadN X1 d11_5 rfl rfl ?_
  refine Own.getF_ X1 d11_6 (host := "") (Or.inl (Own.wd hw 46 rfl)) Via.refl fc6 fun T2 X2 => ?_
  clear X1
  refine Own.daload_ X2 d11_9 fc10 (by decide) rfl ?_
  refine Own.dcmpF X2 (pc' := 23) d11_10 d11_11 (by decide) n_dv n_b0 (fun q => absurd (show Own.dz b0 ≤ Own.dz dv from q) (show ¬ (Own.dz b0 ≤ Own.dz dv) from by omega)) (fun _ => ?_)
  refine Own.aloadN X2 d11_14 rfl rfl ?_
  refine Own.aloadN X2 d11_15 rfl rfl ?_
  refine Own.dloadN X2 d11_16 rfl ?_
  refine Own.callP_ (y := mn_9) (D := "com/example/allocus/allocus/method/Population") (z' := mn_4) (z := mn_4) (a := a) X2 d11_17 (Own.wd hw 82 rfl) (Own.wd hw 83 rfl) (Own.wd hw 32 rfl) rfl (Own.wd hw 84 rfl) (Own.wd hw 12 rfl) (Own.wd hw 85 rfl) (by decide) fc0 (rm12 l Z a0 hw a si dv oa k_oa b0 b1 b2 h0 n0 Z0 fc2 fc4 fc10 n_dv n_b0 n_b1 n_b2 c0 c1 c2) (lenOf pd_10 rfl) rfl (argsL := [.ref si, .double dv]) (rest := []) rfl (W := 0) (Nat.le_of_eq rfl) (by decide) (by decide) (by decide) (by decide) fun T3 h3 v3 X3 q3 => ?_
  obtain ⟨rfl, rfl⟩ := q3
  show Own.Go p e below s n0 _ _ _ (T3.setTop (mkF m 20 _ [.int (0 : Int32)]))
  clear X2
  refine Own.iff_ X3 (pc' := 25) d11_20 (by decide) (fun _ => ?_) (fun q => absurd (show (0 : Int) = (0 : Int) from by decide) q)
  refine Own.dloadN X3 d11_25 rfl ?_
  refine Own.aloadN X3 d11_26 rfl rfl ?_
  refine Own.getF_ X3 d11_27 (host := "") (Or.inl (Own.wd hw 24 rfl)) Via.refl fc2 fun T4 X4 => ?_
  clear X3
  refine Own.aloadN X4 d11_30 rfl rfl ?_
  refine Own.getF_ X4 d11_31 (host := "") (Or.inl (Own.wd hw 48 rfl)) Via.refl fc7 fun T5 X5 => ?_
  clear X4
  refine Own.daload_ X5 d11_34 fc10 hj hv ?_
  refine Own.dcmpF X5 (pc' := 43) d11_35 d11_36 (by decide) n_dv n_bx (fun q => absurd (show Own.dz bx ≤ Own.dz dv from q) (show ¬ (Own.dz bx ≤ Own.dz dv) from by omega)) (fun _ => ?_)
  refine Own.iconst X5 (v := 1) d11_39 rfl ?_
  refine Own.goto_ X5 (pc' := 44) d11_40 (by decide) ?_
  refine Own.istore X5 d11_44 (l' := #[.val (.ref a), .val (.ref si), .val (.double dv), .second, .val (.int (1 : Int32)), .unset, .unset]) rfl ?_
  refine Own.aloadN X5 d11_46 rfl rfl ?_
  refine Own.getF_ X5 d11_47 (host := "") (Or.inl (Own.wd hw 46 rfl)) Via.refl fc6 fun T6 X6 => ?_
  clear X5
  refine Own.istore X6 d11_50 (l' := #[.val (.ref a), .val (.ref si), .val (.double dv), .second, .val (.int (1 : Int32)), .val (.int (0 : Int32)), .unset]) rfl ?_
  refine Own.aloadN X6 d11_52 rfl rfl ?_
  refine Own.iload X6 d11_53 rfl ?_
  refine Own.aloadN X6 d11_55 rfl rfl ?_
  refine Own.dloadN X6 d11_56 rfl ?_
  refine Own.callP_ (y := mn_2) (D := "com/example/allocus/allocus/method/Population") (z' := mn_4) (z := mn_4) (a := a) X6 d11_57 (Own.wd hw 36 rfl) (Own.wd hw 37 rfl) (Own.wd hw 32 rfl) rfl (Own.wd hw 38 rfl) (Own.wd hw 12 rfl) (Own.wd hw 39 rfl) (by decide) fc0 (rm6_0 l Z a0 hw a si dv pl oa na x0 x1 x2 k_pl c_pl k_oa k_na b0 b1 b2 m0 m1 m2 eJ k_si y0 y1 u00 u01 (3 : Int32) (0 : Int32) be h0 n0 Z0 fc0 fc1 fc2 fc3 fc4 fc5 fc6 fc7 fc8 fc9 fc10 fc11 fc12 nq0 nq1 nq2 nq3 nq4 nq5 nq6 nq7 nq8 nq9 nq10 nq11 nq12 nq13 nq14 nq15 nq16 nq17 nq18 nq19 nq20 nq21 nq22 nq23 nq24 nq25 nq26 nq27 fq0 fq1 fq2 fq3 fq4 fq5 ) (lenOf pd_3 rfl) rfl (argsL := [.int (0 : Int32), .ref si, .double dv]) (rest := []) rfl (W := 0) (Nat.le_of_eq rfl) (by decide) (by decide) (by decide) (by decide) fun T7 h7 v7 X7 q7 => ?_
  obtain ⟨rfl, K7, G7_0, G7_1, G7_2, G7_3, G7_4, G7_5, G7_6, G7_7, G7_8, G7_9⟩ := q7
  have F8 := fc0.keep K7
  have F9 := fc8.keep K7 (ninS (Ne.symm nq0) (ninS nq8 (ninS nq6 (ninS nq7 nin0))))
  have F10 := fc12.keep K7 (ninS nq21 (ninS nq25 (ninS nq23 (ninS nq24 nin0))))
  have F11 := (Keep.refl h0 [a, x0, oa, na]).trans K7 (allS (Or.inl (List.mem_of_getElem? (i := 0) rfl)) (allS (Or.inl (List.mem_of_getElem? (i := 1) rfl)) (allS (Or.inl (List.mem_of_getElem? (i := 2) rfl)) (allS (Or.inl (List.mem_of_getElem? (i := 3) rfl)) all0))))
  have Z12 : n0 ≤ h7.size := Nat.le_trans Z0 K7.1
  show Own.Go p e below s n0 _ _ _ (T7.setTop (mkF m 60 _ []))
  clear X6 fc0 fc1 fc10 fc11 fc12 fc2 fc3 fc4 fc5 fc6 fc7 fc8 fc9
  refine Own.iload X7 d11_60 rfl ?_
  refine Own.iff_ X7 (pc' := 71) d11_62 (by decide) (fun q => absurd (show (1 : Int) = (0 : Int) from q) (show ¬ ((1 : Int) = (0 : Int)) from by decide)) (fun _ => ?_)
  refine Own.aloadN X7 d11_65 rfl rfl ?_
  refine Own.iload X7 d11_66 rfl ?_
  refine Own.putF_ X7 d11_68 (host := "") (Or.inl (Own.wd hw 48 rfl)) Via.refl G7_6 F8 (Or.inl (Own.wd hw 49 rfl)) (Own.wd hw 11 rfl) (ty := .int) (by decide) rfl rfl fq0 fun T13 h13 X13 W13 => ?_
  have F14 := F8.wr W13
  have F15 := F9.other W13 (Ne.symm nq0)
  have F16 := F10.other W13 nq21
  have F17 := F11.wr W13 (Or.inl (List.mem_of_getElem? (i := 0) rfl))
  have F18 := G7_0.other W13 (Or.inr (slot_ne (Or.inr (Own.wd hw 22 rfl)) (Or.inl (Own.wd hw 49 rfl)) (by decide) (t := (.array (.array .int))) (t' := .int) (by decide) (by decide)))
  have F19 := G7_1.other W13 (Or.inr (slot_ne (Or.inr (Own.wd hw 25 rfl)) (Or.inl (Own.wd hw 49 rfl)) (by decide) (t := (.array .double)) (t' := .int) (by decide) (by decide)))
  have F20 := G7_2.other W13 (Or.inr (slot_ne (Or.inr (Own.wd hw 28 rfl)) (Or.inl (Own.wd hw 49 rfl)) (by decide) (t := (.array .long)) (t' := .int) (by decide) (by decide)))
  have F21 := G7_3.other W13 (Or.inr (slot_ne (Or.inl (Own.wd hw 35 rfl)) (Or.inl (Own.wd hw 49 rfl)) (by decide) (t := .int) (t' := .int) (by decide) (by decide)))
  have F22 := G7_4.other W13 (Or.inr (slot_ne (Or.inl (Own.wd hw 45 rfl)) (Or.inl (Own.wd hw 49 rfl)) (by decide) (t := .long) (t' := .int) (by decide) (by decide)))
  have F23 := G7_5.other W13 (Or.inr (slot_ne (Or.inl (Own.wd hw 47 rfl)) (Or.inl (Own.wd hw 49 rfl)) (by decide) (t := .int) (t' := .int) (by decide) (by decide)))
  have F24 := G7_7.other W13 (Ne.symm nq3)
  have F25 := G7_8.other W13 (Ne.symm nq1)
  have F26 := G7_9.other W13 (Ne.symm nq2)
  have F27 : Fld Z h13 a "com/example/allocus/allocus/method/Population" "best" "I" (.int (0 : Int32)) := Fld.same W13 G7_6
  have Z28 : n0 ≤ h13.size := by rw [W13.size]; exact Z12
  clear F10 F11 F8 F9 G7_0 G7_1 G7_2 G7_3 G7_4 G7_5 G7_6 G7_7 G7_8 G7_9 X7
  refine Own.aloadN X13 d11_71 rfl rfl ?_
  refine Own.iconst X13 (v := 0) d11_72 rfl ?_
  refine Own.putF_ X13 d11_73 (host := "") (Or.inl (Own.wd hw 46 rfl)) Via.refl F23 F14 (Or.inl (Own.wd hw 47 rfl)) (Own.wd hw 11 rfl) (ty := .int) (by decide) rfl rfl fq0 fun T29 h29 X29 W29 => ?_
  have F30 := F14.wr W29
  have F31 := F17.wr W29 (Or.inl (List.mem_of_getElem? (i := 0) rfl))
  have F32 := F18.other W29 (Or.inr (slot_ne (Or.inr (Own.wd hw 22 rfl)) (Or.inl (Own.wd hw 47 rfl)) (by decide) (t := (.array (.array .int))) (t' := .int) (by decide) (by decide)))
  have F33 := F19.other W29 (Or.inr (slot_ne (Or.inr (Own.wd hw 25 rfl)) (Or.inl (Own.wd hw 47 rfl)) (by decide) (t := (.array .double)) (t' := .int) (by decide) (by decide)))
  have F34 := F20.other W29 (Or.inr (slot_ne (Or.inr (Own.wd hw 28 rfl)) (Or.inl (Own.wd hw 47 rfl)) (by decide) (t := (.array .long)) (t' := .int) (by decide) (by decide)))
  have F35 := F21.other W29 (Or.inr (slot_ne (Or.inl (Own.wd hw 35 rfl)) (Or.inl (Own.wd hw 47 rfl)) (by decide) (t := .int) (t' := .int) (by decide) (by decide)))
  have F36 := F24.other W29 (Ne.symm nq3)
  have F37 := F25.other W29 (Ne.symm nq1)
  have F38 := F26.other W29 (Ne.symm nq2)
  have F39 := F27.other W29 (Or.inr (slot_ne (Or.inl (Own.wd hw 49 rfl)) (Or.inl (Own.wd hw 47 rfl)) (by decide) (t := .int) (t' := .int) (by decide) (by decide)))
  have F40 : Fld Z h29 a "com/example/allocus/allocus/method/Population" "worst" "I" (.int (0 : Int32)) := Fld.same W29 F23
  have Z41 : n0 ≤ h29.size := by rw [W29.size]; exact Z28
  clear F14 F17 F18 F19 F20 F21 F23 F24 F25 F26 F27 X13
  refine Own.iconst X29 (v := 1) d11_76 rfl ?_
  refine Own.istore X29 d11_77 (l' := #[.val (.ref a), .val (.ref si), .val (.double dv), .second, .val (.int (1 : Int32)), .val (.int (0 : Int32)), .val (.int (1 : Int32))]) rfl ?_
  refine Own.iload X29 d11_79 rfl ?_
  refine Own.aloadN X29 d11_81 rfl rfl ?_
  refine Own.getF_ X29 d11_82 (host := "") (Or.inl (Own.wd hw 34 rfl)) Via.refl F35 fun T42 X42 => ?_
  clear X29
  refine Own.icmp_ X42 (pc' := 160) d11_85 (by decide) (fun q => absurd (show (3 : Int) ≤ (1 : Int) from q) (show ¬ ((3 : Int) ≤ (1 : Int)) from by decide)) (fun _ => ?_)
  refine Own.aloadN X42 d11_88 rfl rfl ?_
  refine Own.getF_ X42 d11_89 (host := "") (Or.inl (Own.wd hw 24 rfl)) Via.refl F33 fun T43 X43 => ?_
  clear X42
  refine Own.iload X43 d11_92 rfl ?_
  refine Own.daload_ X43 d11_94 F37 (by decide) rfl ?_
  refine Own.aloadN X43 d11_95 rfl rfl ?_
  refine Own.getF_ X43 d11_96 (host := "") (Or.inl (Own.wd hw 24 rfl)) Via.refl F33 fun T44 X44 => ?_
  clear X43
  refine Own.aloadN X44 d11_99 rfl rfl ?_
  refine Own.getF_ X44 d11_100 (host := "") (Or.inl (Own.wd hw 46 rfl)) Via.refl F40 fun T45 X45 => ?_
  clear X44
  refine Own.daload_ X45 d11_103 F37 (by decide) rfl ?_
  suffices J104_78 : ∀ (T78 : State) (h78 : Heap), ∀ (z154_90 : Int32), z154_90 = (if Own.dz dv < Own.dz b1 then (1 : Int32) else (if Own.dz b1 = Own.dz dv then (if eJ.toInt ≤ m1.toInt then (0 : Int32) else (1 : Int32)) else (0 : Int32))) → Own.St p l e ({ frames := 2, cells := 0, slots := 0, locals := 48 } : Room) s m #[.ref a, .ref si, .double dv] below meth c Z prog_48_method_6_code "com/example/allocus/allocus/method/Population" "offer" 7 (some .boolean) n0 T78 h78 0 0 → n0 ≤ h78.size → Exa Z h78 a "com/example/allocus/allocus/method/Population" → Keep h0 h78 [a, x0, oa, na] → Fld Z h78 a "com/example/allocus/allocus/method/Population" "plans" "[[I" (.ref pl) → Fld Z h78 a "com/example/allocus/allocus/method/Population" "objectives" "[D" (.ref oa) → Fld Z h78 a "com/example/allocus/allocus/method/Population" "entered" "[J" (.ref na) → Fld Z h78 a "com/example/allocus/allocus/method/Population" "count" "I" (.int (3 : Int32)) → Arv Z h78 x0 c_pl .int (2 : Int32) [.int y0, .int y1] (.int (0 : Int32)) → Arv Z h78 oa k_oa .double (3 : Int32) [.double dv, .double b1, .double b2] (.double 0) → Arv Z h78 na k_na .long (3 : Int32) [.long eJ, .long m1, .long m2] (.long (0 : Int64)) → Fld Z h78 a "com/example/allocus/allocus/method/Population" "best" "I" (.int (0 : Int32)) → Fld Z h78 a "com/example/allocus/allocus/method/Population" "worst" "I" (.int z154_90) → Own.Go p e below s n0 (fun v h => v = some (.int (1 : Int32)) ∧ Keep h0 h [a, x0, oa, na] ∧ Fld Z h a "com/example/allocus/allocus/method/Population" "plans" "[[I" (.ref pl) ∧ Fld Z h a "com/example/allocus/allocus/method/Population" "best" "I" (.int (0 : Int32)) ∧ Arv Z h x0 c_pl .int (2 : Int32) [.int y0, .int y1] (.int (0 : Int32))) 0 0 (T78.setTop (mkF m 154 #[.val (.ref a), .val (.ref si), .val (.double dv), .second, .val (.int (1 : Int32)), .val (.int (0 : Int32)), .val (.int (1 : Int32))] [])) by
    refine Own.dcmpF X45 (pc' := 148) d11_104 d11_105 (by decide) n_b1 n_dv (fun (h104 : Own.dz dv < Own.dz b1) => ?_) (fun (h104 : ¬ (Own.dz dv < Own.dz b1)) => ?_)
    · refine Own.aloadN X45 d11_148 rfl rfl ?_
      refine Own.iload X45 d11_149 rfl ?_
      refine Own.putF_ X45 d11_151 (host := "") (Or.inl (Own.wd hw 46 rfl)) Via.refl F40 F30 (Or.inl (Own.wd hw 47 rfl)) (Own.wd hw 11 rfl) (ty := .int) (by decide) rfl rfl fq0 fun T46 h46 X46 W46 => ?_
      have F47 := F30.wr W46
      have F48 := F31.wr W46 (Or.inl (List.mem_of_getElem? (i := 0) rfl))
      have F49 := F32.other W46 (Or.inr (slot_ne (Or.inr (Own.wd hw 22 rfl)) (Or.inl (Own.wd hw 47 rfl)) (by decide) (t := (.array (.array .int))) (t' := .int) (by decide) (by decide)))
      have F50 := F33.other W46 (Or.inr (slot_ne (Or.inr (Own.wd hw 25 rfl)) (Or.inl (Own.wd hw 47 rfl)) (by decide) (t := (.array .double)) (t' := .int) (by decide) (by decide)))
      have F51 := F34.other W46 (Or.inr (slot_ne (Or.inr (Own.wd hw 28 rfl)) (Or.inl (Own.wd hw 47 rfl)) (by decide) (t := (.array .long)) (t' := .int) (by decide) (by decide)))
      have F52 := F35.other W46 (Or.inr (slot_ne (Or.inl (Own.wd hw 35 rfl)) (Or.inl (Own.wd hw 47 rfl)) (by decide) (t := .int) (t' := .int) (by decide) (by decide)))
      have F53 := F36.other W46 (Ne.symm nq3)
      have F54 := F37.other W46 (Ne.symm nq1)
      have F55 := F38.other W46 (Ne.symm nq2)
      have F56 := F39.other W46 (Or.inr (slot_ne (Or.inl (Own.wd hw 49 rfl)) (Or.inl (Own.wd hw 47 rfl)) (by decide) (t := .int) (t' := .int) (by decide) (by decide)))
      have F57 : Fld Z h46 a "com/example/allocus/allocus/method/Population" "worst" "I" (.int (1 : Int32)) := Fld.same W46 F40
      have Z58 : n0 ≤ h46.size := by rw [W46.size]; exact Z41
      exact J104_78 _ _ _ (if_pos h104).symm (X46.more (by decide) (by decide)) Z58 F47 F48 F49 F50 F51 F52 F53 F54 F55 F56 F57
    · refine Own.aloadN X45 d11_108 rfl rfl ?_
      refine Own.getF_ X45 d11_109 (host := "") (Or.inl (Own.wd hw 24 rfl)) Via.refl F33 fun T59 X59 => ?_
      clear X45
      refine Own.iload X59 d11_112 rfl ?_
      refine Own.daload_ X59 d11_114 F37 (by decide) rfl ?_
      refine Own.aloadN X59 d11_115 rfl rfl ?_
      refine Own.getF_ X59 d11_116 (host := "") (Or.inl (Own.wd hw 24 rfl)) Via.refl F33 fun T60 X60 => ?_
      clear X59
      refine Own.aloadN X60 d11_119 rfl rfl ?_
      refine Own.getF_ X60 d11_120 (host := "") (Or.inl (Own.wd hw 46 rfl)) Via.refl F40 fun T61 X61 => ?_
      clear X60
      refine Own.daload_ X61 d11_123 F37 (by decide) rfl ?_
      refine Own.dcmpF X61 (pc' := 154) d11_124 d11_125 (by decide) n_b1 n_dv (fun (h124 : ¬ (Own.dz b1 = Own.dz dv)) => ?_) (fun h124' => ?_)
      · exact J104_78 _ _ _ ((if_neg h104).trans (if_neg h124)).symm (X61.more (by decide) (by decide)) Z41 F30 F31 F32 F33 F34 F35 F36 F37 F38 F39 F40
      · have h124 : Own.dz b1 = Own.dz dv := Classical.not_not.mp h124'
        refine Own.aloadN X61 d11_128 rfl rfl ?_
        refine Own.getF_ X61 d11_129 (host := "") (Or.inl (Own.wd hw 27 rfl)) Via.refl F34 fun T62 X62 => ?_
        clear X61
        refine Own.iload X62 d11_132 rfl ?_
        refine Own.laload_ X62 d11_134 F38 (by decide) rfl ?_
        refine Own.aloadN X62 d11_135 rfl rfl ?_
        refine Own.getF_ X62 d11_136 (host := "") (Or.inl (Own.wd hw 27 rfl)) Via.refl F34 fun T63 X63 => ?_
        clear X62
        refine Own.aloadN X63 d11_139 rfl rfl ?_
        refine Own.getF_ X63 d11_140 (host := "") (Or.inl (Own.wd hw 46 rfl)) Via.refl F40 fun T64 X64 => ?_
        clear X63
        refine Own.laload_ X64 d11_143 F38 (by decide) rfl ?_
        refine Own.lcmpF X64 (pc' := 154) d11_144 d11_145 (by decide) (fun (h144 : eJ.toInt ≤ m1.toInt) => ?_) (fun (h144 : ¬ (eJ.toInt ≤ m1.toInt)) => ?_)
        · exact J104_78 _ _ _ (((if_neg h104).trans (if_pos h124)).trans (if_pos h144)).symm (X64.more (by decide) (by decide)) Z41 F30 F31 F32 F33 F34 F35 F36 F37 F38 F39 F40
        · refine Own.aloadN X64 d11_148 rfl rfl ?_
          refine Own.iload X64 d11_149 rfl ?_
          refine Own.putF_ X64 d11_151 (host := "") (Or.inl (Own.wd hw 46 rfl)) Via.refl F40 F30 (Or.inl (Own.wd hw 47 rfl)) (Own.wd hw 11 rfl) (ty := .int) (by decide) rfl rfl fq0 fun T65 h65 X65 W65 => ?_
          have F66 := F30.wr W65
          have F67 := F31.wr W65 (Or.inl (List.mem_of_getElem? (i := 0) rfl))
          have F68 := F32.other W65 (Or.inr (slot_ne (Or.inr (Own.wd hw 22 rfl)) (Or.inl (Own.wd hw 47 rfl)) (by decide) (t := (.array (.array .int))) (t' := .int) (by decide) (by decide)))
          have F69 := F33.other W65 (Or.inr (slot_ne (Or.inr (Own.wd hw 25 rfl)) (Or.inl (Own.wd hw 47 rfl)) (by decide) (t := (.array .double)) (t' := .int) (by decide) (by decide)))
          have F70 := F34.other W65 (Or.inr (slot_ne (Or.inr (Own.wd hw 28 rfl)) (Or.inl (Own.wd hw 47 rfl)) (by decide) (t := (.array .long)) (t' := .int) (by decide) (by decide)))
          have F71 := F35.other W65 (Or.inr (slot_ne (Or.inl (Own.wd hw 35 rfl)) (Or.inl (Own.wd hw 47 rfl)) (by decide) (t := .int) (t' := .int) (by decide) (by decide)))
          have F72 := F36.other W65 (Ne.symm nq3)
          have F73 := F37.other W65 (Ne.symm nq1)
          have F74 := F38.other W65 (Ne.symm nq2)
          have F75 := F39.other W65 (Or.inr (slot_ne (Or.inl (Own.wd hw 49 rfl)) (Or.inl (Own.wd hw 47 rfl)) (by decide) (t := .int) (t' := .int) (by decide) (by decide)))
          have F76 : Fld Z h65 a "com/example/allocus/allocus/method/Population" "worst" "I" (.int (1 : Int32)) := Fld.same W65 F40
          have Z77 : n0 ≤ h65.size := by rw [W65.size]; exact Z41
          exact J104_78 _ _ _ (((if_neg h104).trans (if_pos h124)).trans (if_neg h144)).symm (X65.more (by decide) (by decide)) Z77 F66 F67 F68 F69 F70 F71 F72 F73 F74 F75 F76
  intro T78 h78 z154_90 e_z154_90 X78 Z78 F79 F80 F81 F82 F83 F84 F85 F86 F87 F88 F89
  obtain ⟨bz_z154_90, mz_z154_90, hj_z154_90, hvb_z154_90, hvm_z154_90, n_bz_z154_90⟩ : ∃ (bb : UInt64) (mm : Int64), (¬ z154_90 < 0 ∧ z154_90 < (3 : Int32)) ∧ ([.double dv, .double b1, .double b2] : List Value).getD z154_90.toNatClampNeg (.double 0) = .double bb ∧ ([.long eJ, .long m1, .long m2] : List Value).getD z154_90.toNatClampNeg (.long (0 : Int64)) = .long mm ∧ NoNaN64 bb := by
    have hz : z154_90 = 0 ∨ z154_90 = 1 := own_01 e_z154_90
    rcases hz with hz | hz <;> rw [hz]
    · exact ⟨dv, eJ, by decide, rfl, rfl, n_dv⟩
    · exact ⟨b1, m1, by decide, rfl, rfl, n_b1⟩
  clear X45
  refine Own.iinc X78 d11_154 rfl (l' := #[.val (.ref a), .val (.ref si), .val (.double dv), .second, .val (.int (1 : Int32)), .val (.int (0 : Int32)), .val (.int (2 : Int32))]) rfl ?_
  refine Own.goto_ X78 (pc' := 79) d11_157 (by decide) ?_
  refine Own.iload X78 d11_79 rfl ?_
  refine Own.aloadN X78 d11_81 rfl rfl ?_
  refine Own.getF_ X78 d11_82 (host := "") (Or.inl (Own.wd hw 34 rfl)) Via.refl F84 fun T91 X91 => ?_
  clear X78
  refine Own.icmp_ X91 (pc' := 160) d11_85 (by decide) (fun q => absurd (show (3 : Int) ≤ (2 : Int) from q) (show ¬ ((3 : Int) ≤ (2 : Int)) from by decide)) (fun _ => ?_)
  refine Own.aloadN X91 d11_88 rfl rfl ?_
  refine Own.getF_ X91 d11_89 (host := "") (Or.inl (Own.wd hw 24 rfl)) Via.refl F82 fun T92 X92 => ?_
  clear X91
  refine Own.iload X92 d11_92 rfl ?_
  refine Own.daload_ X92 d11_94 F86 (by decide) rfl ?_
  refine Own.aloadN X92 d11_95 rfl rfl ?_
  refine Own.getF_ X92 d11_96 (host := "") (Or.inl (Own.wd hw 24 rfl)) Via.refl F82 fun T93 X93 => ?_
  clear X92
  refine Own.aloadN X93 d11_99 rfl rfl ?_
  refine Own.getF_ X93 d11_100 (host := "") (Or.inl (Own.wd hw 46 rfl)) Via.refl F89 fun T94 X94 => ?_
  clear X93
  refine Own.daload_ X94 d11_103 F86 hj_z154_90 hvb_z154_90 ?_
  suffices J104_127 : ∀ (T127 : State) (h127 : Heap), ∀ (z154_139 : Int32), z154_139 = (if Own.dz bz_z154_90 < Own.dz b2 then (2 : Int32) else (if Own.dz b2 = Own.dz bz_z154_90 then (if mz_z154_90.toInt ≤ m2.toInt then z154_90 else (2 : Int32)) else z154_90)) → Own.St p l e ({ frames := 2, cells := 0, slots := 0, locals := 48 } : Room) s m #[.ref a, .ref si, .double dv] below meth c Z prog_48_method_6_code "com/example/allocus/allocus/method/Population" "offer" 7 (some .boolean) n0 T127 h127 0 0 → n0 ≤ h127.size → Exa Z h127 a "com/example/allocus/allocus/method/Population" → Keep h0 h127 [a, x0, oa, na] → Fld Z h127 a "com/example/allocus/allocus/method/Population" "plans" "[[I" (.ref pl) → Fld Z h127 a "com/example/allocus/allocus/method/Population" "objectives" "[D" (.ref oa) → Fld Z h127 a "com/example/allocus/allocus/method/Population" "entered" "[J" (.ref na) → Fld Z h127 a "com/example/allocus/allocus/method/Population" "count" "I" (.int (3 : Int32)) → Arv Z h127 x0 c_pl .int (2 : Int32) [.int y0, .int y1] (.int (0 : Int32)) → Arv Z h127 oa k_oa .double (3 : Int32) [.double dv, .double b1, .double b2] (.double 0) → Arv Z h127 na k_na .long (3 : Int32) [.long eJ, .long m1, .long m2] (.long (0 : Int64)) → Fld Z h127 a "com/example/allocus/allocus/method/Population" "best" "I" (.int (0 : Int32)) → Fld Z h127 a "com/example/allocus/allocus/method/Population" "worst" "I" (.int z154_139) → Own.Go p e below s n0 (fun v h => v = some (.int (1 : Int32)) ∧ Keep h0 h [a, x0, oa, na] ∧ Fld Z h a "com/example/allocus/allocus/method/Population" "plans" "[[I" (.ref pl) ∧ Fld Z h a "com/example/allocus/allocus/method/Population" "best" "I" (.int (0 : Int32)) ∧ Arv Z h x0 c_pl .int (2 : Int32) [.int y0, .int y1] (.int (0 : Int32))) 0 0 (T127.setTop (mkF m 154 #[.val (.ref a), .val (.ref si), .val (.double dv), .second, .val (.int (1 : Int32)), .val (.int (0 : Int32)), .val (.int (2 : Int32))] [])) by
    refine Own.dcmpF X94 (pc' := 148) d11_104 d11_105 (by decide) n_b2 n_bz_z154_90 (fun (h104 : Own.dz bz_z154_90 < Own.dz b2) => ?_) (fun (h104 : ¬ (Own.dz bz_z154_90 < Own.dz b2)) => ?_)
    · refine Own.aloadN X94 d11_148 rfl rfl ?_
      refine Own.iload X94 d11_149 rfl ?_
      refine Own.putF_ X94 d11_151 (host := "") (Or.inl (Own.wd hw 46 rfl)) Via.refl F89 F79 (Or.inl (Own.wd hw 47 rfl)) (Own.wd hw 11 rfl) (ty := .int) (by decide) rfl rfl fq0 fun T95 h95 X95 W95 => ?_
      have F96 := F79.wr W95
      have F97 := F80.wr W95 (Or.inl (List.mem_of_getElem? (i := 0) rfl))
      have F98 := F81.other W95 (Or.inr (slot_ne (Or.inr (Own.wd hw 22 rfl)) (Or.inl (Own.wd hw 47 rfl)) (by decide) (t := (.array (.array .int))) (t' := .int) (by decide) (by decide)))
      have F99 := F82.other W95 (Or.inr (slot_ne (Or.inr (Own.wd hw 25 rfl)) (Or.inl (Own.wd hw 47 rfl)) (by decide) (t := (.array .double)) (t' := .int) (by decide) (by decide)))
      have F100 := F83.other W95 (Or.inr (slot_ne (Or.inr (Own.wd hw 28 rfl)) (Or.inl (Own.wd hw 47 rfl)) (by decide) (t := (.array .long)) (t' := .int) (by decide) (by decide)))
      have F101 := F84.other W95 (Or.inr (slot_ne (Or.inl (Own.wd hw 35 rfl)) (Or.inl (Own.wd hw 47 rfl)) (by decide) (t := .int) (t' := .int) (by decide) (by decide)))
      have F102 := F85.other W95 (Ne.symm nq3)
      have F103 := F86.other W95 (Ne.symm nq1)
      have F104 := F87.other W95 (Ne.symm nq2)
      have F105 := F88.other W95 (Or.inr (slot_ne (Or.inl (Own.wd hw 49 rfl)) (Or.inl (Own.wd hw 47 rfl)) (by decide) (t := .int) (t' := .int) (by decide) (by decide)))
      have F106 : Fld Z h95 a "com/example/allocus/allocus/method/Population" "worst" "I" (.int (2 : Int32)) := Fld.same W95 F89
      have Z107 : n0 ≤ h95.size := by rw [W95.size]; exact Z78
      exact J104_127 _ _ _ (if_pos h104).symm (X95.more (by decide) (by decide)) Z107 F96 F97 F98 F99 F100 F101 F102 F103 F104 F105 F106
    · refine Own.aloadN X94 d11_108 rfl rfl ?_
      refine Own.getF_ X94 d11_109 (host := "") (Or.inl (Own.wd hw 24 rfl)) Via.refl F82 fun T108 X108 => ?_
      clear X94
      refine Own.iload X108 d11_112 rfl ?_
      refine Own.daload_ X108 d11_114 F86 (by decide) rfl ?_
      refine Own.aloadN X108 d11_115 rfl rfl ?_
      refine Own.getF_ X108 d11_116 (host := "") (Or.inl (Own.wd hw 24 rfl)) Via.refl F82 fun T109 X109 => ?_
      clear X108
      refine Own.aloadN X109 d11_119 rfl rfl ?_
      refine Own.getF_ X109 d11_120 (host := "") (Or.inl (Own.wd hw 46 rfl)) Via.refl F89 fun T110 X110 => ?_
      clear X109
      refine Own.daload_ X110 d11_123 F86 hj_z154_90 hvb_z154_90 ?_
      refine Own.dcmpF X110 (pc' := 154) d11_124 d11_125 (by decide) n_b2 n_bz_z154_90 (fun (h124 : ¬ (Own.dz b2 = Own.dz bz_z154_90)) => ?_) (fun h124' => ?_)
      · exact J104_127 _ _ _ ((if_neg h104).trans (if_neg h124)).symm (X110.more (by decide) (by decide)) Z78 F79 F80 F81 F82 F83 F84 F85 F86 F87 F88 F89
      · have h124 : Own.dz b2 = Own.dz bz_z154_90 := Classical.not_not.mp h124'
        refine Own.aloadN X110 d11_128 rfl rfl ?_
        refine Own.getF_ X110 d11_129 (host := "") (Or.inl (Own.wd hw 27 rfl)) Via.refl F83 fun T111 X111 => ?_
        clear X110
        refine Own.iload X111 d11_132 rfl ?_
        refine Own.laload_ X111 d11_134 F87 (by decide) rfl ?_
        refine Own.aloadN X111 d11_135 rfl rfl ?_
        refine Own.getF_ X111 d11_136 (host := "") (Or.inl (Own.wd hw 27 rfl)) Via.refl F83 fun T112 X112 => ?_
        clear X111
        refine Own.aloadN X112 d11_139 rfl rfl ?_
        refine Own.getF_ X112 d11_140 (host := "") (Or.inl (Own.wd hw 46 rfl)) Via.refl F89 fun T113 X113 => ?_
        clear X112
        refine Own.laload_ X113 d11_143 F87 hj_z154_90 hvm_z154_90 ?_
        refine Own.lcmpF X113 (pc' := 154) d11_144 d11_145 (by decide) (fun (h144 : mz_z154_90.toInt ≤ m2.toInt) => ?_) (fun (h144 : ¬ (mz_z154_90.toInt ≤ m2.toInt)) => ?_)
        · exact J104_127 _ _ _ (((if_neg h104).trans (if_pos h124)).trans (if_pos h144)).symm (X113.more (by decide) (by decide)) Z78 F79 F80 F81 F82 F83 F84 F85 F86 F87 F88 F89
        · refine Own.aloadN X113 d11_148 rfl rfl ?_
          refine Own.iload X113 d11_149 rfl ?_
          refine Own.putF_ X113 d11_151 (host := "") (Or.inl (Own.wd hw 46 rfl)) Via.refl F89 F79 (Or.inl (Own.wd hw 47 rfl)) (Own.wd hw 11 rfl) (ty := .int) (by decide) rfl rfl fq0 fun T114 h114 X114 W114 => ?_
          have F115 := F79.wr W114
          have F116 := F80.wr W114 (Or.inl (List.mem_of_getElem? (i := 0) rfl))
          have F117 := F81.other W114 (Or.inr (slot_ne (Or.inr (Own.wd hw 22 rfl)) (Or.inl (Own.wd hw 47 rfl)) (by decide) (t := (.array (.array .int))) (t' := .int) (by decide) (by decide)))
          have F118 := F82.other W114 (Or.inr (slot_ne (Or.inr (Own.wd hw 25 rfl)) (Or.inl (Own.wd hw 47 rfl)) (by decide) (t := (.array .double)) (t' := .int) (by decide) (by decide)))
          have F119 := F83.other W114 (Or.inr (slot_ne (Or.inr (Own.wd hw 28 rfl)) (Or.inl (Own.wd hw 47 rfl)) (by decide) (t := (.array .long)) (t' := .int) (by decide) (by decide)))
          have F120 := F84.other W114 (Or.inr (slot_ne (Or.inl (Own.wd hw 35 rfl)) (Or.inl (Own.wd hw 47 rfl)) (by decide) (t := .int) (t' := .int) (by decide) (by decide)))
          have F121 := F85.other W114 (Ne.symm nq3)
          have F122 := F86.other W114 (Ne.symm nq1)
          have F123 := F87.other W114 (Ne.symm nq2)
          have F124 := F88.other W114 (Or.inr (slot_ne (Or.inl (Own.wd hw 49 rfl)) (Or.inl (Own.wd hw 47 rfl)) (by decide) (t := .int) (t' := .int) (by decide) (by decide)))
          have F125 : Fld Z h114 a "com/example/allocus/allocus/method/Population" "worst" "I" (.int (2 : Int32)) := Fld.same W114 F89
          have Z126 : n0 ≤ h114.size := by rw [W114.size]; exact Z78
          exact J104_127 _ _ _ (((if_neg h104).trans (if_pos h124)).trans (if_neg h144)).symm (X114.more (by decide) (by decide)) Z126 F115 F116 F117 F118 F119 F120 F121 F122 F123 F124 F125
  intro T127 h127 z154_139 e_z154_139 X127 Z127 F128 F129 F130 F131 F132 F133 F134 F135 F136 F137 F138
  skip
  clear X94
  refine Own.iinc X127 d11_154 rfl (l' := #[.val (.ref a), .val (.ref si), .val (.double dv), .second, .val (.int (1 : Int32)), .val (.int (0 : Int32)), .val (.int (3 : Int32))]) rfl ?_
  refine Own.goto_ X127 (pc' := 79) d11_157 (by decide) ?_
  refine Own.iload X127 d11_79 rfl ?_
  refine Own.aloadN X127 d11_81 rfl rfl ?_
  refine Own.getF_ X127 d11_82 (host := "") (Or.inl (Own.wd hw 34 rfl)) Via.refl F133 fun T140 X140 => ?_
  clear X127
  refine Own.icmp_ X140 (pc' := 160) d11_85 (by decide) (fun _ => ?_) (fun q => absurd (show (3 : Int) ≤ (3 : Int) from by decide) q)
  refine Own.iload X140 d11_160 rfl ?_
  exact Own.retB X140 d11_162 (by decide) ⟨rfl, F129, F130, F137, F134⟩ (by decide) (by decide)
theorem ef_11_1N (m : MethodId) (x0 : Addr) (x1 : Addr) (x2 : UInt64) : entryFrame m #[.ref x0, .ref x1, .double x2] 7 = mkF m 0 #[.val (.ref x0), .val (.ref x1), .val (.double x2), .second, .unset, .unset, .unset] [] := by first | (simp [entryFrame, mkF, argsToLocals, Value.category, maxLocals]; done) | rfl
set_option maxRecDepth 65536 in
set_option maxHeartbeats 40000000 in
theorem rm11_1N (l : Launch) (Z : State) (a0 : Array Value) (hw : ∀ d ∈ tables_1, d.before a0 Z = true) (a : Addr) (si : Addr) (dv : UInt64) (pl : Addr) (oa : Addr) (na : Addr) (x0 : Addr) (x1 : Addr) (x2 : Addr) (k_pl : ClassId) (c_pl : ClassId) (k_oa : ClassId) (k_na : ClassId) (b0 : UInt64) (b1 : UInt64) (b2 : UInt64) (m0 : Int64) (m1 : Int64) (m2 : Int64) (eJ : Int64) (k_si : ClassId) (y0 : Int32) (y1 : Int32) (be : Int32) (u10 : Int32) (u11 : Int32) (h0 : Heap) (n0 : Nat) (Z0 : n0 ≤ h0.size) (fc0 : Exa Z h0 a "com/example/allocus/allocus/method/Population") (fc1 : Fld Z h0 a "com/example/allocus/allocus/method/Population" "plans" "[[I" (.ref pl)) (fc2 : Fld Z h0 a "com/example/allocus/allocus/method/Population" "objectives" "[D" (.ref oa)) (fc3 : Fld Z h0 a "com/example/allocus/allocus/method/Population" "entered" "[J" (.ref na)) (fc4 : Fld Z h0 a "com/example/allocus/allocus/method/Population" "count" "I" (.int (3 : Int32))) (fc5 : Fld Z h0 a "com/example/allocus/allocus/method/Population" "entries" "J" (.long eJ)) (fc6 : Fld Z h0 a "com/example/allocus/allocus/method/Population" "worst" "I" (.int (1 : Int32))) (fc7 : Fld Z h0 a "com/example/allocus/allocus/method/Population" "best" "I" (.int be)) (fc8 : Arv Z h0 pl k_pl (.array .int) (3 : Int32) [.ref x0, .ref x1, .ref x2] (.null)) (fc9 : Arv Z h0 x1 c_pl .int (2 : Int32) [.int u10, .int u11] (.int (0 : Int32))) (fc10 : Arv Z h0 oa k_oa .double (3 : Int32) [.double b0, .double b1, .double b2] (.double 0)) (fc11 : Arv Z h0 na k_na .long (3 : Int32) [.long m0, .long m1, .long m2] (.long (0 : Int64))) (fc12 : Arv Z h0 si k_si .int (2 : Int32) [.int y0, .int y1] (.int (0 : Int32))) (nq0 : a ≠ pl) (nq1 : a ≠ oa) (nq2 : a ≠ na) (nq3 : a ≠ x0) (nq4 : a ≠ x1) (nq5 : a ≠ x2) (nq6 : pl ≠ oa) (nq7 : pl ≠ na) (nq8 : pl ≠ x0) (nq9 : pl ≠ x1) (nq10 : pl ≠ x2) (nq11 : oa ≠ na) (nq12 : oa ≠ x0) (nq13 : oa ≠ x1) (nq14 : oa ≠ x2) (nq15 : na ≠ x0) (nq16 : na ≠ x1) (nq17 : na ≠ x2) (nq18 : x0 ≠ x1) (nq19 : x0 ≠ x2) (nq20 : x1 ≠ x2) (nq21 : si ≠ a) (nq22 : si ≠ pl) (nq23 : si ≠ oa) (nq24 : si ≠ na) (nq25 : si ≠ x0) (nq26 : si ≠ x1) (nq27 : si ≠ x2) (fq0 : n0 ≤ a) (fq1 : n0 ≤ x0) (fq2 : n0 ≤ x1) (fq3 : n0 ≤ x2) (fq4 : n0 ≤ oa) (fq5 : n0 ≤ na) (n_dv : NoNaN64 dv) (n_b0 : NoNaN64 b0) (n_b1 : NoNaN64 b1) (n_b2 : NoNaN64 b2) (c0 : Own.dz dv < Own.dz b0) (c1 : Own.dz dv < Own.dz b1) (c2 : Own.dz dv < Own.dz b2) (bx : UInt64) (hj : ¬ be < 0 ∧ be < (3 : Int32)) (hv : ([.double b0, .double b1, .double b2] : List Value).getD be.toNatClampNeg (.double 0) = .double bx) (n_bx : NoNaN64 bx) (cx : Own.dz dv < Own.dz bx) :
    Own.Con l Z mn_11 [] prog_48_method_6_code 7 (some .boolean) ({ frames := 2, cells := 0, slots := 0, locals := 48 } : Room) #[.ref a, .ref si, .double dv] h0 n0 (fun v h => v = some (.int (1 : Int32)) ∧ Keep h0 h [a, x1, oa, na] ∧ Fld Z h a "com/example/allocus/allocus/method/Population" "plans" "[[I" (.ref pl) ∧ Fld Z h a "com/example/allocus/allocus/method/Population" "best" "I" (.int (1 : Int32)) ∧ Arv Z h x1 c_pl .int (2 : Int32) [.int y0, .int y1] (.int (0 : Int32))) := by
  refine Own.enter (own := "com/example/allocus/allocus/method/Population") (nm := "offer") (plainFor_of_name pn_com_example_allocus_allocus_method_Population) rfl rfl (fun m => ef_11_1N m a si dv) fun p e s m below meth c T X => ?_
  refine Own.dloadN X d11_0 rfl ?_
  refine Own.aloadN X d11_1 rfl rfl ?_
  refine Own.getF_ X d11_2 (host := "") (Or.inl (Own.wd hw 24 rfl)) Via.refl fc2 fun T1 X1 => ?_
  clear X
  refine Own.aloadN X1 d11_5 rfl rfl ?_
  refine Own.getF_ X1 d11_6 (host := "") (Or.inl (Own.wd hw 46 rfl)) Via.refl fc6 fun T2 X2 => ?_
  clear X1
  refine Own.daload_ X2 d11_9 fc10 (by decide) rfl ?_
  refine Own.dcmpF X2 (pc' := 23) d11_10 d11_11 (by decide) n_dv n_b1 (fun q => absurd (show Own.dz b1 ≤ Own.dz dv from q) (show ¬ (Own.dz b1 ≤ Own.dz dv) from by omega)) (fun _ => ?_)
  refine Own.aloadN X2 d11_14 rfl rfl ?_
  refine Own.aloadN X2 d11_15 rfl rfl ?_
  refine Own.dloadN X2 d11_16 rfl ?_
  refine Own.callP_ (y := mn_9) (D := "com/example/allocus/allocus/method/Population") (z' := mn_4) (z := mn_4) (a := a) X2 d11_17 (Own.wd hw 82 rfl) (Own.wd hw 83 rfl) (Own.wd hw 32 rfl) rfl (Own.wd hw 84 rfl) (Own.wd hw 12 rfl) (Own.wd hw 85 rfl) (by decide) fc0 (rm12 l Z a0 hw a si dv oa k_oa b0 b1 b2 h0 n0 Z0 fc2 fc4 fc10 n_dv n_b0 n_b1 n_b2 c0 c1 c2) (lenOf pd_10 rfl) rfl (argsL := [.ref si, .double dv]) (rest := []) rfl (W := 0) (Nat.le_of_eq rfl) (by decide) (by decide) (by decide) (by decide) fun T3 h3 v3 X3 q3 => ?_
  obtain ⟨rfl, rfl⟩ := q3
  show Own.Go p e below s n0 _ _ _ (T3.setTop (mkF m 20 _ [.int (0 : Int32)]))
  clear X2
  refine Own.iff_ X3 (pc' := 25) d11_20 (by decide) (fun _ => ?_) (fun q => absurd (show (0 : Int) = (0 : Int) from by decide) q)
  refine Own.dloadN X3 d11_25 rfl ?_
  refine Own.aloadN X3 d11_26 rfl rfl ?_
  refine Own.getF_ X3 d11_27 (host := "") (Or.inl (Own.wd hw 24 rfl)) Via.refl fc2 fun T4 X4 => ?_
  clear X3
  refine Own.aloadN X4 d11_30 rfl rfl ?_
  refine Own.getF_ X4 d11_31 (host := "") (Or.inl (Own.wd hw 48 rfl)) Via.refl fc7 fun T5 X5 => ?_
  clear X4
  refine Own.daload_ X5 d11_34 fc10 hj hv ?_
  refine Own.dcmpF X5 (pc' := 43) d11_35 d11_36 (by decide) n_dv n_bx (fun q => absurd (show Own.dz bx ≤ Own.dz dv from q) (show ¬ (Own.dz bx ≤ Own.dz dv) from by omega)) (fun _ => ?_)
  refine Own.iconst X5 (v := 1) d11_39 rfl ?_
  refine Own.goto_ X5 (pc' := 44) d11_40 (by decide) ?_
  refine Own.istore X5 d11_44 (l' := #[.val (.ref a), .val (.ref si), .val (.double dv), .second, .val (.int (1 : Int32)), .unset, .unset]) rfl ?_
  refine Own.aloadN X5 d11_46 rfl rfl ?_
  refine Own.getF_ X5 d11_47 (host := "") (Or.inl (Own.wd hw 46 rfl)) Via.refl fc6 fun T6 X6 => ?_
  clear X5
  refine Own.istore X6 d11_50 (l' := #[.val (.ref a), .val (.ref si), .val (.double dv), .second, .val (.int (1 : Int32)), .val (.int (1 : Int32)), .unset]) rfl ?_
  refine Own.aloadN X6 d11_52 rfl rfl ?_
  refine Own.iload X6 d11_53 rfl ?_
  refine Own.aloadN X6 d11_55 rfl rfl ?_
  refine Own.dloadN X6 d11_56 rfl ?_
  refine Own.callP_ (y := mn_2) (D := "com/example/allocus/allocus/method/Population") (z' := mn_4) (z := mn_4) (a := a) X6 d11_57 (Own.wd hw 36 rfl) (Own.wd hw 37 rfl) (Own.wd hw 32 rfl) rfl (Own.wd hw 38 rfl) (Own.wd hw 12 rfl) (Own.wd hw 39 rfl) (by decide) fc0 (rm6_1 l Z a0 hw a si dv pl oa na x0 x1 x2 k_pl c_pl k_oa k_na b0 b1 b2 m0 m1 m2 eJ k_si y0 y1 u10 u11 (3 : Int32) (1 : Int32) be h0 n0 Z0 fc0 fc1 fc2 fc3 fc4 fc5 fc6 fc7 fc8 fc9 fc10 fc11 fc12 nq0 nq1 nq2 nq3 nq4 nq5 nq6 nq7 nq8 nq9 nq10 nq11 nq12 nq13 nq14 nq15 nq16 nq17 nq18 nq19 nq20 nq21 nq22 nq23 nq24 nq25 nq26 nq27 fq0 fq1 fq2 fq3 fq4 fq5 ) (lenOf pd_3 rfl) rfl (argsL := [.int (1 : Int32), .ref si, .double dv]) (rest := []) rfl (W := 0) (Nat.le_of_eq rfl) (by decide) (by decide) (by decide) (by decide) fun T7 h7 v7 X7 q7 => ?_
  obtain ⟨rfl, K7, G7_0, G7_1, G7_2, G7_3, G7_4, G7_5, G7_6, G7_7, G7_8, G7_9⟩ := q7
  have F8 := fc0.keep K7
  have F9 := fc8.keep K7 (ninS (Ne.symm nq0) (ninS nq9 (ninS nq6 (ninS nq7 nin0))))
  have F10 := fc12.keep K7 (ninS nq21 (ninS nq26 (ninS nq23 (ninS nq24 nin0))))
  have F11 := (Keep.refl h0 [a, x1, oa, na]).trans K7 (allS (Or.inl (List.mem_of_getElem? (i := 0) rfl)) (allS (Or.inl (List.mem_of_getElem? (i := 1) rfl)) (allS (Or.inl (List.mem_of_getElem? (i := 2) rfl)) (allS (Or.inl (List.mem_of_getElem? (i := 3) rfl)) all0))))
  have Z12 : n0 ≤ h7.size := Nat.le_trans Z0 K7.1
  show Own.Go p e below s n0 _ _ _ (T7.setTop (mkF m 60 _ []))
  clear X6 fc0 fc1 fc10 fc11 fc12 fc2 fc3 fc4 fc5 fc6 fc7 fc8 fc9
  refine Own.iload X7 d11_60 rfl ?_
  refine Own.iff_ X7 (pc' := 71) d11_62 (by decide) (fun q => absurd (show (1 : Int) = (0 : Int) from q) (show ¬ ((1 : Int) = (0 : Int)) from by decide)) (fun _ => ?_)
  refine Own.aloadN X7 d11_65 rfl rfl ?_
  refine Own.iload X7 d11_66 rfl ?_
  refine Own.putF_ X7 d11_68 (host := "") (Or.inl (Own.wd hw 48 rfl)) Via.refl G7_6 F8 (Or.inl (Own.wd hw 49 rfl)) (Own.wd hw 11 rfl) (ty := .int) (by decide) rfl rfl fq0 fun T13 h13 X13 W13 => ?_
  have F14 := F8.wr W13
  have F15 := F9.other W13 (Ne.symm nq0)
  have F16 := F10.other W13 nq21
  have F17 := F11.wr W13 (Or.inl (List.mem_of_getElem? (i := 0) rfl))
  have F18 := G7_0.other W13 (Or.inr (slot_ne (Or.inr (Own.wd hw 22 rfl)) (Or.inl (Own.wd hw 49 rfl)) (by decide) (t := (.array (.array .int))) (t' := .int) (by decide) (by decide)))
  have F19 := G7_1.other W13 (Or.inr (slot_ne (Or.inr (Own.wd hw 25 rfl)) (Or.inl (Own.wd hw 49 rfl)) (by decide) (t := (.array .double)) (t' := .int) (by decide) (by decide)))
  have F20 := G7_2.other W13 (Or.inr (slot_ne (Or.inr (Own.wd hw 28 rfl)) (Or.inl (Own.wd hw 49 rfl)) (by decide) (t := (.array .long)) (t' := .int) (by decide) (by decide)))
  have F21 := G7_3.other W13 (Or.inr (slot_ne (Or.inl (Own.wd hw 35 rfl)) (Or.inl (Own.wd hw 49 rfl)) (by decide) (t := .int) (t' := .int) (by decide) (by decide)))
  have F22 := G7_4.other W13 (Or.inr (slot_ne (Or.inl (Own.wd hw 45 rfl)) (Or.inl (Own.wd hw 49 rfl)) (by decide) (t := .long) (t' := .int) (by decide) (by decide)))
  have F23 := G7_5.other W13 (Or.inr (slot_ne (Or.inl (Own.wd hw 47 rfl)) (Or.inl (Own.wd hw 49 rfl)) (by decide) (t := .int) (t' := .int) (by decide) (by decide)))
  have F24 := G7_7.other W13 (Ne.symm nq4)
  have F25 := G7_8.other W13 (Ne.symm nq1)
  have F26 := G7_9.other W13 (Ne.symm nq2)
  have F27 : Fld Z h13 a "com/example/allocus/allocus/method/Population" "best" "I" (.int (1 : Int32)) := Fld.same W13 G7_6
  have Z28 : n0 ≤ h13.size := by rw [W13.size]; exact Z12
  clear F10 F11 F8 F9 G7_0 G7_1 G7_2 G7_3 G7_4 G7_5 G7_6 G7_7 G7_8 G7_9 X7
  refine Own.aloadN X13 d11_71 rfl rfl ?_
  refine Own.iconst X13 (v := 0) d11_72 rfl ?_
  refine Own.putF_ X13 d11_73 (host := "") (Or.inl (Own.wd hw 46 rfl)) Via.refl F23 F14 (Or.inl (Own.wd hw 47 rfl)) (Own.wd hw 11 rfl) (ty := .int) (by decide) rfl rfl fq0 fun T29 h29 X29 W29 => ?_
  have F30 := F14.wr W29
  have F31 := F17.wr W29 (Or.inl (List.mem_of_getElem? (i := 0) rfl))
  have F32 := F18.other W29 (Or.inr (slot_ne (Or.inr (Own.wd hw 22 rfl)) (Or.inl (Own.wd hw 47 rfl)) (by decide) (t := (.array (.array .int))) (t' := .int) (by decide) (by decide)))
  have F33 := F19.other W29 (Or.inr (slot_ne (Or.inr (Own.wd hw 25 rfl)) (Or.inl (Own.wd hw 47 rfl)) (by decide) (t := (.array .double)) (t' := .int) (by decide) (by decide)))
  have F34 := F20.other W29 (Or.inr (slot_ne (Or.inr (Own.wd hw 28 rfl)) (Or.inl (Own.wd hw 47 rfl)) (by decide) (t := (.array .long)) (t' := .int) (by decide) (by decide)))
  have F35 := F21.other W29 (Or.inr (slot_ne (Or.inl (Own.wd hw 35 rfl)) (Or.inl (Own.wd hw 47 rfl)) (by decide) (t := .int) (t' := .int) (by decide) (by decide)))
  have F36 := F24.other W29 (Ne.symm nq4)
  have F37 := F25.other W29 (Ne.symm nq1)
  have F38 := F26.other W29 (Ne.symm nq2)
  have F39 := F27.other W29 (Or.inr (slot_ne (Or.inl (Own.wd hw 49 rfl)) (Or.inl (Own.wd hw 47 rfl)) (by decide) (t := .int) (t' := .int) (by decide) (by decide)))
  have F40 : Fld Z h29 a "com/example/allocus/allocus/method/Population" "worst" "I" (.int (0 : Int32)) := Fld.same W29 F23
  have Z41 : n0 ≤ h29.size := by rw [W29.size]; exact Z28
  clear F14 F17 F18 F19 F20 F21 F23 F24 F25 F26 F27 X13
  refine Own.iconst X29 (v := 1) d11_76 rfl ?_
  refine Own.istore X29 d11_77 (l' := #[.val (.ref a), .val (.ref si), .val (.double dv), .second, .val (.int (1 : Int32)), .val (.int (1 : Int32)), .val (.int (1 : Int32))]) rfl ?_
  refine Own.iload X29 d11_79 rfl ?_
  refine Own.aloadN X29 d11_81 rfl rfl ?_
  refine Own.getF_ X29 d11_82 (host := "") (Or.inl (Own.wd hw 34 rfl)) Via.refl F35 fun T42 X42 => ?_
  clear X29
  refine Own.icmp_ X42 (pc' := 160) d11_85 (by decide) (fun q => absurd (show (3 : Int) ≤ (1 : Int) from q) (show ¬ ((3 : Int) ≤ (1 : Int)) from by decide)) (fun _ => ?_)
  refine Own.aloadN X42 d11_88 rfl rfl ?_
  refine Own.getF_ X42 d11_89 (host := "") (Or.inl (Own.wd hw 24 rfl)) Via.refl F33 fun T43 X43 => ?_
  clear X42
  refine Own.iload X43 d11_92 rfl ?_
  refine Own.daload_ X43 d11_94 F37 (by decide) rfl ?_
  refine Own.aloadN X43 d11_95 rfl rfl ?_
  refine Own.getF_ X43 d11_96 (host := "") (Or.inl (Own.wd hw 24 rfl)) Via.refl F33 fun T44 X44 => ?_
  clear X43
  refine Own.aloadN X44 d11_99 rfl rfl ?_
  refine Own.getF_ X44 d11_100 (host := "") (Or.inl (Own.wd hw 46 rfl)) Via.refl F40 fun T45 X45 => ?_
  clear X44
  refine Own.daload_ X45 d11_103 F37 (by decide) rfl ?_
  suffices J104_78 : ∀ (T78 : State) (h78 : Heap), ∀ (z154_90 : Int32), z154_90 = (if Own.dz b0 < Own.dz dv then (1 : Int32) else (if Own.dz dv = Own.dz b0 then (if m0.toInt ≤ eJ.toInt then (0 : Int32) else (1 : Int32)) else (0 : Int32))) → Own.St p l e ({ frames := 2, cells := 0, slots := 0, locals := 48 } : Room) s m #[.ref a, .ref si, .double dv] below meth c Z prog_48_method_6_code "com/example/allocus/allocus/method/Population" "offer" 7 (some .boolean) n0 T78 h78 0 0 → n0 ≤ h78.size → Exa Z h78 a "com/example/allocus/allocus/method/Population" → Keep h0 h78 [a, x1, oa, na] → Fld Z h78 a "com/example/allocus/allocus/method/Population" "plans" "[[I" (.ref pl) → Fld Z h78 a "com/example/allocus/allocus/method/Population" "objectives" "[D" (.ref oa) → Fld Z h78 a "com/example/allocus/allocus/method/Population" "entered" "[J" (.ref na) → Fld Z h78 a "com/example/allocus/allocus/method/Population" "count" "I" (.int (3 : Int32)) → Arv Z h78 x1 c_pl .int (2 : Int32) [.int y0, .int y1] (.int (0 : Int32)) → Arv Z h78 oa k_oa .double (3 : Int32) [.double b0, .double dv, .double b2] (.double 0) → Arv Z h78 na k_na .long (3 : Int32) [.long m0, .long eJ, .long m2] (.long (0 : Int64)) → Fld Z h78 a "com/example/allocus/allocus/method/Population" "best" "I" (.int (1 : Int32)) → Fld Z h78 a "com/example/allocus/allocus/method/Population" "worst" "I" (.int z154_90) → Own.Go p e below s n0 (fun v h => v = some (.int (1 : Int32)) ∧ Keep h0 h [a, x1, oa, na] ∧ Fld Z h a "com/example/allocus/allocus/method/Population" "plans" "[[I" (.ref pl) ∧ Fld Z h a "com/example/allocus/allocus/method/Population" "best" "I" (.int (1 : Int32)) ∧ Arv Z h x1 c_pl .int (2 : Int32) [.int y0, .int y1] (.int (0 : Int32))) 0 0 (T78.setTop (mkF m 154 #[.val (.ref a), .val (.ref si), .val (.double dv), .second, .val (.int (1 : Int32)), .val (.int (1 : Int32)), .val (.int (1 : Int32))] [])) by
    refine Own.dcmpF X45 (pc' := 148) d11_104 d11_105 (by decide) n_dv n_b0 (fun (h104 : Own.dz b0 < Own.dz dv) => ?_) (fun (h104 : ¬ (Own.dz b0 < Own.dz dv)) => ?_)
    · refine Own.aloadN X45 d11_148 rfl rfl ?_
      refine Own.iload X45 d11_149 rfl ?_
      refine Own.putF_ X45 d11_151 (host := "") (Or.inl (Own.wd hw 46 rfl)) Via.refl F40 F30 (Or.inl (Own.wd hw 47 rfl)) (Own.wd hw 11 rfl) (ty := .int) (by decide) rfl rfl fq0 fun T46 h46 X46 W46 => ?_
      have F47 := F30.wr W46
      have F48 := F31.wr W46 (Or.inl (List.mem_of_getElem? (i := 0) rfl))
      have F49 := F32.other W46 (Or.inr (slot_ne (Or.inr (Own.wd hw 22 rfl)) (Or.inl (Own.wd hw 47 rfl)) (by decide) (t := (.array (.array .int))) (t' := .int) (by decide) (by decide)))
      have F50 := F33.other W46 (Or.inr (slot_ne (Or.inr (Own.wd hw 25 rfl)) (Or.inl (Own.wd hw 47 rfl)) (by decide) (t := (.array .double)) (t' := .int) (by decide) (by decide)))
      have F51 := F34.other W46 (Or.inr (slot_ne (Or.inr (Own.wd hw 28 rfl)) (Or.inl (Own.wd hw 47 rfl)) (by decide) (t := (.array .long)) (t' := .int) (by decide) (by decide)))
      have F52 := F35.other W46 (Or.inr (slot_ne (Or.inl (Own.wd hw 35 rfl)) (Or.inl (Own.wd hw 47 rfl)) (by decide) (t := .int) (t' := .int) (by decide) (by decide)))
      have F53 := F36.other W46 (Ne.symm nq4)
      have F54 := F37.other W46 (Ne.symm nq1)
      have F55 := F38.other W46 (Ne.symm nq2)
      have F56 := F39.other W46 (Or.inr (slot_ne (Or.inl (Own.wd hw 49 rfl)) (Or.inl (Own.wd hw 47 rfl)) (by decide) (t := .int) (t' := .int) (by decide) (by decide)))
      have F57 : Fld Z h46 a "com/example/allocus/allocus/method/Population" "worst" "I" (.int (1 : Int32)) := Fld.same W46 F40
      have Z58 : n0 ≤ h46.size := by rw [W46.size]; exact Z41
      exact J104_78 _ _ _ (if_pos h104).symm (X46.more (by decide) (by decide)) Z58 F47 F48 F49 F50 F51 F52 F53 F54 F55 F56 F57
    · refine Own.aloadN X45 d11_108 rfl rfl ?_
      refine Own.getF_ X45 d11_109 (host := "") (Or.inl (Own.wd hw 24 rfl)) Via.refl F33 fun T59 X59 => ?_
      clear X45
      refine Own.iload X59 d11_112 rfl ?_
      refine Own.daload_ X59 d11_114 F37 (by decide) rfl ?_
      refine Own.aloadN X59 d11_115 rfl rfl ?_
      refine Own.getF_ X59 d11_116 (host := "") (Or.inl (Own.wd hw 24 rfl)) Via.refl F33 fun T60 X60 => ?_
      clear X59
      refine Own.aloadN X60 d11_119 rfl rfl ?_
      refine Own.getF_ X60 d11_120 (host := "") (Or.inl (Own.wd hw 46 rfl)) Via.refl F40 fun T61 X61 => ?_
      clear X60
      refine Own.daload_ X61 d11_123 F37 (by decide) rfl ?_
      refine Own.dcmpF X61 (pc' := 154) d11_124 d11_125 (by decide) n_dv n_b0 (fun (h124 : ¬ (Own.dz dv = Own.dz b0)) => ?_) (fun h124' => ?_)
      · exact J104_78 _ _ _ ((if_neg h104).trans (if_neg h124)).symm (X61.more (by decide) (by decide)) Z41 F30 F31 F32 F33 F34 F35 F36 F37 F38 F39 F40
      · have h124 : Own.dz dv = Own.dz b0 := Classical.not_not.mp h124'
        refine Own.aloadN X61 d11_128 rfl rfl ?_
        refine Own.getF_ X61 d11_129 (host := "") (Or.inl (Own.wd hw 27 rfl)) Via.refl F34 fun T62 X62 => ?_
        clear X61
        refine Own.iload X62 d11_132 rfl ?_
        refine Own.laload_ X62 d11_134 F38 (by decide) rfl ?_
        refine Own.aloadN X62 d11_135 rfl rfl ?_
        refine Own.getF_ X62 d11_136 (host := "") (Or.inl (Own.wd hw 27 rfl)) Via.refl F34 fun T63 X63 => ?_
        clear X62
        refine Own.aloadN X63 d11_139 rfl rfl ?_
        refine Own.getF_ X63 d11_140 (host := "") (Or.inl (Own.wd hw 46 rfl)) Via.refl F40 fun T64 X64 => ?_
        clear X63
        refine Own.laload_ X64 d11_143 F38 (by decide) rfl ?_
        refine Own.lcmpF X64 (pc' := 154) d11_144 d11_145 (by decide) (fun (h144 : m0.toInt ≤ eJ.toInt) => ?_) (fun (h144 : ¬ (m0.toInt ≤ eJ.toInt)) => ?_)
        · exact J104_78 _ _ _ (((if_neg h104).trans (if_pos h124)).trans (if_pos h144)).symm (X64.more (by decide) (by decide)) Z41 F30 F31 F32 F33 F34 F35 F36 F37 F38 F39 F40
        · refine Own.aloadN X64 d11_148 rfl rfl ?_
          refine Own.iload X64 d11_149 rfl ?_
          refine Own.putF_ X64 d11_151 (host := "") (Or.inl (Own.wd hw 46 rfl)) Via.refl F40 F30 (Or.inl (Own.wd hw 47 rfl)) (Own.wd hw 11 rfl) (ty := .int) (by decide) rfl rfl fq0 fun T65 h65 X65 W65 => ?_
          have F66 := F30.wr W65
          have F67 := F31.wr W65 (Or.inl (List.mem_of_getElem? (i := 0) rfl))
          have F68 := F32.other W65 (Or.inr (slot_ne (Or.inr (Own.wd hw 22 rfl)) (Or.inl (Own.wd hw 47 rfl)) (by decide) (t := (.array (.array .int))) (t' := .int) (by decide) (by decide)))
          have F69 := F33.other W65 (Or.inr (slot_ne (Or.inr (Own.wd hw 25 rfl)) (Or.inl (Own.wd hw 47 rfl)) (by decide) (t := (.array .double)) (t' := .int) (by decide) (by decide)))
          have F70 := F34.other W65 (Or.inr (slot_ne (Or.inr (Own.wd hw 28 rfl)) (Or.inl (Own.wd hw 47 rfl)) (by decide) (t := (.array .long)) (t' := .int) (by decide) (by decide)))
          have F71 := F35.other W65 (Or.inr (slot_ne (Or.inl (Own.wd hw 35 rfl)) (Or.inl (Own.wd hw 47 rfl)) (by decide) (t := .int) (t' := .int) (by decide) (by decide)))
          have F72 := F36.other W65 (Ne.symm nq4)
          have F73 := F37.other W65 (Ne.symm nq1)
          have F74 := F38.other W65 (Ne.symm nq2)
          have F75 := F39.other W65 (Or.inr (slot_ne (Or.inl (Own.wd hw 49 rfl)) (Or.inl (Own.wd hw 47 rfl)) (by decide) (t := .int) (t' := .int) (by decide) (by decide)))
          have F76 : Fld Z h65 a "com/example/allocus/allocus/method/Population" "worst" "I" (.int (1 : Int32)) := Fld.same W65 F40
          have Z77 : n0 ≤ h65.size := by rw [W65.size]; exact Z41
          exact J104_78 _ _ _ (((if_neg h104).trans (if_pos h124)).trans (if_neg h144)).symm (X65.more (by decide) (by decide)) Z77 F66 F67 F68 F69 F70 F71 F72 F73 F74 F75 F76
  intro T78 h78 z154_90 e_z154_90 X78 Z78 F79 F80 F81 F82 F83 F84 F85 F86 F87 F88 F89
  obtain ⟨bz_z154_90, mz_z154_90, hj_z154_90, hvb_z154_90, hvm_z154_90, n_bz_z154_90⟩ : ∃ (bb : UInt64) (mm : Int64), (¬ z154_90 < 0 ∧ z154_90 < (3 : Int32)) ∧ ([.double b0, .double dv, .double b2] : List Value).getD z154_90.toNatClampNeg (.double 0) = .double bb ∧ ([.long m0, .long eJ, .long m2] : List Value).getD z154_90.toNatClampNeg (.long (0 : Int64)) = .long mm ∧ NoNaN64 bb := by
    have hz : z154_90 = 0 ∨ z154_90 = 1 := own_01 e_z154_90
    rcases hz with hz | hz <;> rw [hz]
    · exact ⟨b0, m0, by decide, rfl, rfl, n_b0⟩
    · exact ⟨dv, eJ, by decide, rfl, rfl, n_dv⟩
  clear X45
  refine Own.iinc X78 d11_154 rfl (l' := #[.val (.ref a), .val (.ref si), .val (.double dv), .second, .val (.int (1 : Int32)), .val (.int (1 : Int32)), .val (.int (2 : Int32))]) rfl ?_
  refine Own.goto_ X78 (pc' := 79) d11_157 (by decide) ?_
  refine Own.iload X78 d11_79 rfl ?_
  refine Own.aloadN X78 d11_81 rfl rfl ?_
  refine Own.getF_ X78 d11_82 (host := "") (Or.inl (Own.wd hw 34 rfl)) Via.refl F84 fun T91 X91 => ?_
  clear X78
  refine Own.icmp_ X91 (pc' := 160) d11_85 (by decide) (fun q => absurd (show (3 : Int) ≤ (2 : Int) from q) (show ¬ ((3 : Int) ≤ (2 : Int)) from by decide)) (fun _ => ?_)
  refine Own.aloadN X91 d11_88 rfl rfl ?_
  refine Own.getF_ X91 d11_89 (host := "") (Or.inl (Own.wd hw 24 rfl)) Via.refl F82 fun T92 X92 => ?_
  clear X91
  refine Own.iload X92 d11_92 rfl ?_
  refine Own.daload_ X92 d11_94 F86 (by decide) rfl ?_
  refine Own.aloadN X92 d11_95 rfl rfl ?_
  refine Own.getF_ X92 d11_96 (host := "") (Or.inl (Own.wd hw 24 rfl)) Via.refl F82 fun T93 X93 => ?_
  clear X92
  refine Own.aloadN X93 d11_99 rfl rfl ?_
  refine Own.getF_ X93 d11_100 (host := "") (Or.inl (Own.wd hw 46 rfl)) Via.refl F89 fun T94 X94 => ?_
  clear X93
  refine Own.daload_ X94 d11_103 F86 hj_z154_90 hvb_z154_90 ?_
  suffices J104_127 : ∀ (T127 : State) (h127 : Heap), ∀ (z154_139 : Int32), z154_139 = (if Own.dz bz_z154_90 < Own.dz b2 then (2 : Int32) else (if Own.dz b2 = Own.dz bz_z154_90 then (if mz_z154_90.toInt ≤ m2.toInt then z154_90 else (2 : Int32)) else z154_90)) → Own.St p l e ({ frames := 2, cells := 0, slots := 0, locals := 48 } : Room) s m #[.ref a, .ref si, .double dv] below meth c Z prog_48_method_6_code "com/example/allocus/allocus/method/Population" "offer" 7 (some .boolean) n0 T127 h127 0 0 → n0 ≤ h127.size → Exa Z h127 a "com/example/allocus/allocus/method/Population" → Keep h0 h127 [a, x1, oa, na] → Fld Z h127 a "com/example/allocus/allocus/method/Population" "plans" "[[I" (.ref pl) → Fld Z h127 a "com/example/allocus/allocus/method/Population" "objectives" "[D" (.ref oa) → Fld Z h127 a "com/example/allocus/allocus/method/Population" "entered" "[J" (.ref na) → Fld Z h127 a "com/example/allocus/allocus/method/Population" "count" "I" (.int (3 : Int32)) → Arv Z h127 x1 c_pl .int (2 : Int32) [.int y0, .int y1] (.int (0 : Int32)) → Arv Z h127 oa k_oa .double (3 : Int32) [.double b0, .double dv, .double b2] (.double 0) → Arv Z h127 na k_na .long (3 : Int32) [.long m0, .long eJ, .long m2] (.long (0 : Int64)) → Fld Z h127 a "com/example/allocus/allocus/method/Population" "best" "I" (.int (1 : Int32)) → Fld Z h127 a "com/example/allocus/allocus/method/Population" "worst" "I" (.int z154_139) → Own.Go p e below s n0 (fun v h => v = some (.int (1 : Int32)) ∧ Keep h0 h [a, x1, oa, na] ∧ Fld Z h a "com/example/allocus/allocus/method/Population" "plans" "[[I" (.ref pl) ∧ Fld Z h a "com/example/allocus/allocus/method/Population" "best" "I" (.int (1 : Int32)) ∧ Arv Z h x1 c_pl .int (2 : Int32) [.int y0, .int y1] (.int (0 : Int32))) 0 0 (T127.setTop (mkF m 154 #[.val (.ref a), .val (.ref si), .val (.double dv), .second, .val (.int (1 : Int32)), .val (.int (1 : Int32)), .val (.int (2 : Int32))] [])) by
    refine Own.dcmpF X94 (pc' := 148) d11_104 d11_105 (by decide) n_b2 n_bz_z154_90 (fun (h104 : Own.dz bz_z154_90 < Own.dz b2) => ?_) (fun (h104 : ¬ (Own.dz bz_z154_90 < Own.dz b2)) => ?_)
    · refine Own.aloadN X94 d11_148 rfl rfl ?_
      refine Own.iload X94 d11_149 rfl ?_
      refine Own.putF_ X94 d11_151 (host := "") (Or.inl (Own.wd hw 46 rfl)) Via.refl F89 F79 (Or.inl (Own.wd hw 47 rfl)) (Own.wd hw 11 rfl) (ty := .int) (by decide) rfl rfl fq0 fun T95 h95 X95 W95 => ?_
      have F96 := F79.wr W95
      have F97 := F80.wr W95 (Or.inl (List.mem_of_getElem? (i := 0) rfl))
      have F98 := F81.other W95 (Or.inr (slot_ne (Or.inr (Own.wd hw 22 rfl)) (Or.inl (Own.wd hw 47 rfl)) (by decide) (t := (.array (.array .int))) (t' := .int) (by decide) (by decide)))
      have F99 := F82.other W95 (Or.inr (slot_ne (Or.inr (Own.wd hw 25 rfl)) (Or.inl (Own.wd hw 47 rfl)) (by decide) (t := (.array .double)) (t' := .int) (by decide) (by decide)))
      have F100 := F83.other W95 (Or.inr (slot_ne (Or.inr (Own.wd hw 28 rfl)) (Or.inl (Own.wd hw 47 rfl)) (by decide) (t := (.array .long)) (t' := .int) (by decide) (by decide)))
      have F101 := F84.other W95 (Or.inr (slot_ne (Or.inl (Own.wd hw 35 rfl)) (Or.inl (Own.wd hw 47 rfl)) (by decide) (t := .int) (t' := .int) (by decide) (by decide)))
      have F102 := F85.other W95 (Ne.symm nq4)
      have F103 := F86.other W95 (Ne.symm nq1)
      have F104 := F87.other W95 (Ne.symm nq2)
      have F105 := F88.other W95 (Or.inr (slot_ne (Or.inl (Own.wd hw 49 rfl)) (Or.inl (Own.wd hw 47 rfl)) (by decide) (t := .int) (t' := .int) (by decide) (by decide)))
      have F106 : Fld Z h95 a "com/example/allocus/allocus/method/Population" "worst" "I" (.int (2 : Int32)) := Fld.same W95 F89
      have Z107 : n0 ≤ h95.size := by rw [W95.size]; exact Z78
      exact J104_127 _ _ _ (if_pos h104).symm (X95.more (by decide) (by decide)) Z107 F96 F97 F98 F99 F100 F101 F102 F103 F104 F105 F106
    · refine Own.aloadN X94 d11_108 rfl rfl ?_
      refine Own.getF_ X94 d11_109 (host := "") (Or.inl (Own.wd hw 24 rfl)) Via.refl F82 fun T108 X108 => ?_
      clear X94
      refine Own.iload X108 d11_112 rfl ?_
      refine Own.daload_ X108 d11_114 F86 (by decide) rfl ?_
      refine Own.aloadN X108 d11_115 rfl rfl ?_
      refine Own.getF_ X108 d11_116 (host := "") (Or.inl (Own.wd hw 24 rfl)) Via.refl F82 fun T109 X109 => ?_
      clear X108
      refine Own.aloadN X109 d11_119 rfl rfl ?_
      refine Own.getF_ X109 d11_120 (host := "") (Or.inl (Own.wd hw 46 rfl)) Via.refl F89 fun T110 X110 => ?_
      clear X109
      refine Own.daload_ X110 d11_123 F86 hj_z154_90 hvb_z154_90 ?_
      refine Own.dcmpF X110 (pc' := 154) d11_124 d11_125 (by decide) n_b2 n_bz_z154_90 (fun (h124 : ¬ (Own.dz b2 = Own.dz bz_z154_90)) => ?_) (fun h124' => ?_)
      · exact J104_127 _ _ _ ((if_neg h104).trans (if_neg h124)).symm (X110.more (by decide) (by decide)) Z78 F79 F80 F81 F82 F83 F84 F85 F86 F87 F88 F89
      · have h124 : Own.dz b2 = Own.dz bz_z154_90 := Classical.not_not.mp h124'
        refine Own.aloadN X110 d11_128 rfl rfl ?_
        refine Own.getF_ X110 d11_129 (host := "") (Or.inl (Own.wd hw 27 rfl)) Via.refl F83 fun T111 X111 => ?_
        clear X110
        refine Own.iload X111 d11_132 rfl ?_
        refine Own.laload_ X111 d11_134 F87 (by decide) rfl ?_
        refine Own.aloadN X111 d11_135 rfl rfl ?_
        refine Own.getF_ X111 d11_136 (host := "") (Or.inl (Own.wd hw 27 rfl)) Via.refl F83 fun T112 X112 => ?_
        clear X111
        refine Own.aloadN X112 d11_139 rfl rfl ?_
        refine Own.getF_ X112 d11_140 (host := "") (Or.inl (Own.wd hw 46 rfl)) Via.refl F89 fun T113 X113 => ?_
        clear X112
        refine Own.laload_ X113 d11_143 F87 hj_z154_90 hvm_z154_90 ?_
        refine Own.lcmpF X113 (pc' := 154) d11_144 d11_145 (by decide) (fun (h144 : mz_z154_90.toInt ≤ m2.toInt) => ?_) (fun (h144 : ¬ (mz_z154_90.toInt ≤ m2.toInt)) => ?_)
        · exact J104_127 _ _ _ (((if_neg h104).trans (if_pos h124)).trans (if_pos h144)).symm (X113.more (by decide) (by decide)) Z78 F79 F80 F81 F82 F83 F84 F85 F86 F87 F88 F89
        · refine Own.aloadN X113 d11_148 rfl rfl ?_
          refine Own.iload X113 d11_149 rfl ?_
          refine Own.putF_ X113 d11_151 (host := "") (Or.inl (Own.wd hw 46 rfl)) Via.refl F89 F79 (Or.inl (Own.wd hw 47 rfl)) (Own.wd hw 11 rfl) (ty := .int) (by decide) rfl rfl fq0 fun T114 h114 X114 W114 => ?_
          have F115 := F79.wr W114
          have F116 := F80.wr W114 (Or.inl (List.mem_of_getElem? (i := 0) rfl))
          have F117 := F81.other W114 (Or.inr (slot_ne (Or.inr (Own.wd hw 22 rfl)) (Or.inl (Own.wd hw 47 rfl)) (by decide) (t := (.array (.array .int))) (t' := .int) (by decide) (by decide)))
          have F118 := F82.other W114 (Or.inr (slot_ne (Or.inr (Own.wd hw 25 rfl)) (Or.inl (Own.wd hw 47 rfl)) (by decide) (t := (.array .double)) (t' := .int) (by decide) (by decide)))
          have F119 := F83.other W114 (Or.inr (slot_ne (Or.inr (Own.wd hw 28 rfl)) (Or.inl (Own.wd hw 47 rfl)) (by decide) (t := (.array .long)) (t' := .int) (by decide) (by decide)))
          have F120 := F84.other W114 (Or.inr (slot_ne (Or.inl (Own.wd hw 35 rfl)) (Or.inl (Own.wd hw 47 rfl)) (by decide) (t := .int) (t' := .int) (by decide) (by decide)))
          have F121 := F85.other W114 (Ne.symm nq4)
          have F122 := F86.other W114 (Ne.symm nq1)
          have F123 := F87.other W114 (Ne.symm nq2)
          have F124 := F88.other W114 (Or.inr (slot_ne (Or.inl (Own.wd hw 49 rfl)) (Or.inl (Own.wd hw 47 rfl)) (by decide) (t := .int) (t' := .int) (by decide) (by decide)))
          have F125 : Fld Z h114 a "com/example/allocus/allocus/method/Population" "worst" "I" (.int (2 : Int32)) := Fld.same W114 F89
          have Z126 : n0 ≤ h114.size := by rw [W114.size]; exact Z78
          exact J104_127 _ _ _ (((if_neg h104).trans (if_pos h124)).trans (if_neg h144)).symm (X114.more (by decide) (by decide)) Z126 F115 F116 F117 F118 F119 F120 F121 F122 F123 F124 F125
  intro T127 h127 z154_139 e_z154_139 X127 Z127 F128 F129 F130 F131 F132 F133 F134 F135 F136 F137 F138
  skip
  clear X94
  refine Own.iinc X127 d11_154 rfl (l' := #[.val (.ref a), .val (.ref si), .val (.double dv), .second, .val (.int (1 : Int32)), .val (.int (1 : Int32)), .val (.int (3 : Int32))]) rfl ?_
  refine Own.goto_ X127 (pc' := 79) d11_157 (by decide) ?_
  refine Own.iload X127 d11_79 rfl ?_
  refine Own.aloadN X127 d11_81 rfl rfl ?_
  refine Own.getF_ X127 d11_82 (host := "") (Or.inl (Own.wd hw 34 rfl)) Via.refl F133 fun T140 X140 => ?_
  clear X127
  refine Own.icmp_ X140 (pc' := 160) d11_85 (by decide) (fun _ => ?_) (fun q => absurd (show (3 : Int) ≤ (3 : Int) from by decide) q)
  refine Own.iload X140 d11_160 rfl ?_
  exact Own.retB X140 d11_162 (by decide) ⟨rfl, F129, F130, F137, F134⟩ (by decide) (by decide)
theorem ef_11_2N (m : MethodId) (x0 : Addr) (x1 : Addr) (x2 : UInt64) : entryFrame m #[.ref x0, .ref x1, .double x2] 7 = mkF m 0 #[.val (.ref x0), .val (.ref x1), .val (.double x2), .second, .unset, .unset, .unset] [] := by first | (simp [entryFrame, mkF, argsToLocals, Value.category, maxLocals]; done) | rfl
set_option maxRecDepth 65536 in
set_option maxHeartbeats 40000000 in
theorem rm11_2N (l : Launch) (Z : State) (a0 : Array Value) (hw : ∀ d ∈ tables_1, d.before a0 Z = true) (a : Addr) (si : Addr) (dv : UInt64) (pl : Addr) (oa : Addr) (na : Addr) (x0 : Addr) (x1 : Addr) (x2 : Addr) (k_pl : ClassId) (c_pl : ClassId) (k_oa : ClassId) (k_na : ClassId) (b0 : UInt64) (b1 : UInt64) (b2 : UInt64) (m0 : Int64) (m1 : Int64) (m2 : Int64) (eJ : Int64) (k_si : ClassId) (y0 : Int32) (y1 : Int32) (be : Int32) (u20 : Int32) (u21 : Int32) (h0 : Heap) (n0 : Nat) (Z0 : n0 ≤ h0.size) (fc0 : Exa Z h0 a "com/example/allocus/allocus/method/Population") (fc1 : Fld Z h0 a "com/example/allocus/allocus/method/Population" "plans" "[[I" (.ref pl)) (fc2 : Fld Z h0 a "com/example/allocus/allocus/method/Population" "objectives" "[D" (.ref oa)) (fc3 : Fld Z h0 a "com/example/allocus/allocus/method/Population" "entered" "[J" (.ref na)) (fc4 : Fld Z h0 a "com/example/allocus/allocus/method/Population" "count" "I" (.int (3 : Int32))) (fc5 : Fld Z h0 a "com/example/allocus/allocus/method/Population" "entries" "J" (.long eJ)) (fc6 : Fld Z h0 a "com/example/allocus/allocus/method/Population" "worst" "I" (.int (2 : Int32))) (fc7 : Fld Z h0 a "com/example/allocus/allocus/method/Population" "best" "I" (.int be)) (fc8 : Arv Z h0 pl k_pl (.array .int) (3 : Int32) [.ref x0, .ref x1, .ref x2] (.null)) (fc9 : Arv Z h0 x2 c_pl .int (2 : Int32) [.int u20, .int u21] (.int (0 : Int32))) (fc10 : Arv Z h0 oa k_oa .double (3 : Int32) [.double b0, .double b1, .double b2] (.double 0)) (fc11 : Arv Z h0 na k_na .long (3 : Int32) [.long m0, .long m1, .long m2] (.long (0 : Int64))) (fc12 : Arv Z h0 si k_si .int (2 : Int32) [.int y0, .int y1] (.int (0 : Int32))) (nq0 : a ≠ pl) (nq1 : a ≠ oa) (nq2 : a ≠ na) (nq3 : a ≠ x0) (nq4 : a ≠ x1) (nq5 : a ≠ x2) (nq6 : pl ≠ oa) (nq7 : pl ≠ na) (nq8 : pl ≠ x0) (nq9 : pl ≠ x1) (nq10 : pl ≠ x2) (nq11 : oa ≠ na) (nq12 : oa ≠ x0) (nq13 : oa ≠ x1) (nq14 : oa ≠ x2) (nq15 : na ≠ x0) (nq16 : na ≠ x1) (nq17 : na ≠ x2) (nq18 : x0 ≠ x1) (nq19 : x0 ≠ x2) (nq20 : x1 ≠ x2) (nq21 : si ≠ a) (nq22 : si ≠ pl) (nq23 : si ≠ oa) (nq24 : si ≠ na) (nq25 : si ≠ x0) (nq26 : si ≠ x1) (nq27 : si ≠ x2) (fq0 : n0 ≤ a) (fq1 : n0 ≤ x0) (fq2 : n0 ≤ x1) (fq3 : n0 ≤ x2) (fq4 : n0 ≤ oa) (fq5 : n0 ≤ na) (n_dv : NoNaN64 dv) (n_b0 : NoNaN64 b0) (n_b1 : NoNaN64 b1) (n_b2 : NoNaN64 b2) (c0 : Own.dz dv < Own.dz b0) (c1 : Own.dz dv < Own.dz b1) (c2 : Own.dz dv < Own.dz b2) (bx : UInt64) (hj : ¬ be < 0 ∧ be < (3 : Int32)) (hv : ([.double b0, .double b1, .double b2] : List Value).getD be.toNatClampNeg (.double 0) = .double bx) (n_bx : NoNaN64 bx) (cx : Own.dz dv < Own.dz bx) :
    Own.Con l Z mn_11 [] prog_48_method_6_code 7 (some .boolean) ({ frames := 2, cells := 0, slots := 0, locals := 48 } : Room) #[.ref a, .ref si, .double dv] h0 n0 (fun v h => v = some (.int (1 : Int32)) ∧ Keep h0 h [a, x2, oa, na] ∧ Fld Z h a "com/example/allocus/allocus/method/Population" "plans" "[[I" (.ref pl) ∧ Fld Z h a "com/example/allocus/allocus/method/Population" "best" "I" (.int (2 : Int32)) ∧ Arv Z h x2 c_pl .int (2 : Int32) [.int y0, .int y1] (.int (0 : Int32))) := by
  refine Own.enter (own := "com/example/allocus/allocus/method/Population") (nm := "offer") (plainFor_of_name pn_com_example_allocus_allocus_method_Population) rfl rfl (fun m => ef_11_2N m a si dv) fun p e s m below meth c T X => ?_
  refine Own.dloadN X d11_0 rfl ?_
  refine Own.aloadN X d11_1 rfl rfl ?_
  refine Own.getF_ X d11_2 (host := "") (Or.inl (Own.wd hw 24 rfl)) Via.refl fc2 fun T1 X1 => ?_
  clear X
  refine Own.aloadN X1 d11_5 rfl rfl ?_
  refine Own.getF_ X1 d11_6 (host := "") (Or.inl (Own.wd hw 46 rfl)) Via.refl fc6 fun T2 X2 => ?_
  clear X1
  refine Own.daload_ X2 d11_9 fc10 (by decide) rfl ?_
  refine Own.dcmpF X2 (pc' := 23) d11_10 d11_11 (by decide) n_dv n_b2 (fun q => absurd (show Own.dz b2 ≤ Own.dz dv from q) (show ¬ (Own.dz b2 ≤ Own.dz dv) from by omega)) (fun _ => ?_)
  refine Own.aloadN X2 d11_14 rfl rfl ?_
  refine Own.aloadN X2 d11_15 rfl rfl ?_
  refine Own.dloadN X2 d11_16 rfl ?_
  refine Own.callP_ (y := mn_9) (D := "com/example/allocus/allocus/method/Population") (z' := mn_4) (z := mn_4) (a := a) X2 d11_17 (Own.wd hw 82 rfl) (Own.wd hw 83 rfl) (Own.wd hw 32 rfl) rfl (Own.wd hw 84 rfl) (Own.wd hw 12 rfl) (Own.wd hw 85 rfl) (by decide) fc0 (rm12 l Z a0 hw a si dv oa k_oa b0 b1 b2 h0 n0 Z0 fc2 fc4 fc10 n_dv n_b0 n_b1 n_b2 c0 c1 c2) (lenOf pd_10 rfl) rfl (argsL := [.ref si, .double dv]) (rest := []) rfl (W := 0) (Nat.le_of_eq rfl) (by decide) (by decide) (by decide) (by decide) fun T3 h3 v3 X3 q3 => ?_
  obtain ⟨rfl, rfl⟩ := q3
  show Own.Go p e below s n0 _ _ _ (T3.setTop (mkF m 20 _ [.int (0 : Int32)]))
  clear X2
  refine Own.iff_ X3 (pc' := 25) d11_20 (by decide) (fun _ => ?_) (fun q => absurd (show (0 : Int) = (0 : Int) from by decide) q)
  refine Own.dloadN X3 d11_25 rfl ?_
  refine Own.aloadN X3 d11_26 rfl rfl ?_
  refine Own.getF_ X3 d11_27 (host := "") (Or.inl (Own.wd hw 24 rfl)) Via.refl fc2 fun T4 X4 => ?_
  clear X3
  refine Own.aloadN X4 d11_30 rfl rfl ?_
  refine Own.getF_ X4 d11_31 (host := "") (Or.inl (Own.wd hw 48 rfl)) Via.refl fc7 fun T5 X5 => ?_
  clear X4
  refine Own.daload_ X5 d11_34 fc10 hj hv ?_
  refine Own.dcmpF X5 (pc' := 43) d11_35 d11_36 (by decide) n_dv n_bx (fun q => absurd (show Own.dz bx ≤ Own.dz dv from q) (show ¬ (Own.dz bx ≤ Own.dz dv) from by omega)) (fun _ => ?_)
  refine Own.iconst X5 (v := 1) d11_39 rfl ?_
  refine Own.goto_ X5 (pc' := 44) d11_40 (by decide) ?_
  refine Own.istore X5 d11_44 (l' := #[.val (.ref a), .val (.ref si), .val (.double dv), .second, .val (.int (1 : Int32)), .unset, .unset]) rfl ?_
  refine Own.aloadN X5 d11_46 rfl rfl ?_
  refine Own.getF_ X5 d11_47 (host := "") (Or.inl (Own.wd hw 46 rfl)) Via.refl fc6 fun T6 X6 => ?_
  clear X5
  refine Own.istore X6 d11_50 (l' := #[.val (.ref a), .val (.ref si), .val (.double dv), .second, .val (.int (1 : Int32)), .val (.int (2 : Int32)), .unset]) rfl ?_
  refine Own.aloadN X6 d11_52 rfl rfl ?_
  refine Own.iload X6 d11_53 rfl ?_
  refine Own.aloadN X6 d11_55 rfl rfl ?_
  refine Own.dloadN X6 d11_56 rfl ?_
  refine Own.callP_ (y := mn_2) (D := "com/example/allocus/allocus/method/Population") (z' := mn_4) (z := mn_4) (a := a) X6 d11_57 (Own.wd hw 36 rfl) (Own.wd hw 37 rfl) (Own.wd hw 32 rfl) rfl (Own.wd hw 38 rfl) (Own.wd hw 12 rfl) (Own.wd hw 39 rfl) (by decide) fc0 (rm6_2 l Z a0 hw a si dv pl oa na x0 x1 x2 k_pl c_pl k_oa k_na b0 b1 b2 m0 m1 m2 eJ k_si y0 y1 u20 u21 (3 : Int32) (2 : Int32) be h0 n0 Z0 fc0 fc1 fc2 fc3 fc4 fc5 fc6 fc7 fc8 fc9 fc10 fc11 fc12 nq0 nq1 nq2 nq3 nq4 nq5 nq6 nq7 nq8 nq9 nq10 nq11 nq12 nq13 nq14 nq15 nq16 nq17 nq18 nq19 nq20 nq21 nq22 nq23 nq24 nq25 nq26 nq27 fq0 fq1 fq2 fq3 fq4 fq5 ) (lenOf pd_3 rfl) rfl (argsL := [.int (2 : Int32), .ref si, .double dv]) (rest := []) rfl (W := 0) (Nat.le_of_eq rfl) (by decide) (by decide) (by decide) (by decide) fun T7 h7 v7 X7 q7 => ?_
  obtain ⟨rfl, K7, G7_0, G7_1, G7_2, G7_3, G7_4, G7_5, G7_6, G7_7, G7_8, G7_9⟩ := q7
  have F8 := fc0.keep K7
  have F9 := fc8.keep K7 (ninS (Ne.symm nq0) (ninS nq10 (ninS nq6 (ninS nq7 nin0))))
  have F10 := fc12.keep K7 (ninS nq21 (ninS nq27 (ninS nq23 (ninS nq24 nin0))))
  have F11 := (Keep.refl h0 [a, x2, oa, na]).trans K7 (allS (Or.inl (List.mem_of_getElem? (i := 0) rfl)) (allS (Or.inl (List.mem_of_getElem? (i := 1) rfl)) (allS (Or.inl (List.mem_of_getElem? (i := 2) rfl)) (allS (Or.inl (List.mem_of_getElem? (i := 3) rfl)) all0))))
  have Z12 : n0 ≤ h7.size := Nat.le_trans Z0 K7.1
  show Own.Go p e below s n0 _ _ _ (T7.setTop (mkF m 60 _ []))
  clear X6 fc0 fc1 fc10 fc11 fc12 fc2 fc3 fc4 fc5 fc6 fc7 fc8 fc9
  refine Own.iload X7 d11_60 rfl ?_
  refine Own.iff_ X7 (pc' := 71) d11_62 (by decide) (fun q => absurd (show (1 : Int) = (0 : Int) from q) (show ¬ ((1 : Int) = (0 : Int)) from by decide)) (fun _ => ?_)
  refine Own.aloadN X7 d11_65 rfl rfl ?_
  refine Own.iload X7 d11_66 rfl ?_
  refine Own.putF_ X7 d11_68 (host := "") (Or.inl (Own.wd hw 48 rfl)) Via.refl G7_6 F8 (Or.inl (Own.wd hw 49 rfl)) (Own.wd hw 11 rfl) (ty := .int) (by decide) rfl rfl fq0 fun T13 h13 X13 W13 => ?_
  have F14 := F8.wr W13
  have F15 := F9.other W13 (Ne.symm nq0)
  have F16 := F10.other W13 nq21
  have F17 := F11.wr W13 (Or.inl (List.mem_of_getElem? (i := 0) rfl))
  have F18 := G7_0.other W13 (Or.inr (slot_ne (Or.inr (Own.wd hw 22 rfl)) (Or.inl (Own.wd hw 49 rfl)) (by decide) (t := (.array (.array .int))) (t' := .int) (by decide) (by decide)))
  have F19 := G7_1.other W13 (Or.inr (slot_ne (Or.inr (Own.wd hw 25 rfl)) (Or.inl (Own.wd hw 49 rfl)) (by decide) (t := (.array .double)) (t' := .int) (by decide) (by decide)))
  have F20 := G7_2.other W13 (Or.inr (slot_ne (Or.inr (Own.wd hw 28 rfl)) (Or.inl (Own.wd hw 49 rfl)) (by decide) (t := (.array .long)) (t' := .int) (by decide) (by decide)))
  have F21 := G7_3.other W13 (Or.inr (slot_ne (Or.inl (Own.wd hw 35 rfl)) (Or.inl (Own.wd hw 49 rfl)) (by decide) (t := .int) (t' := .int) (by decide) (by decide)))
  have F22 := G7_4.other W13 (Or.inr (slot_ne (Or.inl (Own.wd hw 45 rfl)) (Or.inl (Own.wd hw 49 rfl)) (by decide) (t := .long) (t' := .int) (by decide) (by decide)))
  have F23 := G7_5.other W13 (Or.inr (slot_ne (Or.inl (Own.wd hw 47 rfl)) (Or.inl (Own.wd hw 49 rfl)) (by decide) (t := .int) (t' := .int) (by decide) (by decide)))
  have F24 := G7_7.other W13 (Ne.symm nq5)
  have F25 := G7_8.other W13 (Ne.symm nq1)
  have F26 := G7_9.other W13 (Ne.symm nq2)
  have F27 : Fld Z h13 a "com/example/allocus/allocus/method/Population" "best" "I" (.int (2 : Int32)) := Fld.same W13 G7_6
  have Z28 : n0 ≤ h13.size := by rw [W13.size]; exact Z12
  clear F10 F11 F8 F9 G7_0 G7_1 G7_2 G7_3 G7_4 G7_5 G7_6 G7_7 G7_8 G7_9 X7
  refine Own.aloadN X13 d11_71 rfl rfl ?_
  refine Own.iconst X13 (v := 0) d11_72 rfl ?_
  refine Own.putF_ X13 d11_73 (host := "") (Or.inl (Own.wd hw 46 rfl)) Via.refl F23 F14 (Or.inl (Own.wd hw 47 rfl)) (Own.wd hw 11 rfl) (ty := .int) (by decide) rfl rfl fq0 fun T29 h29 X29 W29 => ?_
  have F30 := F14.wr W29
  have F31 := F17.wr W29 (Or.inl (List.mem_of_getElem? (i := 0) rfl))
  have F32 := F18.other W29 (Or.inr (slot_ne (Or.inr (Own.wd hw 22 rfl)) (Or.inl (Own.wd hw 47 rfl)) (by decide) (t := (.array (.array .int))) (t' := .int) (by decide) (by decide)))
  have F33 := F19.other W29 (Or.inr (slot_ne (Or.inr (Own.wd hw 25 rfl)) (Or.inl (Own.wd hw 47 rfl)) (by decide) (t := (.array .double)) (t' := .int) (by decide) (by decide)))
  have F34 := F20.other W29 (Or.inr (slot_ne (Or.inr (Own.wd hw 28 rfl)) (Or.inl (Own.wd hw 47 rfl)) (by decide) (t := (.array .long)) (t' := .int) (by decide) (by decide)))
  have F35 := F21.other W29 (Or.inr (slot_ne (Or.inl (Own.wd hw 35 rfl)) (Or.inl (Own.wd hw 47 rfl)) (by decide) (t := .int) (t' := .int) (by decide) (by decide)))
  have F36 := F24.other W29 (Ne.symm nq5)
  have F37 := F25.other W29 (Ne.symm nq1)
  have F38 := F26.other W29 (Ne.symm nq2)
  have F39 := F27.other W29 (Or.inr (slot_ne (Or.inl (Own.wd hw 49 rfl)) (Or.inl (Own.wd hw 47 rfl)) (by decide) (t := .int) (t' := .int) (by decide) (by decide)))
  have F40 : Fld Z h29 a "com/example/allocus/allocus/method/Population" "worst" "I" (.int (0 : Int32)) := Fld.same W29 F23
  have Z41 : n0 ≤ h29.size := by rw [W29.size]; exact Z28
  clear F14 F17 F18 F19 F20 F21 F23 F24 F25 F26 F27 X13
  refine Own.iconst X29 (v := 1) d11_76 rfl ?_
  refine Own.istore X29 d11_77 (l' := #[.val (.ref a), .val (.ref si), .val (.double dv), .second, .val (.int (1 : Int32)), .val (.int (2 : Int32)), .val (.int (1 : Int32))]) rfl ?_
  refine Own.iload X29 d11_79 rfl ?_
  refine Own.aloadN X29 d11_81 rfl rfl ?_
  refine Own.getF_ X29 d11_82 (host := "") (Or.inl (Own.wd hw 34 rfl)) Via.refl F35 fun T42 X42 => ?_
  clear X29
  refine Own.icmp_ X42 (pc' := 160) d11_85 (by decide) (fun q => absurd (show (3 : Int) ≤ (1 : Int) from q) (show ¬ ((3 : Int) ≤ (1 : Int)) from by decide)) (fun _ => ?_)
  refine Own.aloadN X42 d11_88 rfl rfl ?_
  refine Own.getF_ X42 d11_89 (host := "") (Or.inl (Own.wd hw 24 rfl)) Via.refl F33 fun T43 X43 => ?_
  clear X42
  refine Own.iload X43 d11_92 rfl ?_
  refine Own.daload_ X43 d11_94 F37 (by decide) rfl ?_
  refine Own.aloadN X43 d11_95 rfl rfl ?_
  refine Own.getF_ X43 d11_96 (host := "") (Or.inl (Own.wd hw 24 rfl)) Via.refl F33 fun T44 X44 => ?_
  clear X43
  refine Own.aloadN X44 d11_99 rfl rfl ?_
  refine Own.getF_ X44 d11_100 (host := "") (Or.inl (Own.wd hw 46 rfl)) Via.refl F40 fun T45 X45 => ?_
  clear X44
  refine Own.daload_ X45 d11_103 F37 (by decide) rfl ?_
  suffices J104_78 : ∀ (T78 : State) (h78 : Heap), ∀ (z154_90 : Int32), z154_90 = (if Own.dz b0 < Own.dz b1 then (1 : Int32) else (if Own.dz b1 = Own.dz b0 then (if m0.toInt ≤ m1.toInt then (0 : Int32) else (1 : Int32)) else (0 : Int32))) → Own.St p l e ({ frames := 2, cells := 0, slots := 0, locals := 48 } : Room) s m #[.ref a, .ref si, .double dv] below meth c Z prog_48_method_6_code "com/example/allocus/allocus/method/Population" "offer" 7 (some .boolean) n0 T78 h78 0 0 → n0 ≤ h78.size → Exa Z h78 a "com/example/allocus/allocus/method/Population" → Keep h0 h78 [a, x2, oa, na] → Fld Z h78 a "com/example/allocus/allocus/method/Population" "plans" "[[I" (.ref pl) → Fld Z h78 a "com/example/allocus/allocus/method/Population" "objectives" "[D" (.ref oa) → Fld Z h78 a "com/example/allocus/allocus/method/Population" "entered" "[J" (.ref na) → Fld Z h78 a "com/example/allocus/allocus/method/Population" "count" "I" (.int (3 : Int32)) → Arv Z h78 x2 c_pl .int (2 : Int32) [.int y0, .int y1] (.int (0 : Int32)) → Arv Z h78 oa k_oa .double (3 : Int32) [.double b0, .double b1, .double dv] (.double 0) → Arv Z h78 na k_na .long (3 : Int32) [.long m0, .long m1, .long eJ] (.long (0 : Int64)) → Fld Z h78 a "com/example/allocus/allocus/method/Population" "best" "I" (.int (2 : Int32)) → Fld Z h78 a "com/example/allocus/allocus/method/Population" "worst" "I" (.int z154_90) → Own.Go p e below s n0 (fun v h => v = some (.int (1 : Int32)) ∧ Keep h0 h [a, x2, oa, na] ∧ Fld Z h a "com/example/allocus/allocus/method/Population" "plans" "[[I" (.ref pl) ∧ Fld Z h a "com/example/allocus/allocus/method/Population" "best" "I" (.int (2 : Int32)) ∧ Arv Z h x2 c_pl .int (2 : Int32) [.int y0, .int y1] (.int (0 : Int32))) 0 0 (T78.setTop (mkF m 154 #[.val (.ref a), .val (.ref si), .val (.double dv), .second, .val (.int (1 : Int32)), .val (.int (2 : Int32)), .val (.int (1 : Int32))] [])) by
    refine Own.dcmpF X45 (pc' := 148) d11_104 d11_105 (by decide) n_b1 n_b0 (fun (h104 : Own.dz b0 < Own.dz b1) => ?_) (fun (h104 : ¬ (Own.dz b0 < Own.dz b1)) => ?_)
    · refine Own.aloadN X45 d11_148 rfl rfl ?_
      refine Own.iload X45 d11_149 rfl ?_
      refine Own.putF_ X45 d11_151 (host := "") (Or.inl (Own.wd hw 46 rfl)) Via.refl F40 F30 (Or.inl (Own.wd hw 47 rfl)) (Own.wd hw 11 rfl) (ty := .int) (by decide) rfl rfl fq0 fun T46 h46 X46 W46 => ?_
      have F47 := F30.wr W46
      have F48 := F31.wr W46 (Or.inl (List.mem_of_getElem? (i := 0) rfl))
      have F49 := F32.other W46 (Or.inr (slot_ne (Or.inr (Own.wd hw 22 rfl)) (Or.inl (Own.wd hw 47 rfl)) (by decide) (t := (.array (.array .int))) (t' := .int) (by decide) (by decide)))
      have F50 := F33.other W46 (Or.inr (slot_ne (Or.inr (Own.wd hw 25 rfl)) (Or.inl (Own.wd hw 47 rfl)) (by decide) (t := (.array .double)) (t' := .int) (by decide) (by decide)))
      have F51 := F34.other W46 (Or.inr (slot_ne (Or.inr (Own.wd hw 28 rfl)) (Or.inl (Own.wd hw 47 rfl)) (by decide) (t := (.array .long)) (t' := .int) (by decide) (by decide)))
      have F52 := F35.other W46 (Or.inr (slot_ne (Or.inl (Own.wd hw 35 rfl)) (Or.inl (Own.wd hw 47 rfl)) (by decide) (t := .int) (t' := .int) (by decide) (by decide)))
      have F53 := F36.other W46 (Ne.symm nq5)
      have F54 := F37.other W46 (Ne.symm nq1)
      have F55 := F38.other W46 (Ne.symm nq2)
      have F56 := F39.other W46 (Or.inr (slot_ne (Or.inl (Own.wd hw 49 rfl)) (Or.inl (Own.wd hw 47 rfl)) (by decide) (t := .int) (t' := .int) (by decide) (by decide)))
      have F57 : Fld Z h46 a "com/example/allocus/allocus/method/Population" "worst" "I" (.int (1 : Int32)) := Fld.same W46 F40
      have Z58 : n0 ≤ h46.size := by rw [W46.size]; exact Z41
      exact J104_78 _ _ _ (if_pos h104).symm (X46.more (by decide) (by decide)) Z58 F47 F48 F49 F50 F51 F52 F53 F54 F55 F56 F57
    · refine Own.aloadN X45 d11_108 rfl rfl ?_
      refine Own.getF_ X45 d11_109 (host := "") (Or.inl (Own.wd hw 24 rfl)) Via.refl F33 fun T59 X59 => ?_
      clear X45
      refine Own.iload X59 d11_112 rfl ?_
      refine Own.daload_ X59 d11_114 F37 (by decide) rfl ?_
      refine Own.aloadN X59 d11_115 rfl rfl ?_
      refine Own.getF_ X59 d11_116 (host := "") (Or.inl (Own.wd hw 24 rfl)) Via.refl F33 fun T60 X60 => ?_
      clear X59
      refine Own.aloadN X60 d11_119 rfl rfl ?_
      refine Own.getF_ X60 d11_120 (host := "") (Or.inl (Own.wd hw 46 rfl)) Via.refl F40 fun T61 X61 => ?_
      clear X60
      refine Own.daload_ X61 d11_123 F37 (by decide) rfl ?_
      refine Own.dcmpF X61 (pc' := 154) d11_124 d11_125 (by decide) n_b1 n_b0 (fun (h124 : ¬ (Own.dz b1 = Own.dz b0)) => ?_) (fun h124' => ?_)
      · exact J104_78 _ _ _ ((if_neg h104).trans (if_neg h124)).symm (X61.more (by decide) (by decide)) Z41 F30 F31 F32 F33 F34 F35 F36 F37 F38 F39 F40
      · have h124 : Own.dz b1 = Own.dz b0 := Classical.not_not.mp h124'
        refine Own.aloadN X61 d11_128 rfl rfl ?_
        refine Own.getF_ X61 d11_129 (host := "") (Or.inl (Own.wd hw 27 rfl)) Via.refl F34 fun T62 X62 => ?_
        clear X61
        refine Own.iload X62 d11_132 rfl ?_
        refine Own.laload_ X62 d11_134 F38 (by decide) rfl ?_
        refine Own.aloadN X62 d11_135 rfl rfl ?_
        refine Own.getF_ X62 d11_136 (host := "") (Or.inl (Own.wd hw 27 rfl)) Via.refl F34 fun T63 X63 => ?_
        clear X62
        refine Own.aloadN X63 d11_139 rfl rfl ?_
        refine Own.getF_ X63 d11_140 (host := "") (Or.inl (Own.wd hw 46 rfl)) Via.refl F40 fun T64 X64 => ?_
        clear X63
        refine Own.laload_ X64 d11_143 F38 (by decide) rfl ?_
        refine Own.lcmpF X64 (pc' := 154) d11_144 d11_145 (by decide) (fun (h144 : m0.toInt ≤ m1.toInt) => ?_) (fun (h144 : ¬ (m0.toInt ≤ m1.toInt)) => ?_)
        · exact J104_78 _ _ _ (((if_neg h104).trans (if_pos h124)).trans (if_pos h144)).symm (X64.more (by decide) (by decide)) Z41 F30 F31 F32 F33 F34 F35 F36 F37 F38 F39 F40
        · refine Own.aloadN X64 d11_148 rfl rfl ?_
          refine Own.iload X64 d11_149 rfl ?_
          refine Own.putF_ X64 d11_151 (host := "") (Or.inl (Own.wd hw 46 rfl)) Via.refl F40 F30 (Or.inl (Own.wd hw 47 rfl)) (Own.wd hw 11 rfl) (ty := .int) (by decide) rfl rfl fq0 fun T65 h65 X65 W65 => ?_
          have F66 := F30.wr W65
          have F67 := F31.wr W65 (Or.inl (List.mem_of_getElem? (i := 0) rfl))
          have F68 := F32.other W65 (Or.inr (slot_ne (Or.inr (Own.wd hw 22 rfl)) (Or.inl (Own.wd hw 47 rfl)) (by decide) (t := (.array (.array .int))) (t' := .int) (by decide) (by decide)))
          have F69 := F33.other W65 (Or.inr (slot_ne (Or.inr (Own.wd hw 25 rfl)) (Or.inl (Own.wd hw 47 rfl)) (by decide) (t := (.array .double)) (t' := .int) (by decide) (by decide)))
          have F70 := F34.other W65 (Or.inr (slot_ne (Or.inr (Own.wd hw 28 rfl)) (Or.inl (Own.wd hw 47 rfl)) (by decide) (t := (.array .long)) (t' := .int) (by decide) (by decide)))
          have F71 := F35.other W65 (Or.inr (slot_ne (Or.inl (Own.wd hw 35 rfl)) (Or.inl (Own.wd hw 47 rfl)) (by decide) (t := .int) (t' := .int) (by decide) (by decide)))
          have F72 := F36.other W65 (Ne.symm nq5)
          have F73 := F37.other W65 (Ne.symm nq1)
          have F74 := F38.other W65 (Ne.symm nq2)
          have F75 := F39.other W65 (Or.inr (slot_ne (Or.inl (Own.wd hw 49 rfl)) (Or.inl (Own.wd hw 47 rfl)) (by decide) (t := .int) (t' := .int) (by decide) (by decide)))
          have F76 : Fld Z h65 a "com/example/allocus/allocus/method/Population" "worst" "I" (.int (1 : Int32)) := Fld.same W65 F40
          have Z77 : n0 ≤ h65.size := by rw [W65.size]; exact Z41
          exact J104_78 _ _ _ (((if_neg h104).trans (if_pos h124)).trans (if_neg h144)).symm (X65.more (by decide) (by decide)) Z77 F66 F67 F68 F69 F70 F71 F72 F73 F74 F75 F76
  intro T78 h78 z154_90 e_z154_90 X78 Z78 F79 F80 F81 F82 F83 F84 F85 F86 F87 F88 F89
  obtain ⟨bz_z154_90, mz_z154_90, hj_z154_90, hvb_z154_90, hvm_z154_90, n_bz_z154_90⟩ : ∃ (bb : UInt64) (mm : Int64), (¬ z154_90 < 0 ∧ z154_90 < (3 : Int32)) ∧ ([.double b0, .double b1, .double dv] : List Value).getD z154_90.toNatClampNeg (.double 0) = .double bb ∧ ([.long m0, .long m1, .long eJ] : List Value).getD z154_90.toNatClampNeg (.long (0 : Int64)) = .long mm ∧ NoNaN64 bb := by
    have hz : z154_90 = 0 ∨ z154_90 = 1 := own_01 e_z154_90
    rcases hz with hz | hz <;> rw [hz]
    · exact ⟨b0, m0, by decide, rfl, rfl, n_b0⟩
    · exact ⟨b1, m1, by decide, rfl, rfl, n_b1⟩
  clear X45
  refine Own.iinc X78 d11_154 rfl (l' := #[.val (.ref a), .val (.ref si), .val (.double dv), .second, .val (.int (1 : Int32)), .val (.int (2 : Int32)), .val (.int (2 : Int32))]) rfl ?_
  refine Own.goto_ X78 (pc' := 79) d11_157 (by decide) ?_
  refine Own.iload X78 d11_79 rfl ?_
  refine Own.aloadN X78 d11_81 rfl rfl ?_
  refine Own.getF_ X78 d11_82 (host := "") (Or.inl (Own.wd hw 34 rfl)) Via.refl F84 fun T91 X91 => ?_
  clear X78
  refine Own.icmp_ X91 (pc' := 160) d11_85 (by decide) (fun q => absurd (show (3 : Int) ≤ (2 : Int) from q) (show ¬ ((3 : Int) ≤ (2 : Int)) from by decide)) (fun _ => ?_)
  refine Own.aloadN X91 d11_88 rfl rfl ?_
  refine Own.getF_ X91 d11_89 (host := "") (Or.inl (Own.wd hw 24 rfl)) Via.refl F82 fun T92 X92 => ?_
  clear X91
  refine Own.iload X92 d11_92 rfl ?_
  refine Own.daload_ X92 d11_94 F86 (by decide) rfl ?_
  refine Own.aloadN X92 d11_95 rfl rfl ?_
  refine Own.getF_ X92 d11_96 (host := "") (Or.inl (Own.wd hw 24 rfl)) Via.refl F82 fun T93 X93 => ?_
  clear X92
  refine Own.aloadN X93 d11_99 rfl rfl ?_
  refine Own.getF_ X93 d11_100 (host := "") (Or.inl (Own.wd hw 46 rfl)) Via.refl F89 fun T94 X94 => ?_
  clear X93
  refine Own.daload_ X94 d11_103 F86 hj_z154_90 hvb_z154_90 ?_
  suffices J104_127 : ∀ (T127 : State) (h127 : Heap), ∀ (z154_139 : Int32), z154_139 = (if Own.dz bz_z154_90 < Own.dz dv then (2 : Int32) else (if Own.dz dv = Own.dz bz_z154_90 then (if mz_z154_90.toInt ≤ eJ.toInt then z154_90 else (2 : Int32)) else z154_90)) → Own.St p l e ({ frames := 2, cells := 0, slots := 0, locals := 48 } : Room) s m #[.ref a, .ref si, .double dv] below meth c Z prog_48_method_6_code "com/example/allocus/allocus/method/Population" "offer" 7 (some .boolean) n0 T127 h127 0 0 → n0 ≤ h127.size → Exa Z h127 a "com/example/allocus/allocus/method/Population" → Keep h0 h127 [a, x2, oa, na] → Fld Z h127 a "com/example/allocus/allocus/method/Population" "plans" "[[I" (.ref pl) → Fld Z h127 a "com/example/allocus/allocus/method/Population" "objectives" "[D" (.ref oa) → Fld Z h127 a "com/example/allocus/allocus/method/Population" "entered" "[J" (.ref na) → Fld Z h127 a "com/example/allocus/allocus/method/Population" "count" "I" (.int (3 : Int32)) → Arv Z h127 x2 c_pl .int (2 : Int32) [.int y0, .int y1] (.int (0 : Int32)) → Arv Z h127 oa k_oa .double (3 : Int32) [.double b0, .double b1, .double dv] (.double 0) → Arv Z h127 na k_na .long (3 : Int32) [.long m0, .long m1, .long eJ] (.long (0 : Int64)) → Fld Z h127 a "com/example/allocus/allocus/method/Population" "best" "I" (.int (2 : Int32)) → Fld Z h127 a "com/example/allocus/allocus/method/Population" "worst" "I" (.int z154_139) → Own.Go p e below s n0 (fun v h => v = some (.int (1 : Int32)) ∧ Keep h0 h [a, x2, oa, na] ∧ Fld Z h a "com/example/allocus/allocus/method/Population" "plans" "[[I" (.ref pl) ∧ Fld Z h a "com/example/allocus/allocus/method/Population" "best" "I" (.int (2 : Int32)) ∧ Arv Z h x2 c_pl .int (2 : Int32) [.int y0, .int y1] (.int (0 : Int32))) 0 0 (T127.setTop (mkF m 154 #[.val (.ref a), .val (.ref si), .val (.double dv), .second, .val (.int (1 : Int32)), .val (.int (2 : Int32)), .val (.int (2 : Int32))] [])) by
    refine Own.dcmpF X94 (pc' := 148) d11_104 d11_105 (by decide) n_dv n_bz_z154_90 (fun (h104 : Own.dz bz_z154_90 < Own.dz dv) => ?_) (fun (h104 : ¬ (Own.dz bz_z154_90 < Own.dz dv)) => ?_)
    · refine Own.aloadN X94 d11_148 rfl rfl ?_
      refine Own.iload X94 d11_149 rfl ?_
      refine Own.putF_ X94 d11_151 (host := "") (Or.inl (Own.wd hw 46 rfl)) Via.refl F89 F79 (Or.inl (Own.wd hw 47 rfl)) (Own.wd hw 11 rfl) (ty := .int) (by decide) rfl rfl fq0 fun T95 h95 X95 W95 => ?_
      have F96 := F79.wr W95
      have F97 := F80.wr W95 (Or.inl (List.mem_of_getElem? (i := 0) rfl))
      have F98 := F81.other W95 (Or.inr (slot_ne (Or.inr (Own.wd hw 22 rfl)) (Or.inl (Own.wd hw 47 rfl)) (by decide) (t := (.array (.array .int))) (t' := .int) (by decide) (by decide)))
      have F99 := F82.other W95 (Or.inr (slot_ne (Or.inr (Own.wd hw 25 rfl)) (Or.inl (Own.wd hw 47 rfl)) (by decide) (t := (.array .double)) (t' := .int) (by decide) (by decide)))
      have F100 := F83.other W95 (Or.inr (slot_ne (Or.inr (Own.wd hw 28 rfl)) (Or.inl (Own.wd hw 47 rfl)) (by decide) (t := (.array .long)) (t' := .int) (by decide) (by decide)))
      have F101 := F84.other W95 (Or.inr (slot_ne (Or.inl (Own.wd hw 35 rfl)) (Or.inl (Own.wd hw 47 rfl)) (by decide) (t := .int) (t' := .int) (by decide) (by decide)))
      have F102 := F85.other W95 (Ne.symm nq5)
      have F103 := F86.other W95 (Ne.symm nq1)
      have F104 := F87.other W95 (Ne.symm nq2)
      have F105 := F88.other W95 (Or.inr (slot_ne (Or.inl (Own.wd hw 49 rfl)) (Or.inl (Own.wd hw 47 rfl)) (by decide) (t := .int) (t' := .int) (by decide) (by decide)))
      have F106 : Fld Z h95 a "com/example/allocus/allocus/method/Population" "worst" "I" (.int (2 : Int32)) := Fld.same W95 F89
      have Z107 : n0 ≤ h95.size := by rw [W95.size]; exact Z78
      exact J104_127 _ _ _ (if_pos h104).symm (X95.more (by decide) (by decide)) Z107 F96 F97 F98 F99 F100 F101 F102 F103 F104 F105 F106
    · refine Own.aloadN X94 d11_108 rfl rfl ?_
      refine Own.getF_ X94 d11_109 (host := "") (Or.inl (Own.wd hw 24 rfl)) Via.refl F82 fun T108 X108 => ?_
      clear X94
      refine Own.iload X108 d11_112 rfl ?_
      refine Own.daload_ X108 d11_114 F86 (by decide) rfl ?_
      refine Own.aloadN X108 d11_115 rfl rfl ?_
      refine Own.getF_ X108 d11_116 (host := "") (Or.inl (Own.wd hw 24 rfl)) Via.refl F82 fun T109 X109 => ?_
      clear X108
      refine Own.aloadN X109 d11_119 rfl rfl ?_
      refine Own.getF_ X109 d11_120 (host := "") (Or.inl (Own.wd hw 46 rfl)) Via.refl F89 fun T110 X110 => ?_
      clear X109
      refine Own.daload_ X110 d11_123 F86 hj_z154_90 hvb_z154_90 ?_
      refine Own.dcmpF X110 (pc' := 154) d11_124 d11_125 (by decide) n_dv n_bz_z154_90 (fun (h124 : ¬ (Own.dz dv = Own.dz bz_z154_90)) => ?_) (fun h124' => ?_)
      · exact J104_127 _ _ _ ((if_neg h104).trans (if_neg h124)).symm (X110.more (by decide) (by decide)) Z78 F79 F80 F81 F82 F83 F84 F85 F86 F87 F88 F89
      · have h124 : Own.dz dv = Own.dz bz_z154_90 := Classical.not_not.mp h124'
        refine Own.aloadN X110 d11_128 rfl rfl ?_
        refine Own.getF_ X110 d11_129 (host := "") (Or.inl (Own.wd hw 27 rfl)) Via.refl F83 fun T111 X111 => ?_
        clear X110
        refine Own.iload X111 d11_132 rfl ?_
        refine Own.laload_ X111 d11_134 F87 (by decide) rfl ?_
        refine Own.aloadN X111 d11_135 rfl rfl ?_
        refine Own.getF_ X111 d11_136 (host := "") (Or.inl (Own.wd hw 27 rfl)) Via.refl F83 fun T112 X112 => ?_
        clear X111
        refine Own.aloadN X112 d11_139 rfl rfl ?_
        refine Own.getF_ X112 d11_140 (host := "") (Or.inl (Own.wd hw 46 rfl)) Via.refl F89 fun T113 X113 => ?_
        clear X112
        refine Own.laload_ X113 d11_143 F87 hj_z154_90 hvm_z154_90 ?_
        refine Own.lcmpF X113 (pc' := 154) d11_144 d11_145 (by decide) (fun (h144 : mz_z154_90.toInt ≤ eJ.toInt) => ?_) (fun (h144 : ¬ (mz_z154_90.toInt ≤ eJ.toInt)) => ?_)
        · exact J104_127 _ _ _ (((if_neg h104).trans (if_pos h124)).trans (if_pos h144)).symm (X113.more (by decide) (by decide)) Z78 F79 F80 F81 F82 F83 F84 F85 F86 F87 F88 F89
        · refine Own.aloadN X113 d11_148 rfl rfl ?_
          refine Own.iload X113 d11_149 rfl ?_
          refine Own.putF_ X113 d11_151 (host := "") (Or.inl (Own.wd hw 46 rfl)) Via.refl F89 F79 (Or.inl (Own.wd hw 47 rfl)) (Own.wd hw 11 rfl) (ty := .int) (by decide) rfl rfl fq0 fun T114 h114 X114 W114 => ?_
          have F115 := F79.wr W114
          have F116 := F80.wr W114 (Or.inl (List.mem_of_getElem? (i := 0) rfl))
          have F117 := F81.other W114 (Or.inr (slot_ne (Or.inr (Own.wd hw 22 rfl)) (Or.inl (Own.wd hw 47 rfl)) (by decide) (t := (.array (.array .int))) (t' := .int) (by decide) (by decide)))
          have F118 := F82.other W114 (Or.inr (slot_ne (Or.inr (Own.wd hw 25 rfl)) (Or.inl (Own.wd hw 47 rfl)) (by decide) (t := (.array .double)) (t' := .int) (by decide) (by decide)))
          have F119 := F83.other W114 (Or.inr (slot_ne (Or.inr (Own.wd hw 28 rfl)) (Or.inl (Own.wd hw 47 rfl)) (by decide) (t := (.array .long)) (t' := .int) (by decide) (by decide)))
          have F120 := F84.other W114 (Or.inr (slot_ne (Or.inl (Own.wd hw 35 rfl)) (Or.inl (Own.wd hw 47 rfl)) (by decide) (t := .int) (t' := .int) (by decide) (by decide)))
          have F121 := F85.other W114 (Ne.symm nq5)
          have F122 := F86.other W114 (Ne.symm nq1)
          have F123 := F87.other W114 (Ne.symm nq2)
          have F124 := F88.other W114 (Or.inr (slot_ne (Or.inl (Own.wd hw 49 rfl)) (Or.inl (Own.wd hw 47 rfl)) (by decide) (t := .int) (t' := .int) (by decide) (by decide)))
          have F125 : Fld Z h114 a "com/example/allocus/allocus/method/Population" "worst" "I" (.int (2 : Int32)) := Fld.same W114 F89
          have Z126 : n0 ≤ h114.size := by rw [W114.size]; exact Z78
          exact J104_127 _ _ _ (((if_neg h104).trans (if_pos h124)).trans (if_neg h144)).symm (X114.more (by decide) (by decide)) Z126 F115 F116 F117 F118 F119 F120 F121 F122 F123 F124 F125
  intro T127 h127 z154_139 e_z154_139 X127 Z127 F128 F129 F130 F131 F132 F133 F134 F135 F136 F137 F138
  skip
  clear X94
  refine Own.iinc X127 d11_154 rfl (l' := #[.val (.ref a), .val (.ref si), .val (.double dv), .second, .val (.int (1 : Int32)), .val (.int (2 : Int32)), .val (.int (3 : Int32))]) rfl ?_
  refine Own.goto_ X127 (pc' := 79) d11_157 (by decide) ?_
  refine Own.iload X127 d11_79 rfl ?_
  refine Own.aloadN X127 d11_81 rfl rfl ?_
  refine Own.getF_ X127 d11_82 (host := "") (Or.inl (Own.wd hw 34 rfl)) Via.refl F133 fun T140 X140 => ?_
  clear X127
  refine Own.icmp_ X140 (pc' := 160) d11_85 (by decide) (fun _ => ?_) (fun q => absurd (show (3 : Int) ≤ (3 : Int) from by decide) q)
  refine Own.iload X140 d11_160 rfl ?_
  exact Own.retB X140 d11_162 (by decide) ⟨rfl, F129, F130, F137, F134⟩ (by decide) (by decide)
theorem ef_1 (m : MethodId) (x0 : Int32) : entryFrame m #[.int x0] 1 = mkF m 0 #[.val (.int x0)] [] := by first | (simp [entryFrame, mkF, argsToLocals, Value.category, maxLocals]; done) | rfl
set_option maxRecDepth 65536 in
set_option maxHeartbeats 40000000 in
theorem rm1 (l : Launch) (Z : State) (a0 : Array Value) (hw : ∀ d ∈ tables_1, d.before a0 Z = true) (x : Int32) (h0 : Heap) (n0 : Nat) (Z0 : n0 ≤ h0.size)   :
    Own.Con l Z mn_12 [] method_2_code 1 (some (.array .int)) ({ frames := 0, cells := 1, slots := 2, locals := 0 } : Room) #[.int x] h0 n0 (fun v h => ∃ (sa : Addr) (k_sa : ClassId), v = some (.ref sa) ∧ Keep h0 h [] ∧ h0.size ≤ sa ∧ Arv Z h sa k_sa .int (2 : Int32) [.int (x >>> ((1 : Int32) &&& 31)), .int ((x >>> ((1 : Int32) &&& 31)) + (1073741824 : Int32))] (.int (0 : Int32))) := by
  refine Own.enter (own := "com/example/allocus/allocus/method/PopulationAddPinLaw") (nm := "sites") (plainFor_of_name pn_com_example_allocus_allocus_method_PopulationAddPinLaw) rfl rfl (fun m => ef_1 m x) fun p e s m below meth c T X => ?_
  refine Own.iconst X (v := 2) d1_0 rfl ?_
  refine Own.newP_ X (cap := 2) (ty := .int) (dv := .int (0 : Int32)) (ad := "[I") d1_1 rfl rfl (by decide) (Own.wd hw 4 rfl) (by decide) (by decide) (by decide) (by decide) (by decide) fun T1 h1 sa k_sa g_sa X1 E1 V1 A1 => ?_
  have fr2 : n0 ≤ sa := Nat.le_trans Z0 (Nat.le_of_eq g_sa.symm)
  have bn3 : h0.size ≤ sa := Nat.le_trans (Keep.refl h0 []).1 (Nat.le_of_eq g_sa.symm)
  have F4 := (Keep.refl h0 []).ext E1
  have Z5 : n0 ≤ h1.size := Nat.le_trans Z0 E1.1
  have V6 : Arv Z h1 sa k_sa .int (2 : Int32) [.int (0 : Int32), .int (0 : Int32)] (.int (0 : Int32)) := V1.pad (pad_rep [] (.int (0 : Int32)) 2)
  clear X
  refine Own.dup X1 d1_3 rfl ?_
  refine Own.iconst X1 (v := 0) d1_4 rfl ?_
  refine Own.iloadN X1 d1_5 rfl ?_
  refine Own.iconst X1 (v := 1) d1_6 rfl ?_
  refine Own.ishr X1 d1_7 ?_
  refine Own.iastore_ X1 (i := 0) d1_8 V6 (by decide) rfl (Nat.le_of_ble_eq_true rfl) fr2 fun T7 h7 X7 W7 V7 => ?_
  have F8 := F4.wr W7 (Or.inr bn3)
  have F9 := A1.wr W7
  have Z10 : n0 ≤ h7.size := by rw [W7.size]; exact Z5
  have V11 : Arv Z h7 sa k_sa .int (2 : Int32) [.int (x >>> ((1 : Int32) &&& 31)), .int (0 : Int32)] (.int (0 : Int32)) := V7
  clear A1 F4 V6 X1
  refine Own.dup X7 d1_9 rfl ?_
  refine Own.iconst X7 (v := 1) d1_10 rfl ?_
  refine Own.iloadN X7 d1_11 rfl ?_
  refine Own.iconst X7 (v := 1) d1_12 rfl ?_
  refine Own.ishr X7 d1_13 ?_
  refine Own.ldcI X7 d1_14 (Own.wd hw 5 rfl) ?_
  refine Own.iadd X7 d1_16 ?_
  refine Own.iastore_ X7 (i := 1) d1_17 V11 (by decide) rfl (Nat.le_of_ble_eq_true rfl) fr2 fun T12 h12 X12 W12 V12 => ?_
  have F13 := F8.wr W12 (Or.inr bn3)
  have F14 := F9.wr W12
  have Z15 : n0 ≤ h12.size := by rw [W12.size]; exact Z10
  have V16 : Arv Z h12 sa k_sa .int (2 : Int32) [.int (x >>> ((1 : Int32) &&& 31)), .int ((x >>> ((1 : Int32) &&& 31)) + (1073741824 : Int32))] (.int (0 : Int32)) := V12
  clear F8 F9 V11 X7
  exact Own.retA X12 d1_18 rfl rfl rfl ⟨sa, k_sa, rfl, F13, bn3, V16⟩ (by decide) (by decide)
theorem ef_10 (m : MethodId) (x0 : Addr) (x1 : Int32) : entryFrame m #[.ref x0, .int x1] 2 = mkF m 0 #[.val (.ref x0), .val (.int x1)] [] := by first | (simp [entryFrame, mkF, argsToLocals, Value.category, maxLocals]; done) | rfl
set_option maxRecDepth 65536 in
set_option maxHeartbeats 40000000 in
theorem rm10 (l : Launch) (Z : State) (a0 : Array Value) (hw : ∀ d ∈ tables_1, d.before a0 Z = true) (ar : Addr) (x : Int32) (k_si : ClassId) (y0 : Int32) (y1 : Int32) (h0 : Heap) (n0 : Nat) (Z0 : n0 ≤ h0.size) (fc0 : Arv Z h0 ar k_si .int (2 : Int32) [.int y0, .int y1] (.int (0 : Int32))) (q0 : y0 = (x >>> ((1 : Int32) &&& 31))) (q1 : y1 = ((x >>> ((1 : Int32) &&& 31)) + (1073741824 : Int32))) :
    Own.Con l Z mn_13 [] method_3_code 2 (some .boolean) ({ frames := 0, cells := 0, slots := 0, locals := 0 } : Room) #[.ref ar, .int x] h0 n0 (fun v h => v = some (.int (1 : Int32)) ∧ h0 = h) := by
  refine Own.enter (own := "com/example/allocus/allocus/method/PopulationAddPinLaw") (nm := "holds") (plainFor_of_name pn_com_example_allocus_allocus_method_PopulationAddPinLaw) rfl rfl (fun m => ef_10 m ar x) fun p e s m below meth c T X => ?_
  refine Own.aloadN X d10_0 rfl rfl ?_
  refine Own.alen_ X d10_1 fc0 ?_
  refine Own.iconst X (v := 2) d10_2 rfl ?_
  refine Own.icmp_ X (pc' := 31) d10_3 (by decide) (fun q => absurd (show ¬ ((2 : Int) = (2 : Int)) from q) (show ¬ (¬ ((2 : Int) = (2 : Int))) from fun z => z (by decide))) (fun _ => ?_)
  refine Own.aloadN X d10_6 rfl rfl ?_
  refine Own.iconst X (v := 0) d10_7 rfl ?_
  refine Own.iaload_ X d10_8 fc0 (by decide) rfl ?_
  refine Own.iloadN X d10_9 rfl ?_
  refine Own.iconst X (v := 1) d10_10 rfl ?_
  refine Own.ishr X d10_11 ?_
  refine Own.icmp_ X (pc' := 31) d10_12 (by decide) (fun q => absurd (show ¬ (y0.toInt = (x >>> ((1 : Int32) &&& 31)).toInt) from q) (show ¬ (¬ (y0.toInt = (x >>> ((1 : Int32) &&& 31)).toInt)) from fun z => z (by rw [q0]))) (fun _ => ?_)
  refine Own.aloadN X d10_15 rfl rfl ?_
  refine Own.iconst X (v := 1) d10_16 rfl ?_
  refine Own.iaload_ X d10_17 fc0 (by decide) rfl ?_
  refine Own.iloadN X d10_18 rfl ?_
  refine Own.iconst X (v := 1) d10_19 rfl ?_
  refine Own.ishr X d10_20 ?_
  refine Own.ldcI X d10_21 (Own.wd hw 5 rfl) ?_
  refine Own.iadd X d10_23 ?_
  refine Own.icmp_ X (pc' := 31) d10_24 (by decide) (fun q => absurd (show ¬ (y1.toInt = ((x >>> ((1 : Int32) &&& 31)) + (1073741824 : Int32)).toInt) from q) (show ¬ (¬ (y1.toInt = ((x >>> ((1 : Int32) &&& 31)) + (1073741824 : Int32)).toInt)) from fun z => z (by rw [q1]))) (fun _ => ?_)
  refine Own.iconst X (v := 1) d10_27 rfl ?_
  refine Own.goto_ X (pc' := 32) d10_28 (by decide) ?_
  exact Own.retB X d10_32 (by decide) ⟨rfl, rfl⟩ (by decide) (by decide)
theorem ef_0 (m : MethodId) (x0 : Int32) (x1 : Int32) (x2 : Int32) (x3 : Int32) (x4 : Int32) : entryFrame m #[.int x0, .int x1, .int x2, .int x3, .int x4] maxLocals = mkF m 0 #[.val (.int x0), .val (.int x1), .val (.int x2), .val (.int x3), .val (.int x4), .unset, .unset, .unset, .unset, .unset, .unset, .unset, .unset, .unset, .unset, .unset, .unset, .unset, .unset, .unset, .unset, .unset, .unset, .unset, .unset, .unset, .unset, .unset] [] := by first | (simp [entryFrame, mkF, argsToLocals, Value.category, maxLocals]; done) | rfl
set_option maxRecDepth 65536 in
set_option maxHeartbeats 40000000 in
theorem rm0 (l : Launch) (Z : State) (a0 : Array Value) (hw : ∀ d ∈ tables_1, d.before a0 Z = true) (i0 i1 i2 i3 i4 : Int32) (h0 : Heap) (n0 : Nat) (Z0 : n0 ≤ h0.size)  :
    Own.Con l Z x tables_1 code maxLocals ret room_1 #[.int i0, .int i1, .int i2, .int i3, .int i4] h0 n0 (fun v _ => v = some (.int 1)) := by
  refine Own.enter (own := "com/example/allocus/allocus/method/PopulationAddPinLaw") (nm := "law") (plainFor_of_name pn_com_example_allocus_allocus_method_PopulationAddPinLaw) rfl rfl (fun m => ef_0 m i0 i1 i2 i3 i4) fun p e s m below meth c T X => ?_
  refine Own.iloadN X at_0 rfl ?_
  refine Own.bipush X (v := 7) at_1 rfl ?_
  refine Own.iand X at_3 ?_
  refine Own.iconst X (v := 3) at_4 rfl ?_
  refine Own.isub X at_5 ?_
  obtain ⟨v0, e_v0⟩ : ∃ v, ((i0 &&& (7 : Int32)) - (3 : Int32)) = v := ⟨_, rfl⟩
  rw [e_v0]
  have r_v0 := own_v (o := i0) e_v0
  refine Own.istore X at_6 (l' := #[.val (.int i0), .val (.int i1), .val (.int i2), .val (.int i3), .val (.int i4), .val (.int v0), .unset, .unset, .unset, .unset, .unset, .unset, .unset, .unset, .unset, .unset, .unset, .unset, .unset, .unset, .unset, .unset, .unset, .unset, .unset, .unset, .unset, .unset]) rfl ?_
  refine Own.iloadN X at_8 rfl ?_
  refine Own.iconst X (v := 3) at_9 rfl ?_
  refine Own.iushr X at_10 ?_
  refine Own.bipush X (v := 7) at_11 rfl ?_
  refine Own.iand X at_13 ?_
  refine Own.iconst X (v := 3) at_14 rfl ?_
  refine Own.isub X at_15 ?_
  obtain ⟨v1, e_v1⟩ : ∃ v, (((Jvm.Free.XT.ushr i0 (3 : Int32)) &&& (7 : Int32)) - (3 : Int32)) = v := ⟨_, rfl⟩
  rw [e_v1]
  have r_v1 := own_v (o := i0) e_v1
  refine Own.istore X at_16 (l' := #[.val (.int i0), .val (.int i1), .val (.int i2), .val (.int i3), .val (.int i4), .val (.int v0), .val (.int v1), .unset, .unset, .unset, .unset, .unset, .unset, .unset, .unset, .unset, .unset, .unset, .unset, .unset, .unset, .unset, .unset, .unset, .unset, .unset, .unset, .unset]) rfl ?_
  refine Own.iloadN X at_18 rfl ?_
  refine Own.bipush X (v := 6) at_19 rfl ?_
  refine Own.iushr X at_21 ?_
  refine Own.bipush X (v := 7) at_22 rfl ?_
  refine Own.iand X at_24 ?_
  refine Own.iconst X (v := 3) at_25 rfl ?_
  refine Own.isub X at_26 ?_
  obtain ⟨v2, e_v2⟩ : ∃ v, (((Jvm.Free.XT.ushr i0 (6 : Int32)) &&& (7 : Int32)) - (3 : Int32)) = v := ⟨_, rfl⟩
  rw [e_v2]
  have r_v2 := own_v (o := i0) e_v2
  refine Own.istore X at_27 (l' := #[.val (.int i0), .val (.int i1), .val (.int i2), .val (.int i3), .val (.int i4), .val (.int v0), .val (.int v1), .val (.int v2), .unset, .unset, .unset, .unset, .unset, .unset, .unset, .unset, .unset, .unset, .unset, .unset, .unset, .unset, .unset, .unset, .unset, .unset, .unset, .unset]) rfl ?_
  refine Own.iloadN X at_29 rfl ?_
  refine Own.callS_ (y := mn_12) X at_30 (Own.wd hw 0 rfl) (Own.wd hw 1 rfl) (Own.wd hw 2 rfl) (Own.wd hw 3 rfl) (by decide) (rm1 l Z a0 hw i1 h0 n0 Z0  ) (lenOf pd_14 rfl) rfl (argsL := [.int i1]) (rest := []) rfl (W := 0) (Nat.le_of_eq rfl) (by decide) (by decide) (by decide) (by decide) fun T1 h1 v1 X1 q1 => ?_
  obtain ⟨sa_30_1, k_sa_30_1, rfl, K1, B1_0, G1_0⟩ := q1
  have Z2 : n0 ≤ h1.size := Nat.le_trans Z0 K1.1
  have fr3 : n0 ≤ sa_30_1 := Nat.le_trans Z0 B1_0
  show Own.Go p e below s n0 _ _ _ (T1.setTop (mkF m 33 _ [.ref sa_30_1]))
  clear X
  refine Own.astore X1 at_33 rfl (l' := #[.val (.int i0), .val (.int i1), .val (.int i2), .val (.int i3), .val (.int i4), .val (.int v0), .val (.int v1), .val (.int v2), .val (.ref sa_30_1), .unset, .unset, .unset, .unset, .unset, .unset, .unset, .unset, .unset, .unset, .unset, .unset, .unset, .unset, .unset, .unset, .unset, .unset, .unset]) rfl ?_
  refine Own.iloadN X1 at_35 rfl ?_
  refine Own.callS_ (y := mn_12) X1 at_36 (Own.wd hw 0 rfl) (Own.wd hw 1 rfl) (Own.wd hw 2 rfl) (Own.wd hw 3 rfl) (by decide) (rm1 l Z a0 hw i2 h1 n0 Z2  ) (lenOf pd_14 rfl) rfl (argsL := [.int i2]) (rest := []) rfl (W := 0) (Nat.le_of_eq rfl) (by decide) (by decide) (by decide) (by decide) fun T4 h4 v4 X4 q4 => ?_
  obtain ⟨sa_36_4, k_sa_36_4, rfl, K4, B4_0, G4_0⟩ := q4
  have F5 := G1_0.keep K4 nin0
  have Z6 : n0 ≤ h4.size := Nat.le_trans Z2 K4.1
  have ne7 : sa_30_1 ≠ sa_36_4 := Nat.ne_of_lt (Nat.lt_of_lt_of_le G1_0.lt B4_0)
  have fr8 : n0 ≤ sa_36_4 := Nat.le_trans Z2 B4_0
  show Own.Go p e below s n0 _ _ _ (T4.setTop (mkF m 39 _ [.ref sa_36_4]))
  clear G1_0 X1
  refine Own.astore X4 at_39 rfl (l' := #[.val (.int i0), .val (.int i1), .val (.int i2), .val (.int i3), .val (.int i4), .val (.int v0), .val (.int v1), .val (.int v2), .val (.ref sa_30_1), .val (.ref sa_36_4), .unset, .unset, .unset, .unset, .unset, .unset, .unset, .unset, .unset, .unset, .unset, .unset, .unset, .unset, .unset, .unset, .unset, .unset]) rfl ?_
  refine Own.iloadN X4 at_41 rfl ?_
  refine Own.callS_ (y := mn_12) X4 at_42 (Own.wd hw 0 rfl) (Own.wd hw 1 rfl) (Own.wd hw 2 rfl) (Own.wd hw 3 rfl) (by decide) (rm1 l Z a0 hw i3 h4 n0 Z6  ) (lenOf pd_14 rfl) rfl (argsL := [.int i3]) (rest := []) rfl (W := 0) (Nat.le_of_eq rfl) (by decide) (by decide) (by decide) (by decide) fun T9 h9 v9 X9 q9 => ?_
  obtain ⟨sa_42_9, k_sa_42_9, rfl, K9, B9_0, G9_0⟩ := q9
  have F10 := F5.keep K9 nin0
  have F11 := G4_0.keep K9 nin0
  have Z12 : n0 ≤ h9.size := Nat.le_trans Z6 K9.1
  have ne13 : sa_30_1 ≠ sa_42_9 := Nat.ne_of_lt (Nat.lt_of_lt_of_le F5.lt B9_0)
  have ne14 : sa_36_4 ≠ sa_42_9 := Nat.ne_of_lt (Nat.lt_of_lt_of_le G4_0.lt B9_0)
  have fr15 : n0 ≤ sa_42_9 := Nat.le_trans Z6 B9_0
  show Own.Go p e below s n0 _ _ _ (T9.setTop (mkF m 45 _ [.ref sa_42_9]))
  clear F5 G4_0 X4
  refine Own.astore X9 at_45 rfl (l' := #[.val (.int i0), .val (.int i1), .val (.int i2), .val (.int i3), .val (.int i4), .val (.int v0), .val (.int v1), .val (.int v2), .val (.ref sa_30_1), .val (.ref sa_36_4), .val (.ref sa_42_9), .unset, .unset, .unset, .unset, .unset, .unset, .unset, .unset, .unset, .unset, .unset, .unset, .unset, .unset, .unset, .unset, .unset]) rfl ?_
  refine Own.iload X9 at_47 rfl ?_
  refine Own.callS_ (y := mn_12) X9 at_49 (Own.wd hw 0 rfl) (Own.wd hw 1 rfl) (Own.wd hw 2 rfl) (Own.wd hw 3 rfl) (by decide) (rm1 l Z a0 hw i4 h9 n0 Z12  ) (lenOf pd_14 rfl) rfl (argsL := [.int i4]) (rest := []) rfl (W := 0) (Nat.le_of_eq rfl) (by decide) (by decide) (by decide) (by decide) fun T16 h16 v16 X16 q16 => ?_
  obtain ⟨sa_49_16, k_sa_49_16, rfl, K16, B16_0, G16_0⟩ := q16
  have F17 := F10.keep K16 nin0
  have F18 := F11.keep K16 nin0
  have F19 := G9_0.keep K16 nin0
  have Z20 : n0 ≤ h16.size := Nat.le_trans Z12 K16.1
  have ne21 : sa_30_1 ≠ sa_49_16 := Nat.ne_of_lt (Nat.lt_of_lt_of_le F10.lt B16_0)
  have ne22 : sa_36_4 ≠ sa_49_16 := Nat.ne_of_lt (Nat.lt_of_lt_of_le F11.lt B16_0)
  have ne23 : sa_42_9 ≠ sa_49_16 := Nat.ne_of_lt (Nat.lt_of_lt_of_le G9_0.lt B16_0)
  have fr24 : n0 ≤ sa_49_16 := Nat.le_trans Z12 B16_0
  show Own.Go p e below s n0 _ _ _ (T16.setTop (mkF m 52 _ [.ref sa_49_16]))
  clear F10 F11 G9_0 X9
  refine Own.astore X16 at_52 rfl (l' := #[.val (.int i0), .val (.int i1), .val (.int i2), .val (.int i3), .val (.int i4), .val (.int v0), .val (.int v1), .val (.int v2), .val (.ref sa_30_1), .val (.ref sa_36_4), .val (.ref sa_42_9), .val (.ref sa_49_16), .unset, .unset, .unset, .unset, .unset, .unset, .unset, .unset, .unset, .unset, .unset, .unset, .unset, .unset, .unset, .unset]) rfl ?_
  refine Own.iload X16 at_54 rfl ?_
  refine Own.iload X16 at_56 rfl ?_
  refine Own.iload X16 at_58 rfl ?_
  refine Own.callS_ (y := mn_0) X16 at_60 (Own.wd hw 6 rfl) (Own.wd hw 7 rfl) (Own.wd hw 8 rfl) (Own.wd hw 9 rfl) (by decide) (rm2 l Z a0 hw v1 v2 h16 n0 Z20 ) (lenOf pd_15 rfl) rfl (argsL := [.int v1, .int v2]) (rest := [.int v0]) rfl (W := 1) (Nat.le_of_eq rfl) (by decide) (by decide) (by decide) (by decide) fun T25 h25 v25 X25 q25 => ?_
  obtain ⟨rfl, rfl⟩ := q25
  obtain ⟨n12, e_n12⟩ : ∃ v, (if v2.toInt < v1.toInt then v2 else v1) = v := ⟨_, rfl⟩
  rw [e_n12]
  show Own.Go p e below s n0 _ _ _ (T25.setTop (mkF m 63 _ [.int n12, .int v0]))
  clear X16
  refine Own.callS_ (y := mn_0) X25 at_63 (Own.wd hw 6 rfl) (Own.wd hw 7 rfl) (Own.wd hw 8 rfl) (Own.wd hw 9 rfl) (by decide) (rm2 l Z a0 hw v0 n12 h16 n0 Z20 ) (lenOf pd_15 rfl) rfl (argsL := [.int v0, .int n12]) (rest := []) rfl (W := 0) (Nat.le_of_eq rfl) (by decide) (by decide) (by decide) (by decide) fun T26 h26 v26 X26 q26 => ?_
  obtain ⟨rfl, rfl⟩ := q26
  obtain ⟨mn, e_mn⟩ : ∃ v, (if n12.toInt < v0.toInt then n12 else v0) = v := ⟨_, rfl⟩
  rw [e_mn]
  show Own.Go p e below s n0 _ _ _ (T26.setTop (mkF m 66 _ [.int mn]))
  clear X25
  refine Own.istore X26 at_66 (l' := #[.val (.int i0), .val (.int i1), .val (.int i2), .val (.int i3), .val (.int i4), .val (.int v0), .val (.int v1), .val (.int v2), .val (.ref sa_30_1), .val (.ref sa_36_4), .val (.ref sa_42_9), .val (.ref sa_49_16), .val (.int mn), .unset, .unset, .unset, .unset, .unset, .unset, .unset, .unset, .unset, .unset, .unset, .unset, .unset, .unset, .unset]) rfl ?_
  refine Own.iload X26 at_68 rfl ?_
  refine Own.iconst X26 (v := 1) at_70 rfl ?_
  refine Own.isub X26 at_71 ?_
  obtain ⟨ch, e_ch⟩ : ∃ v, (mn - (1 : Int32)) = v := ⟨_, rfl⟩
  rw [e_ch]
  have k_ch := own_ch e_n12 e_mn e_ch r_v0 r_v1 r_v2
  obtain ⟨d72, e_d72⟩ : ∃ v, FP.i2d ch = v := ⟨_, rfl⟩
  obtain ⟨f_d72, z_d72⟩ := Own.i2d_v e_d72
  have n_d72 := f_d72.noNaN
  refine Own.i2d X26 at_72 e_d72 ?_
  refine Own.dstore X26 at_73 (l' := #[.val (.int i0), .val (.int i1), .val (.int i2), .val (.int i3), .val (.int i4), .val (.int v0), .val (.int v1), .val (.int v2), .val (.ref sa_30_1), .val (.ref sa_36_4), .val (.ref sa_42_9), .val (.ref sa_49_16), .val (.int mn), .val (.double d72), .second, .unset, .unset, .unset, .unset, .unset, .unset, .unset, .unset, .unset, .unset, .unset, .unset, .unset]) rfl ?_
  refine Own.newO_ X26 at_75 (Own.wd hw 10 rfl) (Own.wd hw 11 rfl) (Own.wd hw 12 rfl) (by decide) (by decide) fun T27 h27 pop g_pop X27 E27 A27 D27 => ?_
  have ne28 : sa_30_1 ≠ pop := Nat.ne_of_lt (Nat.lt_of_lt_of_le F17.lt (Nat.le_of_eq g_pop.symm))
  have ne29 : sa_36_4 ≠ pop := Nat.ne_of_lt (Nat.lt_of_lt_of_le F18.lt (Nat.le_of_eq g_pop.symm))
  have ne30 : sa_42_9 ≠ pop := Nat.ne_of_lt (Nat.lt_of_lt_of_le F19.lt (Nat.le_of_eq g_pop.symm))
  have ne31 : sa_49_16 ≠ pop := Nat.ne_of_lt (Nat.lt_of_lt_of_le G16_0.lt (Nat.le_of_eq g_pop.symm))
  have fr32 : n0 ≤ pop := Nat.le_trans Z20 (Nat.le_of_eq g_pop.symm)
  have F33 := F17.ext E27
  have F34 := F18.ext E27
  have F35 := F19.ext E27
  have F36 := G16_0.ext E27
  have Z37 : n0 ≤ h27.size := Nat.le_trans Z20 E27.1
  have F38 : Fld Z h27 pop "com/example/allocus/allocus/method/Population" "plans" "[[I" (.null) := D27 (Or.inr (Own.wd hw 22 rfl)) (ty := (.array (.array .int))) (by decide)
  have F39 : Fld Z h27 pop "com/example/allocus/allocus/method/Population" "objectives" "[D" (.null) := D27 (Or.inr (Own.wd hw 25 rfl)) (ty := (.array .double)) (by decide)
  have F40 : Fld Z h27 pop "com/example/allocus/allocus/method/Population" "entered" "[J" (.null) := D27 (Or.inr (Own.wd hw 28 rfl)) (ty := (.array .long)) (by decide)
  have F41 : Fld Z h27 pop "com/example/allocus/allocus/method/Population" "count" "I" (.int (0 : Int32)) := D27 (Or.inl (Own.wd hw 35 rfl)) (ty := .int) (by decide)
  have F42 : Fld Z h27 pop "com/example/allocus/allocus/method/Population" "entries" "J" (.long (0 : Int64)) := D27 (Or.inl (Own.wd hw 45 rfl)) (ty := .long) (by decide)
  have F43 : Fld Z h27 pop "com/example/allocus/allocus/method/Population" "worst" "I" (.int (0 : Int32)) := D27 (Or.inl (Own.wd hw 47 rfl)) (ty := .int) (by decide)
  have F44 : Fld Z h27 pop "com/example/allocus/allocus/method/Population" "best" "I" (.int (0 : Int32)) := D27 (Or.inl (Own.wd hw 49 rfl)) (ty := .int) (by decide)
  clear F17 F18 F19 G16_0 X26
  refine Own.dup X27 at_78 rfl ?_
  refine Own.iconst X27 (v := 3) at_79 rfl ?_
  refine Own.iconst X27 (v := 2) at_80 rfl ?_
  refine Own.callI_ (y := mn_1) (a := pop) X27 at_81 rfl (Own.wd hw 13 rfl) (Own.wd hw 14 rfl) (Own.wd hw 12 rfl) (Own.wd hw 15 rfl) (by decide) (rm3 l Z a0 hw pop h27 n0 Z37 A27 F38 F39 F40 F41 F42 F43 F44 fr32 ) (lenOf pd_16 rfl) rfl (argsL := [.int (3 : Int32), .int (2 : Int32)]) (rest := [.ref pop]) rfl (W := 1) (Nat.le_of_eq rfl) (by decide) (by decide) (by decide) (by decide) fun T45 h45 v45 X45 q45 => ?_
  obtain ⟨pl_81_45, x0_81_45, x1_81_45, x2_81_45, oa_81_45, na_81_45, k_pl_81_45, c_pl_81_45, k_oa_81_45, k_na_81_45, rfl, K45, B45_0, B45_1, B45_2, B45_3, B45_4, B45_5, U45_0, U45_1, U45_2, U45_3, U45_4, U45_5, U45_6, U45_7, U45_8, U45_9, U45_10, U45_11, U45_12, U45_13, U45_14, G45_0, G45_1, G45_2, G45_3, G45_4, G45_5, G45_6, G45_7, G45_8, G45_9, G45_10, G45_11, G45_12, G45_13, G45_14, G45_15⟩ := q45
  have F46 := F33.keep K45 (ninS ne28 nin0)
  have F47 := F34.keep K45 (ninS ne29 nin0)
  have F48 := F35.keep K45 (ninS ne30 nin0)
  have F49 := F36.keep K45 (ninS ne31 nin0)
  have F50 := A27.keep K45
  have Z51 : n0 ≤ h45.size := Nat.le_trans Z37 K45.1
  have ne52 : sa_30_1 ≠ pl_81_45 := Nat.ne_of_lt (Nat.lt_of_lt_of_le F33.lt B45_0)
  have ne53 : sa_36_4 ≠ pl_81_45 := Nat.ne_of_lt (Nat.lt_of_lt_of_le F34.lt B45_0)
  have ne54 : sa_42_9 ≠ pl_81_45 := Nat.ne_of_lt (Nat.lt_of_lt_of_le F35.lt B45_0)
  have ne55 : sa_49_16 ≠ pl_81_45 := Nat.ne_of_lt (Nat.lt_of_lt_of_le F36.lt B45_0)
  have ne56 : pop ≠ pl_81_45 := Nat.ne_of_lt (Nat.lt_of_lt_of_le A27.lt B45_0)
  have fr57 : n0 ≤ pl_81_45 := Nat.le_trans Z37 B45_0
  have ne58 : sa_30_1 ≠ x0_81_45 := Nat.ne_of_lt (Nat.lt_of_lt_of_le F33.lt B45_1)
  have ne59 : sa_36_4 ≠ x0_81_45 := Nat.ne_of_lt (Nat.lt_of_lt_of_le F34.lt B45_1)
  have ne60 : sa_42_9 ≠ x0_81_45 := Nat.ne_of_lt (Nat.lt_of_lt_of_le F35.lt B45_1)
  have ne61 : sa_49_16 ≠ x0_81_45 := Nat.ne_of_lt (Nat.lt_of_lt_of_le F36.lt B45_1)
  have ne62 : pop ≠ x0_81_45 := Nat.ne_of_lt (Nat.lt_of_lt_of_le A27.lt B45_1)
  have fr63 : n0 ≤ x0_81_45 := Nat.le_trans Z37 B45_1
  have ne64 : sa_30_1 ≠ x1_81_45 := Nat.ne_of_lt (Nat.lt_of_lt_of_le F33.lt B45_2)
  have ne65 : sa_36_4 ≠ x1_81_45 := Nat.ne_of_lt (Nat.lt_of_lt_of_le F34.lt B45_2)
  have ne66 : sa_42_9 ≠ x1_81_45 := Nat.ne_of_lt (Nat.lt_of_lt_of_le F35.lt B45_2)
  have ne67 : sa_49_16 ≠ x1_81_45 := Nat.ne_of_lt (Nat.lt_of_lt_of_le F36.lt B45_2)
  have ne68 : pop ≠ x1_81_45 := Nat.ne_of_lt (Nat.lt_of_lt_of_le A27.lt B45_2)
  have fr69 : n0 ≤ x1_81_45 := Nat.le_trans Z37 B45_2
  have ne70 : sa_30_1 ≠ x2_81_45 := Nat.ne_of_lt (Nat.lt_of_lt_of_le F33.lt B45_3)
  have ne71 : sa_36_4 ≠ x2_81_45 := Nat.ne_of_lt (Nat.lt_of_lt_of_le F34.lt B45_3)
  have ne72 : sa_42_9 ≠ x2_81_45 := Nat.ne_of_lt (Nat.lt_of_lt_of_le F35.lt B45_3)
  have ne73 : sa_49_16 ≠ x2_81_45 := Nat.ne_of_lt (Nat.lt_of_lt_of_le F36.lt B45_3)
  have ne74 : pop ≠ x2_81_45 := Nat.ne_of_lt (Nat.lt_of_lt_of_le A27.lt B45_3)
  have fr75 : n0 ≤ x2_81_45 := Nat.le_trans Z37 B45_3
  have ne76 : sa_30_1 ≠ oa_81_45 := Nat.ne_of_lt (Nat.lt_of_lt_of_le F33.lt B45_4)
  have ne77 : sa_36_4 ≠ oa_81_45 := Nat.ne_of_lt (Nat.lt_of_lt_of_le F34.lt B45_4)
  have ne78 : sa_42_9 ≠ oa_81_45 := Nat.ne_of_lt (Nat.lt_of_lt_of_le F35.lt B45_4)
  have ne79 : sa_49_16 ≠ oa_81_45 := Nat.ne_of_lt (Nat.lt_of_lt_of_le F36.lt B45_4)
  have ne80 : pop ≠ oa_81_45 := Nat.ne_of_lt (Nat.lt_of_lt_of_le A27.lt B45_4)
  have fr81 : n0 ≤ oa_81_45 := Nat.le_trans Z37 B45_4
  have ne82 : sa_30_1 ≠ na_81_45 := Nat.ne_of_lt (Nat.lt_of_lt_of_le F33.lt B45_5)
  have ne83 : sa_36_4 ≠ na_81_45 := Nat.ne_of_lt (Nat.lt_of_lt_of_le F34.lt B45_5)
  have ne84 : sa_42_9 ≠ na_81_45 := Nat.ne_of_lt (Nat.lt_of_lt_of_le F35.lt B45_5)
  have ne85 : sa_49_16 ≠ na_81_45 := Nat.ne_of_lt (Nat.lt_of_lt_of_le F36.lt B45_5)
  have ne86 : pop ≠ na_81_45 := Nat.ne_of_lt (Nat.lt_of_lt_of_le A27.lt B45_5)
  have fr87 : n0 ≤ na_81_45 := Nat.le_trans Z37 B45_5
  show Own.Go p e below s n0 _ _ _ (T45.setTop (mkF m 84 _ [.ref pop]))
  clear A27 F33 F34 F35 F36 F38 F39 F40 F41 F42 F43 F44 X27
  refine Own.astore X45 at_84 rfl (l' := #[.val (.int i0), .val (.int i1), .val (.int i2), .val (.int i3), .val (.int i4), .val (.int v0), .val (.int v1), .val (.int v2), .val (.ref sa_30_1), .val (.ref sa_36_4), .val (.ref sa_42_9), .val (.ref sa_49_16), .val (.int mn), .val (.double d72), .second, .val (.ref pop), .unset, .unset, .unset, .unset, .unset, .unset, .unset, .unset, .unset, .unset, .unset, .unset]) rfl ?_
  rcases own_nine v0 v1 v2 with gg | gg | gg | gg | gg | gg | gg | gg | gg
  · refine Own.aload X45 at_86 rfl rfl ?_
    refine Own.aload X45 at_88 rfl rfl ?_
    refine Own.iload X45 at_90 rfl ?_
    obtain ⟨d92, e_d92⟩ : ∃ v, FP.i2d v0 = v := ⟨_, rfl⟩
    obtain ⟨f_d92, z_d92⟩ := Own.i2d_v e_d92
    have n_d92 := f_d92.noNaN
    refine Own.i2d X45 at_92 e_d92 ?_
    refine Own.callV_ (y := mn_4) (z := mn_4) (a := pop) X45 at_93 (Own.wd hw 29 rfl) (Own.wd hw 30 rfl) (Own.wd hw 32 rfl) (Own.wd hw 31 rfl) rfl (Own.wd hw 12 rfl) (Own.wd hw 33 rfl) (by decide) F50 (rm5_00000 l Z a0 hw pop sa_30_1 d92 pl_81_45 oa_81_45 na_81_45 x0_81_45 x1_81_45 x2_81_45 k_pl_81_45 c_pl_81_45 k_oa_81_45 k_na_81_45 0 0 0 (0 : Int64) (0 : Int64) (0 : Int64) (0 : Int64) k_sa_30_1 (i1 >>> ((1 : Int32) &&& 31)) ((i1 >>> ((1 : Int32) &&& 31)) + (1073741824 : Int32)) (0 : Int32) (0 : Int32) h45 n0 Z51 F50 G45_0 G45_1 G45_2 G45_3 G45_4 G45_5 G45_6 G45_7 G45_8 G45_11 G45_12 F46 ne56 ne80 ne86 ne62 ne68 ne74 U45_3 U45_4 U45_0 U45_1 U45_2 U45_14 (Ne.symm U45_7) (Ne.symm U45_10) (Ne.symm U45_12) (Ne.symm U45_8) (Ne.symm U45_11) (Ne.symm U45_13) U45_5 U45_6 U45_9 ne28 ne52 ne76 ne82 ne58 ne64 ne70 fr32 fr63 fr69 fr75 fr81 fr87 n_d92 ) (lenOf pd_17 rfl) rfl (argsL := [.ref sa_30_1, .double d92]) (rest := []) rfl (W := 0) (Nat.le_of_eq rfl) (by decide) (by decide) (by decide) (by decide) fun T88 h88 v88 X88 q88 => ?_
    obtain ⟨rfl, K88, G88_0, G88_1, G88_2, G88_3, G88_4, G88_5, G88_6, G88_7, G88_8, G88_9⟩ := q88
    have F89 := F46.keep K88 (ninS ne28 (ninS ne58 (ninS ne76 (ninS ne82 nin0))))
    have F90 := F47.keep K88 (ninS ne29 (ninS ne59 (ninS ne77 (ninS ne83 nin0))))
    have F91 := F48.keep K88 (ninS ne30 (ninS ne60 (ninS ne78 (ninS ne84 nin0))))
    have F92 := F49.keep K88 (ninS ne31 (ninS ne61 (ninS ne79 (ninS ne85 nin0))))
    have F93 := F50.keep K88
    have F94 := G45_7.keep K88 (ninS (Ne.symm ne56) (ninS U45_0 (ninS U45_3 (ninS U45_4 nin0))))
    have F95 := G45_9.keep K88 (ninS (Ne.symm ne68) (ninS (Ne.symm U45_5) (ninS U45_10 (ninS U45_11 nin0))))
    have F96 := G45_10.keep K88 (ninS (Ne.symm ne74) (ninS (Ne.symm U45_6) (ninS U45_12 (ninS U45_13 nin0))))
    have F97 := G45_13.keep K88
    have F98 := G45_14.keep K88
    have F99 := G45_15.keep K88
    have Z100 : n0 ≤ h88.size := Nat.le_trans Z51 K88.1
    show Own.Go p e below s n0 _ _ _ (T88.setTop (mkF m 96 _ []))
    clear F46 F47 F48 F49 F50 G45_0 G45_1 G45_10 G45_11 G45_12 G45_13 G45_14 G45_15 G45_2 G45_3 G45_4 G45_5 G45_6 G45_7 G45_8 G45_9 X45
    refine Own.aload X88 at_96 rfl rfl ?_
    refine Own.aload X88 at_98 rfl rfl ?_
    refine Own.iload X88 at_100 rfl ?_
    obtain ⟨d102, e_d102⟩ : ∃ v, FP.i2d v1 = v := ⟨_, rfl⟩
    obtain ⟨f_d102, z_d102⟩ := Own.i2d_v e_d102
    have n_d102 := f_d102.noNaN
    refine Own.i2d X88 at_102 e_d102 ?_
    refine Own.callV_ (y := mn_4) (z := mn_4) (a := pop) X88 at_103 (Own.wd hw 29 rfl) (Own.wd hw 30 rfl) (Own.wd hw 32 rfl) (Own.wd hw 31 rfl) rfl (Own.wd hw 12 rfl) (Own.wd hw 33 rfl) (by decide) F93 (rm5_10010 l Z a0 hw pop sa_36_4 d102 pl_81_45 oa_81_45 na_81_45 x0_81_45 x1_81_45 x2_81_45 k_pl_81_45 c_pl_81_45 k_oa_81_45 k_na_81_45 d92 0 0 (0 : Int64) (0 : Int64) (0 : Int64) ((0 : Int64) + (1 : Int64)) k_sa_36_4 (i2 >>> ((1 : Int32) &&& 31)) ((i2 >>> ((1 : Int32) &&& 31)) + (1073741824 : Int32)) (0 : Int32) (0 : Int32) h88 n0 Z100 F93 G88_0 G88_1 G88_2 G88_3 G88_4 G88_5 G88_6 F94 F95 G88_8 G88_9 F90 ne56 ne80 ne86 ne62 ne68 ne74 U45_3 U45_4 U45_0 U45_1 U45_2 U45_14 (Ne.symm U45_7) (Ne.symm U45_10) (Ne.symm U45_12) (Ne.symm U45_8) (Ne.symm U45_11) (Ne.symm U45_13) U45_5 U45_6 U45_9 ne29 ne53 ne77 ne83 ne59 ne65 ne71 fr32 fr63 fr69 fr75 fr81 fr87 n_d102 n_d92 (by rw [z_d92, z_d102]; exact Own.U_lt.mpr (by omega)) (by rw [z_d92, z_d102]; exact Own.U_le.mpr (by omega))) (lenOf pd_17 rfl) rfl (argsL := [.ref sa_36_4, .double d102]) (rest := []) rfl (W := 0) (Nat.le_of_eq rfl) (by decide) (by decide) (by decide) (by decide) fun T101 h101 v101 X101 q101 => ?_
    obtain ⟨rfl, K101, G101_0, G101_1, G101_2, G101_3, G101_4, G101_5, G101_6, G101_7, G101_8, G101_9⟩ := q101
    have F102 := F89.keep K101 (ninS ne28 (ninS ne64 (ninS ne76 (ninS ne82 nin0))))
    have F103 := F90.keep K101 (ninS ne29 (ninS ne65 (ninS ne77 (ninS ne83 nin0))))
    have F104 := F91.keep K101 (ninS ne30 (ninS ne66 (ninS ne78 (ninS ne84 nin0))))
    have F105 := F92.keep K101 (ninS ne31 (ninS ne67 (ninS ne79 (ninS ne85 nin0))))
    have F106 := F93.keep K101
    have F107 := F94.keep K101 (ninS (Ne.symm ne56) (ninS U45_1 (ninS U45_3 (ninS U45_4 nin0))))
    have F108 := F96.keep K101 (ninS (Ne.symm ne74) (ninS (Ne.symm U45_9) (ninS U45_12 (ninS U45_13 nin0))))
    have F109 := F97.keep K101
    have F110 := F98.keep K101
    have F111 := F99.keep K101
    have F112 := G88_7.keep K101 (ninS (Ne.symm ne62) (ninS U45_5 (ninS U45_7 (ninS U45_8 nin0))))
    have Z113 : n0 ≤ h101.size := Nat.le_trans Z100 K101.1
    show Own.Go p e below s n0 _ _ _ (T101.setTop (mkF m 106 _ []))
    clear F89 F90 F91 F92 F93 F94 F95 F96 F97 F98 F99 G88_0 G88_1 G88_2 G88_3 G88_4 G88_5 G88_6 G88_7 G88_8 G88_9 X88
    refine Own.aload X101 at_106 rfl rfl ?_
    refine Own.aload X101 at_108 rfl rfl ?_
    refine Own.iload X101 at_110 rfl ?_
    obtain ⟨d112, e_d112⟩ : ∃ v, FP.i2d v2 = v := ⟨_, rfl⟩
    obtain ⟨f_d112, z_d112⟩ := Own.i2d_v e_d112
    have n_d112 := f_d112.noNaN
    refine Own.i2d X101 at_112 e_d112 ?_
    refine Own.callV_ (y := mn_4) (z := mn_4) (a := pop) X101 at_113 (Own.wd hw 29 rfl) (Own.wd hw 30 rfl) (Own.wd hw 32 rfl) (Own.wd hw 31 rfl) rfl (Own.wd hw 12 rfl) (Own.wd hw 33 rfl) (by decide) F106 (rm5_21020 l Z a0 hw pop sa_42_9 d112 pl_81_45 oa_81_45 na_81_45 x0_81_45 x1_81_45 x2_81_45 k_pl_81_45 c_pl_81_45 k_oa_81_45 k_na_81_45 d92 d102 0 (0 : Int64) ((0 : Int64) + (1 : Int64)) (0 : Int64) (((0 : Int64) + (1 : Int64)) + (1 : Int64)) k_sa_42_9 (i3 >>> ((1 : Int32) &&& 31)) ((i3 >>> ((1 : Int32) &&& 31)) + (1073741824 : Int32)) (0 : Int32) (0 : Int32) h101 n0 Z113 F106 G101_0 G101_1 G101_2 G101_3 G101_4 G101_5 G101_6 F107 F108 G101_8 G101_9 F104 ne56 ne80 ne86 ne62 ne68 ne74 U45_3 U45_4 U45_0 U45_1 U45_2 U45_14 (Ne.symm U45_7) (Ne.symm U45_10) (Ne.symm U45_12) (Ne.symm U45_8) (Ne.symm U45_11) (Ne.symm U45_13) U45_5 U45_6 U45_9 ne30 ne54 ne78 ne84 ne60 ne66 ne72 fr32 fr63 fr69 fr75 fr81 fr87 n_d112 n_d92 n_d102 (by rw [z_d102, z_d112]; exact Own.U_lt.mpr (by omega)) (by rw [z_d92, z_d112]; exact Own.U_le.mpr (by omega))) (lenOf pd_17 rfl) rfl (argsL := [.ref sa_42_9, .double d112]) (rest := []) rfl (W := 0) (Nat.le_of_eq rfl) (by decide) (by decide) (by decide) (by decide) fun T114 h114 v114 X114 q114 => ?_
    obtain ⟨rfl, K114, G114_0, G114_1, G114_2, G114_3, G114_4, G114_5, G114_6, G114_7, G114_8, G114_9⟩ := q114
    have F115 := F102.keep K114 (ninS ne28 (ninS ne70 (ninS ne76 (ninS ne82 nin0))))
    have F116 := F103.keep K114 (ninS ne29 (ninS ne71 (ninS ne77 (ninS ne83 nin0))))
    have F117 := F104.keep K114 (ninS ne30 (ninS ne72 (ninS ne78 (ninS ne84 nin0))))
    have F118 := F105.keep K114 (ninS ne31 (ninS ne73 (ninS ne79 (ninS ne85 nin0))))
    have F119 := F106.keep K114
    have F120 := F107.keep K114 (ninS (Ne.symm ne56) (ninS U45_2 (ninS U45_3 (ninS U45_4 nin0))))
    have F121 := F109.keep K114
    have F122 := F110.keep K114
    have F123 := F111.keep K114
    have F124 := F112.keep K114 (ninS (Ne.symm ne62) (ninS U45_6 (ninS U45_7 (ninS U45_8 nin0))))
    have F125 := G101_7.keep K114 (ninS (Ne.symm ne68) (ninS U45_9 (ninS U45_10 (ninS U45_11 nin0))))
    have Z126 : n0 ≤ h114.size := Nat.le_trans Z113 K114.1
    show Own.Go p e below s n0 _ _ _ (T114.setTop (mkF m 116 _ []))
    clear F102 F103 F104 F105 F106 F107 F108 F109 F110 F111 F112 G101_0 G101_1 G101_2 G101_3 G101_4 G101_5 G101_6 G101_7 G101_8 G101_9 X101
    refine Own.iconst X114 (v := 0) at_116 rfl ?_
    refine Own.istore X114 at_117 (l' := #[.val (.int i0), .val (.int i1), .val (.int i2), .val (.int i3), .val (.int i4), .val (.int v0), .val (.int v1), .val (.int v2), .val (.ref sa_30_1), .val (.ref sa_36_4), .val (.ref sa_42_9), .val (.ref sa_49_16), .val (.int mn), .val (.double d72), .second, .val (.ref pop), .val (.int (0 : Int32)), .unset, .unset, .unset, .unset, .unset, .unset, .unset, .unset, .unset, .unset, .unset]) rfl ?_
    refine Own.iload X114 at_119 rfl ?_
    refine Own.istore X114 at_121 (l' := #[.val (.int i0), .val (.int i1), .val (.int i2), .val (.int i3), .val (.int i4), .val (.int v0), .val (.int v1), .val (.int v2), .val (.ref sa_30_1), .val (.ref sa_36_4), .val (.ref sa_42_9), .val (.ref sa_49_16), .val (.int mn), .val (.double d72), .second, .val (.ref pop), .val (.int (0 : Int32)), .val (.int v0), .unset, .unset, .unset, .unset, .unset, .unset, .unset, .unset, .unset, .unset]) rfl ?_
    refine Own.iload X114 at_123 rfl ?_
    refine Own.iload X114 at_125 rfl ?_
    refine Own.icmp_ X114 (pc' := 137) at_127 (by decide) (fun _ => ?_) (fun q => absurd (show v0.toInt ≤ v1.toInt from by omega) q)
    refine Own.iload X114 at_137 rfl ?_
    refine Own.iload X114 at_139 rfl ?_
    refine Own.icmp_ X114 (pc' := 151) at_141 (by decide) (fun _ => ?_) (fun q => absurd (show v0.toInt ≤ v2.toInt from by omega) q)
    refine Own.iconst X114 (v := 0) at_151 rfl ?_
    refine Own.istore X114 at_152 (l' := #[.val (.int i0), .val (.int i1), .val (.int i2), .val (.int i3), .val (.int i4), .val (.int v0), .val (.int v1), .val (.int v2), .val (.ref sa_30_1), .val (.ref sa_36_4), .val (.ref sa_42_9), .val (.ref sa_49_16), .val (.int mn), .val (.double d72), .second, .val (.ref pop), .val (.int (0 : Int32)), .val (.int v0), .val (.int (0 : Int32)), .unset, .unset, .unset, .unset, .unset, .unset, .unset, .unset, .unset]) rfl ?_
    refine Own.iload X114 at_154 rfl ?_
    refine Own.istore X114 at_156 (l' := #[.val (.int i0), .val (.int i1), .val (.int i2), .val (.int i3), .val (.int i4), .val (.int v0), .val (.int v1), .val (.int v2), .val (.ref sa_30_1), .val (.ref sa_36_4), .val (.ref sa_42_9), .val (.ref sa_49_16), .val (.int mn), .val (.double d72), .second, .val (.ref pop), .val (.int (0 : Int32)), .val (.int v0), .val (.int (0 : Int32)), .val (.int v0), .unset, .unset, .unset, .unset, .unset, .unset, .unset, .unset]) rfl ?_
    refine Own.iload X114 at_158 rfl ?_
    refine Own.iload X114 at_160 rfl ?_
    refine Own.icmp_ X114 (pc' := 172) at_162 (by decide) (fun q => absurd (show v1.toInt ≤ v0.toInt from q) (show ¬ (v1.toInt ≤ v0.toInt) from by omega)) (fun _ => ?_)
    refine Own.iconst X114 (v := 1) at_165 rfl ?_
    refine Own.istore X114 at_166 (l' := #[.val (.int i0), .val (.int i1), .val (.int i2), .val (.int i3), .val (.int i4), .val (.int v0), .val (.int v1), .val (.int v2), .val (.ref sa_30_1), .val (.ref sa_36_4), .val (.ref sa_42_9), .val (.ref sa_49_16), .val (.int mn), .val (.double d72), .second, .val (.ref pop), .val (.int (0 : Int32)), .val (.int v0), .val (.int (1 : Int32)), .val (.int v0), .unset, .unset, .unset, .unset, .unset, .unset, .unset, .unset]) rfl ?_
    refine Own.iload X114 at_168 rfl ?_
    refine Own.istore X114 at_170 (l' := #[.val (.int i0), .val (.int i1), .val (.int i2), .val (.int i3), .val (.int i4), .val (.int v0), .val (.int v1), .val (.int v2), .val (.ref sa_30_1), .val (.ref sa_36_4), .val (.ref sa_42_9), .val (.ref sa_49_16), .val (.int mn), .val (.double d72), .second, .val (.ref pop), .val (.int (0 : Int32)), .val (.int v0), .val (.int (1 : Int32)), .val (.int v1), .unset, .unset, .unset, .unset, .unset, .unset, .unset, .unset]) rfl ?_
    refine Own.iload X114 at_172 rfl ?_
    refine Own.iload X114 at_174 rfl ?_
    refine Own.icmp_ X114 (pc' := 186) at_176 (by decide) (fun q => absurd (show v2.toInt ≤ v1.toInt from q) (show ¬ (v2.toInt ≤ v1.toInt) from by omega)) (fun _ => ?_)
    refine Own.iconst X114 (v := 2) at_179 rfl ?_
    refine Own.istore X114 at_180 (l' := #[.val (.int i0), .val (.int i1), .val (.int i2), .val (.int i3), .val (.int i4), .val (.int v0), .val (.int v1), .val (.int v2), .val (.ref sa_30_1), .val (.ref sa_36_4), .val (.ref sa_42_9), .val (.ref sa_49_16), .val (.int mn), .val (.double d72), .second, .val (.ref pop), .val (.int (0 : Int32)), .val (.int v0), .val (.int (2 : Int32)), .val (.int v1), .unset, .unset, .unset, .unset, .unset, .unset, .unset, .unset]) rfl ?_
    refine Own.iload X114 at_182 rfl ?_
    refine Own.istore X114 at_184 (l' := #[.val (.int i0), .val (.int i1), .val (.int i2), .val (.int i3), .val (.int i4), .val (.int v0), .val (.int v1), .val (.int v2), .val (.ref sa_30_1), .val (.ref sa_36_4), .val (.ref sa_42_9), .val (.ref sa_49_16), .val (.int mn), .val (.double d72), .second, .val (.ref pop), .val (.int (0 : Int32)), .val (.int v0), .val (.int (2 : Int32)), .val (.int v2), .unset, .unset, .unset, .unset, .unset, .unset, .unset, .unset]) rfl ?_
    refine Own.iload X114 at_186 rfl ?_
    refine Own.iff_ X114 (pc' := 195) at_188 (by decide) (fun q => absurd (show ¬ ((0 : Int) = (0 : Int)) from q) (show ¬ (¬ ((0 : Int) = (0 : Int))) from fun z => z (by decide))) (fun _ => ?_)
    refine Own.iloadN X114 at_191 rfl ?_
    refine Own.goto_ X114 (pc' := 206) at_192 (by decide) ?_
    refine Own.istore X114 at_206 (l' := #[.val (.int i0), .val (.int i1), .val (.int i2), .val (.int i3), .val (.int i4), .val (.int v0), .val (.int v1), .val (.int v2), .val (.ref sa_30_1), .val (.ref sa_36_4), .val (.ref sa_42_9), .val (.ref sa_49_16), .val (.int mn), .val (.double d72), .second, .val (.ref pop), .val (.int (0 : Int32)), .val (.int v0), .val (.int (2 : Int32)), .val (.int v2), .val (.int i1), .unset, .unset, .unset, .unset, .unset, .unset, .unset]) rfl ?_
    refine Own.aload X114 at_208 rfl rfl ?_
    refine Own.callV_ (y := mn_5) (z := mn_5) (a := pop) X114 at_210 (Own.wd hw 50 rfl) (Own.wd hw 51 rfl) (Own.wd hw 53 rfl) (Own.wd hw 52 rfl) rfl (Own.wd hw 12 rfl) (Own.wd hw 54 rfl) (by decide) F119 (rm7 l Z a0 hw pop (3 : Int32) h114 n0 Z126 G114_3 ) (lenOf pd_18 rfl) rfl (argsL := []) (rest := []) rfl (W := 0) (Nat.le_of_eq rfl) (by decide) (by decide) (by decide) (by decide) fun T127 h127 v127 X127 q127 => ?_
    obtain ⟨rfl, rfl⟩ := q127
    show Own.Go p e below s n0 _ _ _ (T127.setTop (mkF m 213 _ [.int (3 : Int32)]))
    clear X114
    refine Own.iconst X127 (v := 3) at_213 rfl ?_
    refine Own.icmp_ X127 (pc' := 221) at_214 (by decide) (fun q => absurd (show ¬ ((3 : Int) = (3 : Int)) from q) (show ¬ (¬ ((3 : Int) = (3 : Int))) from fun z => z (by decide))) (fun _ => ?_)
    refine Own.iconst X127 (v := 1) at_217 rfl ?_
    refine Own.goto_ X127 (pc' := 222) at_218 (by decide) ?_
    refine Own.istore X127 at_222 (l' := #[.val (.int i0), .val (.int i1), .val (.int i2), .val (.int i3), .val (.int i4), .val (.int v0), .val (.int v1), .val (.int v2), .val (.ref sa_30_1), .val (.ref sa_36_4), .val (.ref sa_42_9), .val (.ref sa_49_16), .val (.int mn), .val (.double d72), .second, .val (.ref pop), .val (.int (0 : Int32)), .val (.int v0), .val (.int (2 : Int32)), .val (.int v2), .val (.int i1), .val (.int (1 : Int32)), .unset, .unset, .unset, .unset, .unset, .unset]) rfl ?_
    refine Own.aload X127 at_224 rfl rfl ?_
    refine Own.callV_ (y := mn_6) (z := mn_6) (a := pop) X127 at_226 (Own.wd hw 55 rfl) (Own.wd hw 56 rfl) (Own.wd hw 58 rfl) (Own.wd hw 57 rfl) rfl (Own.wd hw 12 rfl) (Own.wd hw 59 rfl) (by decide) F119 (rm8_0 l Z a0 hw pop oa_81_45 k_oa_81_45 d92 d102 d112 h114 n0 Z126 G114_1 G114_6 G114_8 ) (lenOf pd_19 rfl) rfl (argsL := []) (rest := []) rfl (W := 0) (Nat.le_of_eq rfl) (by decide) (by decide) (by decide) (by decide) fun T128 h128 v128 X128 q128 => ?_
    obtain ⟨rfl, rfl⟩ := q128
    show Own.Go p e below s n0 _ _ _ (T128.setTop (mkF m 229 _ [.double d92]))
    clear X127
    refine Own.iload X128 at_229 rfl ?_
    obtain ⟨d231, e_d231⟩ : ∃ v, FP.i2d v0 = v := ⟨_, rfl⟩
    obtain ⟨f_d231, z_d231⟩ := Own.i2d_v e_d231
    have n_d231 := f_d231.noNaN
    refine Own.i2d X128 at_231 e_d231 ?_
    refine Own.dcmpF X128 (pc' := 240) at_232 at_233 (by decide) n_d92 n_d231 (fun q => absurd (show ¬ (Own.dz d92 = Own.dz d231) from q) (show ¬ (¬ (Own.dz d92 = Own.dz d231)) from fun z => z (by rw [z_d92, z_d231]))) (fun _ => ?_)
    refine Own.iconst X128 (v := 1) at_236 rfl ?_
    refine Own.goto_ X128 (pc' := 241) at_237 (by decide) ?_
    refine Own.istore X128 at_241 (l' := #[.val (.int i0), .val (.int i1), .val (.int i2), .val (.int i3), .val (.int i4), .val (.int v0), .val (.int v1), .val (.int v2), .val (.ref sa_30_1), .val (.ref sa_36_4), .val (.ref sa_42_9), .val (.ref sa_49_16), .val (.int mn), .val (.double d72), .second, .val (.ref pop), .val (.int (0 : Int32)), .val (.int v0), .val (.int (2 : Int32)), .val (.int v2), .val (.int i1), .val (.int (1 : Int32)), .val (.int (1 : Int32)), .unset, .unset, .unset, .unset, .unset]) rfl ?_
    refine Own.aload X128 at_243 rfl rfl ?_
    refine Own.callV_ (y := mn_7) (z := mn_7) (a := pop) X128 at_245 (Own.wd hw 60 rfl) (Own.wd hw 61 rfl) (Own.wd hw 63 rfl) (Own.wd hw 62 rfl) rfl (Own.wd hw 12 rfl) (Own.wd hw 64 rfl) (by decide) F119 (rm9_0 l Z a0 hw pop pl_81_45 x0_81_45 x1_81_45 x2_81_45 k_pl_81_45 c_pl_81_45 (i1 >>> ((1 : Int32) &&& 31)) ((i1 >>> ((1 : Int32) &&& 31)) + (1073741824 : Int32)) h114 n0 Z126 G114_0 G114_6 F120 F124 F121 ) (lenOf pd_20 rfl) rfl (argsL := []) (rest := []) rfl (W := 0) (Nat.le_of_eq rfl) (by decide) (by decide) (by decide) (by decide) fun T129 h129 v129 X129 q129 => ?_
    obtain ⟨cl_245_129, rfl, K129, B129_0, G129_0⟩ := q129
    have F130 := F115.keep K129 nin0
    have F131 := F116.keep K129 nin0
    have F132 := F117.keep K129 nin0
    have F133 := F118.keep K129 nin0
    have F134 := F119.keep K129
    have F135 := F120.keep K129 nin0
    have F136 := F121.keep K129
    have F137 := F122.keep K129
    have F138 := F123.keep K129
    have F139 := F124.keep K129 nin0
    have F140 := F125.keep K129 nin0
    have F141 := G114_0.keep K129 nin0
    have F142 := G114_1.keep K129 nin0
    have F143 := G114_2.keep K129 nin0
    have F144 := G114_3.keep K129 nin0
    have F145 := G114_4.keep K129 nin0
    have F146 := G114_5.keep K129 nin0
    have F147 := G114_6.keep K129 nin0
    have F148 := G114_7.keep K129 nin0
    have F149 := G114_8.keep K129 nin0
    have F150 := G114_9.keep K129 nin0
    have Z151 : n0 ≤ h129.size := Nat.le_trans Z126 K129.1
    have ne152 : sa_30_1 ≠ cl_245_129 := Nat.ne_of_lt (Nat.lt_of_lt_of_le F115.lt B129_0)
    have ne153 : sa_36_4 ≠ cl_245_129 := Nat.ne_of_lt (Nat.lt_of_lt_of_le F116.lt B129_0)
    have ne154 : sa_42_9 ≠ cl_245_129 := Nat.ne_of_lt (Nat.lt_of_lt_of_le F117.lt B129_0)
    have ne155 : sa_49_16 ≠ cl_245_129 := Nat.ne_of_lt (Nat.lt_of_lt_of_le F118.lt B129_0)
    have ne156 : pop ≠ cl_245_129 := Nat.ne_of_lt (Nat.lt_of_lt_of_le F119.lt B129_0)
    have ne157 : pl_81_45 ≠ cl_245_129 := Nat.ne_of_lt (Nat.lt_of_lt_of_le F120.lt B129_0)
    have ne158 : x0_81_45 ≠ cl_245_129 := Nat.ne_of_lt (Nat.lt_of_lt_of_le F121.lt B129_0)
    have ne159 : x1_81_45 ≠ cl_245_129 := Nat.ne_of_lt (Nat.lt_of_lt_of_le F122.lt B129_0)
    have ne160 : x2_81_45 ≠ cl_245_129 := Nat.ne_of_lt (Nat.lt_of_lt_of_le F123.lt B129_0)
    have ne161 : oa_81_45 ≠ cl_245_129 := Nat.ne_of_lt (Nat.lt_of_lt_of_le G114_8.lt B129_0)
    have ne162 : na_81_45 ≠ cl_245_129 := Nat.ne_of_lt (Nat.lt_of_lt_of_le G114_9.lt B129_0)
    have fr163 : n0 ≤ cl_245_129 := Nat.le_trans Z126 B129_0
    show Own.Go p e below s n0 _ _ _ (T129.setTop (mkF m 248 _ [.ref cl_245_129]))
    clear F115 F116 F117 F118 F119 F120 F121 F122 F123 F124 F125 G114_0 G114_1 G114_2 G114_3 G114_4 G114_5 G114_6 G114_7 G114_8 G114_9 X128
    refine Own.iload X129 at_248 rfl ?_
    refine Own.callS_ (y := mn_13) X129 at_250 (Own.wd hw 74 rfl) (Own.wd hw 75 rfl) (Own.wd hw 2 rfl) (Own.wd hw 76 rfl) (by decide) (rm10 l Z a0 hw cl_245_129 i1 c_pl_81_45 (i1 >>> ((1 : Int32) &&& 31)) ((i1 >>> ((1 : Int32) &&& 31)) + (1073741824 : Int32)) h129 n0 Z151 G129_0 rfl rfl) (lenOf pd_21 rfl) rfl (argsL := [.ref cl_245_129, .int i1]) (rest := []) rfl (W := 0) (Nat.le_of_eq rfl) (by decide) (by decide) (by decide) (by decide) fun T164 h164 v164 X164 q164 => ?_
    obtain ⟨rfl, rfl⟩ := q164
    show Own.Go p e below s n0 _ _ _ (T164.setTop (mkF m 253 _ [.int (1 : Int32)]))
    clear X129
    refine Own.istore X164 at_253 (l' := #[.val (.int i0), .val (.int i1), .val (.int i2), .val (.int i3), .val (.int i4), .val (.int v0), .val (.int v1), .val (.int v2), .val (.ref sa_30_1), .val (.ref sa_36_4), .val (.ref sa_42_9), .val (.ref sa_49_16), .val (.int mn), .val (.double d72), .second, .val (.ref pop), .val (.int (0 : Int32)), .val (.int v0), .val (.int (2 : Int32)), .val (.int v2), .val (.int i1), .val (.int (1 : Int32)), .val (.int (1 : Int32)), .val (.int (1 : Int32)), .unset, .unset, .unset, .unset]) rfl ?_
    refine Own.aload X164 at_255 rfl rfl ?_
    refine Own.aload X164 at_257 rfl rfl ?_
    refine Own.dload X164 at_259 rfl ?_
    refine Own.callV_ (y := mn_11) (z := mn_11) (a := pop) X164 at_261 (Own.wd hw 77 rfl) (Own.wd hw 78 rfl) (Own.wd hw 80 rfl) (Own.wd hw 79 rfl) rfl (Own.wd hw 12 rfl) (Own.wd hw 81 rfl) (by decide) F134 (rm11_2N l Z a0 hw pop sa_49_16 d72 pl_81_45 oa_81_45 na_81_45 x0_81_45 x1_81_45 x2_81_45 k_pl_81_45 c_pl_81_45 k_oa_81_45 k_na_81_45 d92 d102 d112 (0 : Int64) ((0 : Int64) + (1 : Int64)) (((0 : Int64) + (1 : Int64)) + (1 : Int64)) ((((0 : Int64) + (1 : Int64)) + (1 : Int64)) + (1 : Int64)) k_sa_49_16 (i4 >>> ((1 : Int32) &&& 31)) ((i4 >>> ((1 : Int32) &&& 31)) + (1073741824 : Int32)) (0 : Int32) (i3 >>> ((1 : Int32) &&& 31)) ((i3 >>> ((1 : Int32) &&& 31)) + (1073741824 : Int32)) h129 n0 Z151 F134 F141 F142 F143 F144 F145 F146 F147 F135 F148 F149 F150 F133 ne56 ne80 ne86 ne62 ne68 ne74 U45_3 U45_4 U45_0 U45_1 U45_2 U45_14 (Ne.symm U45_7) (Ne.symm U45_10) (Ne.symm U45_12) (Ne.symm U45_8) (Ne.symm U45_11) (Ne.symm U45_13) U45_5 U45_6 U45_9 ne31 ne55 ne79 ne85 ne61 ne67 ne73 fr32 fr63 fr69 fr75 fr81 fr87 n_d72 n_d92 n_d102 n_d112 (by rw [z_d72, z_d92]; exact Own.U_lt.mpr (by omega)) (by rw [z_d72, z_d102]; exact Own.U_lt.mpr (by omega)) (by rw [z_d72, z_d112]; exact Own.U_lt.mpr (by omega)) d92 (by decide) rfl n_d92 (by rw [z_d72, z_d92]; exact Own.U_lt.mpr (by omega))) (lenOf pd_10 rfl) rfl (argsL := [.ref sa_49_16, .double d72]) (rest := []) rfl (W := 0) (Nat.le_of_eq rfl) (by decide) (by decide) (by decide) (by decide) fun T165 h165 v165 X165 q165 => ?_
    obtain ⟨rfl, K165, G165_0, G165_1, G165_2⟩ := q165
    have F166 := F130.keep K165 (ninS ne28 (ninS ne70 (ninS ne76 (ninS ne82 nin0))))
    have F167 := F131.keep K165 (ninS ne29 (ninS ne71 (ninS ne77 (ninS ne83 nin0))))
    have F168 := F132.keep K165 (ninS ne30 (ninS ne72 (ninS ne78 (ninS ne84 nin0))))
    have F169 := F133.keep K165 (ninS ne31 (ninS ne73 (ninS ne79 (ninS ne85 nin0))))
    have F170 := F134.keep K165
    have F171 := F135.keep K165 (ninS (Ne.symm ne56) (ninS U45_2 (ninS U45_3 (ninS U45_4 nin0))))
    have F172 := F136.keep K165
    have F173 := F137.keep K165
    have F174 := F138.keep K165
    have F175 := F139.keep K165 (ninS (Ne.symm ne62) (ninS U45_6 (ninS U45_7 (ninS U45_8 nin0))))
    have F176 := F140.keep K165 (ninS (Ne.symm ne68) (ninS U45_9 (ninS U45_10 (ninS U45_11 nin0))))
    have F177 := G129_0.keep K165 (ninS (Ne.symm ne156) (ninS (Ne.symm ne160) (ninS (Ne.symm ne161) (ninS (Ne.symm ne162) nin0))))
    have Z178 : n0 ≤ h165.size := Nat.le_trans Z151 K165.1
    show Own.Go p e below s n0 _ _ _ (T165.setTop (mkF m 264 _ [.int (1 : Int32)]))
    clear F130 F131 F132 F133 F134 F135 F136 F137 F138 F139 F140 F141 F142 F143 F144 F145 F146 F147 F148 F149 F150 G129_0 X164
    refine Own.istore X165 at_264 (l' := #[.val (.int i0), .val (.int i1), .val (.int i2), .val (.int i3), .val (.int i4), .val (.int v0), .val (.int v1), .val (.int v2), .val (.ref sa_30_1), .val (.ref sa_36_4), .val (.ref sa_42_9), .val (.ref sa_49_16), .val (.int mn), .val (.double d72), .second, .val (.ref pop), .val (.int (0 : Int32)), .val (.int v0), .val (.int (2 : Int32)), .val (.int v2), .val (.int i1), .val (.int (1 : Int32)), .val (.int (1 : Int32)), .val (.int (1 : Int32)), .val (.int (1 : Int32)), .unset, .unset, .unset]) rfl ?_
    refine Own.aload X165 at_266 rfl rfl ?_
    refine Own.iconst X165 (v := 0) at_268 rfl ?_
    refine Own.callV_ (y := mn_8) (z := mn_8) (a := pop) X165 at_269 (Own.wd hw 86 rfl) (Own.wd hw 87 rfl) (Own.wd hw 89 rfl) (Own.wd hw 88 rfl) rfl (Own.wd hw 12 rfl) (Own.wd hw 90 rfl) (by decide) F170 (rm13_0 l Z a0 hw pop pl_81_45 x0_81_45 x1_81_45 x2_81_45 k_pl_81_45 h165 n0 Z178 G165_0 F171 ) (lenOf pd_14 rfl) rfl (argsL := [.int (0 : Int32)]) (rest := []) rfl (W := 0) (Nat.le_of_eq rfl) (by decide) (by decide) (by decide) (by decide) fun T179 h179 v179 X179 q179 => ?_
    obtain ⟨rfl, rfl⟩ := q179
    show Own.Go p e below s n0 _ _ _ (T179.setTop (mkF m 272 _ [.ref x0_81_45]))
    clear X165
    refine Own.iload X179 at_272 rfl ?_
    refine Own.iff_ X179 (pc' := 282) at_274 (by decide) (fun _ => ?_) (fun q => absurd (show ¬ ((2 : Int) = (0 : Int)) from by decide) q)
    refine Own.iloadN X179 at_282 rfl ?_
    refine Own.callS_ (y := mn_13) X179 at_283 (Own.wd hw 74 rfl) (Own.wd hw 75 rfl) (Own.wd hw 2 rfl) (Own.wd hw 76 rfl) (by decide) (rm10 l Z a0 hw x0_81_45 i1 c_pl_81_45 (i1 >>> ((1 : Int32) &&& 31)) ((i1 >>> ((1 : Int32) &&& 31)) + (1073741824 : Int32)) h165 n0 Z178 F175 rfl rfl) (lenOf pd_21 rfl) rfl (argsL := [.ref x0_81_45, .int i1]) (rest := []) rfl (W := 0) (Nat.le_of_eq rfl) (by decide) (by decide) (by decide) (by decide) fun T180 h180 v180 X180 q180 => ?_
    obtain ⟨rfl, rfl⟩ := q180
    show Own.Go p e below s n0 _ _ _ (T180.setTop (mkF m 286 _ [.int (1 : Int32)]))
    clear X179
    refine Own.istore X180 at_286 (l' := #[.val (.int i0), .val (.int i1), .val (.int i2), .val (.int i3), .val (.int i4), .val (.int v0), .val (.int v1), .val (.int v2), .val (.ref sa_30_1), .val (.ref sa_36_4), .val (.ref sa_42_9), .val (.ref sa_49_16), .val (.int mn), .val (.double d72), .second, .val (.ref pop), .val (.int (0 : Int32)), .val (.int v0), .val (.int (2 : Int32)), .val (.int v2), .val (.int i1), .val (.int (1 : Int32)), .val (.int (1 : Int32)), .val (.int (1 : Int32)), .val (.int (1 : Int32)), .val (.int (1 : Int32)), .unset, .unset]) rfl ?_
    refine Own.aload X180 at_288 rfl rfl ?_
    refine Own.iconst X180 (v := 1) at_290 rfl ?_
    refine Own.callV_ (y := mn_8) (z := mn_8) (a := pop) X180 at_291 (Own.wd hw 86 rfl) (Own.wd hw 87 rfl) (Own.wd hw 89 rfl) (Own.wd hw 88 rfl) rfl (Own.wd hw 12 rfl) (Own.wd hw 90 rfl) (by decide) F170 (rm13_1 l Z a0 hw pop pl_81_45 x0_81_45 x1_81_45 x2_81_45 k_pl_81_45 h165 n0 Z178 G165_0 F171 ) (lenOf pd_14 rfl) rfl (argsL := [.int (1 : Int32)]) (rest := []) rfl (W := 0) (Nat.le_of_eq rfl) (by decide) (by decide) (by decide) (by decide) fun T181 h181 v181 X181 q181 => ?_
    obtain ⟨rfl, rfl⟩ := q181
    show Own.Go p e below s n0 _ _ _ (T181.setTop (mkF m 294 _ [.ref x1_81_45]))
    clear X180
    refine Own.iload X181 at_294 rfl ?_
    refine Own.iconst X181 (v := 1) at_296 rfl ?_
    refine Own.icmp_ X181 (pc' := 305) at_297 (by decide) (fun _ => ?_) (fun q => absurd (show ¬ ((2 : Int) = (1 : Int)) from by decide) q)
    refine Own.iloadN X181 at_305 rfl ?_
    refine Own.callS_ (y := mn_13) X181 at_306 (Own.wd hw 74 rfl) (Own.wd hw 75 rfl) (Own.wd hw 2 rfl) (Own.wd hw 76 rfl) (by decide) (rm10 l Z a0 hw x1_81_45 i2 c_pl_81_45 (i2 >>> ((1 : Int32) &&& 31)) ((i2 >>> ((1 : Int32) &&& 31)) + (1073741824 : Int32)) h165 n0 Z178 F176 rfl rfl) (lenOf pd_21 rfl) rfl (argsL := [.ref x1_81_45, .int i2]) (rest := []) rfl (W := 0) (Nat.le_of_eq rfl) (by decide) (by decide) (by decide) (by decide) fun T182 h182 v182 X182 q182 => ?_
    obtain ⟨rfl, rfl⟩ := q182
    show Own.Go p e below s n0 _ _ _ (T182.setTop (mkF m 309 _ [.int (1 : Int32)]))
    clear X181
    refine Own.istore X182 at_309 (l' := #[.val (.int i0), .val (.int i1), .val (.int i2), .val (.int i3), .val (.int i4), .val (.int v0), .val (.int v1), .val (.int v2), .val (.ref sa_30_1), .val (.ref sa_36_4), .val (.ref sa_42_9), .val (.ref sa_49_16), .val (.int mn), .val (.double d72), .second, .val (.ref pop), .val (.int (0 : Int32)), .val (.int v0), .val (.int (2 : Int32)), .val (.int v2), .val (.int i1), .val (.int (1 : Int32)), .val (.int (1 : Int32)), .val (.int (1 : Int32)), .val (.int (1 : Int32)), .val (.int (1 : Int32)), .val (.int (1 : Int32)), .unset]) rfl ?_
    refine Own.aload X182 at_311 rfl rfl ?_
    refine Own.iconst X182 (v := 2) at_313 rfl ?_
    refine Own.callV_ (y := mn_8) (z := mn_8) (a := pop) X182 at_314 (Own.wd hw 86 rfl) (Own.wd hw 87 rfl) (Own.wd hw 89 rfl) (Own.wd hw 88 rfl) rfl (Own.wd hw 12 rfl) (Own.wd hw 90 rfl) (by decide) F170 (rm13_2 l Z a0 hw pop pl_81_45 x0_81_45 x1_81_45 x2_81_45 k_pl_81_45 h165 n0 Z178 G165_0 F171 ) (lenOf pd_14 rfl) rfl (argsL := [.int (2 : Int32)]) (rest := []) rfl (W := 0) (Nat.le_of_eq rfl) (by decide) (by decide) (by decide) (by decide) fun T183 h183 v183 X183 q183 => ?_
    obtain ⟨rfl, rfl⟩ := q183
    show Own.Go p e below s n0 _ _ _ (T183.setTop (mkF m 317 _ [.ref x2_81_45]))
    clear X182
    refine Own.iload X183 at_317 rfl ?_
    refine Own.iconst X183 (v := 2) at_319 rfl ?_
    refine Own.icmp_ X183 (pc' := 328) at_320 (by decide) (fun q => absurd (show ¬ ((2 : Int) = (2 : Int)) from q) (show ¬ (¬ ((2 : Int) = (2 : Int))) from fun z => z (by decide))) (fun _ => ?_)
    refine Own.iload X183 at_323 rfl ?_
    refine Own.goto_ X183 (pc' := 329) at_325 (by decide) ?_
    refine Own.callS_ (y := mn_13) X183 at_329 (Own.wd hw 74 rfl) (Own.wd hw 75 rfl) (Own.wd hw 2 rfl) (Own.wd hw 76 rfl) (by decide) (rm10 l Z a0 hw x2_81_45 i4 c_pl_81_45 (i4 >>> ((1 : Int32) &&& 31)) ((i4 >>> ((1 : Int32) &&& 31)) + (1073741824 : Int32)) h165 n0 Z178 G165_2 rfl rfl) (lenOf pd_21 rfl) rfl (argsL := [.ref x2_81_45, .int i4]) (rest := []) rfl (W := 0) (Nat.le_of_eq rfl) (by decide) (by decide) (by decide) (by decide) fun T184 h184 v184 X184 q184 => ?_
    obtain ⟨rfl, rfl⟩ := q184
    show Own.Go p e below s n0 _ _ _ (T184.setTop (mkF m 332 _ [.int (1 : Int32)]))
    clear X183
    refine Own.istore X184 at_332 (l' := #[.val (.int i0), .val (.int i1), .val (.int i2), .val (.int i3), .val (.int i4), .val (.int v0), .val (.int v1), .val (.int v2), .val (.ref sa_30_1), .val (.ref sa_36_4), .val (.ref sa_42_9), .val (.ref sa_49_16), .val (.int mn), .val (.double d72), .second, .val (.ref pop), .val (.int (0 : Int32)), .val (.int v0), .val (.int (2 : Int32)), .val (.int v2), .val (.int i1), .val (.int (1 : Int32)), .val (.int (1 : Int32)), .val (.int (1 : Int32)), .val (.int (1 : Int32)), .val (.int (1 : Int32)), .val (.int (1 : Int32)), .val (.int (1 : Int32))]) rfl ?_
    refine Own.iload X184 at_334 rfl ?_
    refine Own.iff_ X184 (pc' := 373) at_336 (by decide) (fun q => absurd (show (1 : Int) = (0 : Int) from q) (show ¬ ((1 : Int) = (0 : Int)) from by decide)) (fun _ => ?_)
    refine Own.iload X184 at_339 rfl ?_
    refine Own.iff_ X184 (pc' := 373) at_341 (by decide) (fun q => absurd (show (1 : Int) = (0 : Int) from q) (show ¬ ((1 : Int) = (0 : Int)) from by decide)) (fun _ => ?_)
    refine Own.iload X184 at_344 rfl ?_
    refine Own.iff_ X184 (pc' := 373) at_346 (by decide) (fun q => absurd (show (1 : Int) = (0 : Int) from q) (show ¬ ((1 : Int) = (0 : Int)) from by decide)) (fun _ => ?_)
    refine Own.iload X184 at_349 rfl ?_
    refine Own.iff_ X184 (pc' := 373) at_351 (by decide) (fun q => absurd (show (1 : Int) = (0 : Int) from q) (show ¬ ((1 : Int) = (0 : Int)) from by decide)) (fun _ => ?_)
    refine Own.iload X184 at_354 rfl ?_
    refine Own.iff_ X184 (pc' := 373) at_356 (by decide) (fun q => absurd (show (1 : Int) = (0 : Int) from q) (show ¬ ((1 : Int) = (0 : Int)) from by decide)) (fun _ => ?_)
    refine Own.iload X184 at_359 rfl ?_
    refine Own.iff_ X184 (pc' := 373) at_361 (by decide) (fun q => absurd (show (1 : Int) = (0 : Int) from q) (show ¬ ((1 : Int) = (0 : Int)) from by decide)) (fun _ => ?_)
    refine Own.iload X184 at_364 rfl ?_
    refine Own.iff_ X184 (pc' := 373) at_366 (by decide) (fun q => absurd (show (1 : Int) = (0 : Int) from q) (show ¬ ((1 : Int) = (0 : Int)) from by decide)) (fun _ => ?_)
    refine Own.iconst X184 (v := 1) at_369 rfl ?_
    refine Own.goto_ X184 (pc' := 374) at_370 (by decide) ?_
    exact Own.retB X184 at_374 (by decide) rfl (by decide) (by decide)
  · refine Own.aload X45 at_86 rfl rfl ?_
    refine Own.aload X45 at_88 rfl rfl ?_
    refine Own.iload X45 at_90 rfl ?_
    obtain ⟨d92, e_d92⟩ : ∃ v, FP.i2d v0 = v := ⟨_, rfl⟩
    obtain ⟨f_d92, z_d92⟩ := Own.i2d_v e_d92
    have n_d92 := f_d92.noNaN
    refine Own.i2d X45 at_92 e_d92 ?_
    refine Own.callV_ (y := mn_4) (z := mn_4) (a := pop) X45 at_93 (Own.wd hw 29 rfl) (Own.wd hw 30 rfl) (Own.wd hw 32 rfl) (Own.wd hw 31 rfl) rfl (Own.wd hw 12 rfl) (Own.wd hw 33 rfl) (by decide) F50 (rm5_00000 l Z a0 hw pop sa_30_1 d92 pl_81_45 oa_81_45 na_81_45 x0_81_45 x1_81_45 x2_81_45 k_pl_81_45 c_pl_81_45 k_oa_81_45 k_na_81_45 0 0 0 (0 : Int64) (0 : Int64) (0 : Int64) (0 : Int64) k_sa_30_1 (i1 >>> ((1 : Int32) &&& 31)) ((i1 >>> ((1 : Int32) &&& 31)) + (1073741824 : Int32)) (0 : Int32) (0 : Int32) h45 n0 Z51 F50 G45_0 G45_1 G45_2 G45_3 G45_4 G45_5 G45_6 G45_7 G45_8 G45_11 G45_12 F46 ne56 ne80 ne86 ne62 ne68 ne74 U45_3 U45_4 U45_0 U45_1 U45_2 U45_14 (Ne.symm U45_7) (Ne.symm U45_10) (Ne.symm U45_12) (Ne.symm U45_8) (Ne.symm U45_11) (Ne.symm U45_13) U45_5 U45_6 U45_9 ne28 ne52 ne76 ne82 ne58 ne64 ne70 fr32 fr63 fr69 fr75 fr81 fr87 n_d92 ) (lenOf pd_17 rfl) rfl (argsL := [.ref sa_30_1, .double d92]) (rest := []) rfl (W := 0) (Nat.le_of_eq rfl) (by decide) (by decide) (by decide) (by decide) fun T185 h185 v185 X185 q185 => ?_
    obtain ⟨rfl, K185, G185_0, G185_1, G185_2, G185_3, G185_4, G185_5, G185_6, G185_7, G185_8, G185_9⟩ := q185
    have F186 := F46.keep K185 (ninS ne28 (ninS ne58 (ninS ne76 (ninS ne82 nin0))))
    have F187 := F47.keep K185 (ninS ne29 (ninS ne59 (ninS ne77 (ninS ne83 nin0))))
    have F188 := F48.keep K185 (ninS ne30 (ninS ne60 (ninS ne78 (ninS ne84 nin0))))
    have F189 := F49.keep K185 (ninS ne31 (ninS ne61 (ninS ne79 (ninS ne85 nin0))))
    have F190 := F50.keep K185
    have F191 := G45_7.keep K185 (ninS (Ne.symm ne56) (ninS U45_0 (ninS U45_3 (ninS U45_4 nin0))))
    have F192 := G45_9.keep K185 (ninS (Ne.symm ne68) (ninS (Ne.symm U45_5) (ninS U45_10 (ninS U45_11 nin0))))
    have F193 := G45_10.keep K185 (ninS (Ne.symm ne74) (ninS (Ne.symm U45_6) (ninS U45_12 (ninS U45_13 nin0))))
    have F194 := G45_13.keep K185
    have F195 := G45_14.keep K185
    have F196 := G45_15.keep K185
    have Z197 : n0 ≤ h185.size := Nat.le_trans Z51 K185.1
    show Own.Go p e below s n0 _ _ _ (T185.setTop (mkF m 96 _ []))
    clear F46 F47 F48 F49 F50 G45_0 G45_1 G45_10 G45_11 G45_12 G45_13 G45_14 G45_15 G45_2 G45_3 G45_4 G45_5 G45_6 G45_7 G45_8 G45_9 X45
    refine Own.aload X185 at_96 rfl rfl ?_
    refine Own.aload X185 at_98 rfl rfl ?_
    refine Own.iload X185 at_100 rfl ?_
    obtain ⟨d102, e_d102⟩ : ∃ v, FP.i2d v1 = v := ⟨_, rfl⟩
    obtain ⟨f_d102, z_d102⟩ := Own.i2d_v e_d102
    have n_d102 := f_d102.noNaN
    refine Own.i2d X185 at_102 e_d102 ?_
    refine Own.callV_ (y := mn_4) (z := mn_4) (a := pop) X185 at_103 (Own.wd hw 29 rfl) (Own.wd hw 30 rfl) (Own.wd hw 32 rfl) (Own.wd hw 31 rfl) rfl (Own.wd hw 12 rfl) (Own.wd hw 33 rfl) (by decide) F190 (rm5_10010 l Z a0 hw pop sa_36_4 d102 pl_81_45 oa_81_45 na_81_45 x0_81_45 x1_81_45 x2_81_45 k_pl_81_45 c_pl_81_45 k_oa_81_45 k_na_81_45 d92 0 0 (0 : Int64) (0 : Int64) (0 : Int64) ((0 : Int64) + (1 : Int64)) k_sa_36_4 (i2 >>> ((1 : Int32) &&& 31)) ((i2 >>> ((1 : Int32) &&& 31)) + (1073741824 : Int32)) (0 : Int32) (0 : Int32) h185 n0 Z197 F190 G185_0 G185_1 G185_2 G185_3 G185_4 G185_5 G185_6 F191 F192 G185_8 G185_9 F187 ne56 ne80 ne86 ne62 ne68 ne74 U45_3 U45_4 U45_0 U45_1 U45_2 U45_14 (Ne.symm U45_7) (Ne.symm U45_10) (Ne.symm U45_12) (Ne.symm U45_8) (Ne.symm U45_11) (Ne.symm U45_13) U45_5 U45_6 U45_9 ne29 ne53 ne77 ne83 ne59 ne65 ne71 fr32 fr63 fr69 fr75 fr81 fr87 n_d102 n_d92 (by rw [z_d92, z_d102]; exact Own.U_lt.mpr (by omega)) (by rw [z_d92, z_d102]; exact Own.U_le.mpr (by omega))) (lenOf pd_17 rfl) rfl (argsL := [.ref sa_36_4, .double d102]) (rest := []) rfl (W := 0) (Nat.le_of_eq rfl) (by decide) (by decide) (by decide) (by decide) fun T198 h198 v198 X198 q198 => ?_
    obtain ⟨rfl, K198, G198_0, G198_1, G198_2, G198_3, G198_4, G198_5, G198_6, G198_7, G198_8, G198_9⟩ := q198
    have F199 := F186.keep K198 (ninS ne28 (ninS ne64 (ninS ne76 (ninS ne82 nin0))))
    have F200 := F187.keep K198 (ninS ne29 (ninS ne65 (ninS ne77 (ninS ne83 nin0))))
    have F201 := F188.keep K198 (ninS ne30 (ninS ne66 (ninS ne78 (ninS ne84 nin0))))
    have F202 := F189.keep K198 (ninS ne31 (ninS ne67 (ninS ne79 (ninS ne85 nin0))))
    have F203 := F190.keep K198
    have F204 := F191.keep K198 (ninS (Ne.symm ne56) (ninS U45_1 (ninS U45_3 (ninS U45_4 nin0))))
    have F205 := F193.keep K198 (ninS (Ne.symm ne74) (ninS (Ne.symm U45_9) (ninS U45_12 (ninS U45_13 nin0))))
    have F206 := F194.keep K198
    have F207 := F195.keep K198
    have F208 := F196.keep K198
    have F209 := G185_7.keep K198 (ninS (Ne.symm ne62) (ninS U45_5 (ninS U45_7 (ninS U45_8 nin0))))
    have Z210 : n0 ≤ h198.size := Nat.le_trans Z197 K198.1
    show Own.Go p e below s n0 _ _ _ (T198.setTop (mkF m 106 _ []))
    clear F186 F187 F188 F189 F190 F191 F192 F193 F194 F195 F196 G185_0 G185_1 G185_2 G185_3 G185_4 G185_5 G185_6 G185_7 G185_8 G185_9 X185
    refine Own.aload X198 at_106 rfl rfl ?_
    refine Own.aload X198 at_108 rfl rfl ?_
    refine Own.iload X198 at_110 rfl ?_
    obtain ⟨d112, e_d112⟩ : ∃ v, FP.i2d v2 = v := ⟨_, rfl⟩
    obtain ⟨f_d112, z_d112⟩ := Own.i2d_v e_d112
    have n_d112 := f_d112.noNaN
    refine Own.i2d X198 at_112 e_d112 ?_
    refine Own.callV_ (y := mn_4) (z := mn_4) (a := pop) X198 at_113 (Own.wd hw 29 rfl) (Own.wd hw 30 rfl) (Own.wd hw 32 rfl) (Own.wd hw 31 rfl) rfl (Own.wd hw 12 rfl) (Own.wd hw 33 rfl) (by decide) F203 (rm5_21012 l Z a0 hw pop sa_42_9 d112 pl_81_45 oa_81_45 na_81_45 x0_81_45 x1_81_45 x2_81_45 k_pl_81_45 c_pl_81_45 k_oa_81_45 k_na_81_45 d92 d102 0 (0 : Int64) ((0 : Int64) + (1 : Int64)) (0 : Int64) (((0 : Int64) + (1 : Int64)) + (1 : Int64)) k_sa_42_9 (i3 >>> ((1 : Int32) &&& 31)) ((i3 >>> ((1 : Int32) &&& 31)) + (1073741824 : Int32)) (0 : Int32) (0 : Int32) h198 n0 Z210 F203 G198_0 G198_1 G198_2 G198_3 G198_4 G198_5 G198_6 F204 F205 G198_8 G198_9 F201 ne56 ne80 ne86 ne62 ne68 ne74 U45_3 U45_4 U45_0 U45_1 U45_2 U45_14 (Ne.symm U45_7) (Ne.symm U45_10) (Ne.symm U45_12) (Ne.symm U45_8) (Ne.symm U45_11) (Ne.symm U45_13) U45_5 U45_6 U45_9 ne30 ne54 ne78 ne84 ne60 ne66 ne72 fr32 fr63 fr69 fr75 fr81 fr87 n_d112 n_d92 n_d102 (by rw [z_d112, z_d102]; exact Own.U_le.mpr (by omega)) (by rw [z_d112, z_d92]; exact Own.U_lt.mpr (by omega))) (lenOf pd_17 rfl) rfl (argsL := [.ref sa_42_9, .double d112]) (rest := []) rfl (W := 0) (Nat.le_of_eq rfl) (by decide) (by decide) (by decide) (by decide) fun T211 h211 v211 X211 q211 => ?_
    obtain ⟨rfl, K211, G211_0, G211_1, G211_2, G211_3, G211_4, G211_5, G211_6, G211_7, G211_8, G211_9⟩ := q211
    have F212 := F199.keep K211 (ninS ne28 (ninS ne70 (ninS ne76 (ninS ne82 nin0))))
    have F213 := F200.keep K211 (ninS ne29 (ninS ne71 (ninS ne77 (ninS ne83 nin0))))
    have F214 := F201.keep K211 (ninS ne30 (ninS ne72 (ninS ne78 (ninS ne84 nin0))))
    have F215 := F202.keep K211 (ninS ne31 (ninS ne73 (ninS ne79 (ninS ne85 nin0))))
    have F216 := F203.keep K211
    have F217 := F204.keep K211 (ninS (Ne.symm ne56) (ninS U45_2 (ninS U45_3 (ninS U45_4 nin0))))
    have F218 := F206.keep K211
    have F219 := F207.keep K211
    have F220 := F208.keep K211
    have F221 := F209.keep K211 (ninS (Ne.symm ne62) (ninS U45_6 (ninS U45_7 (ninS U45_8 nin0))))
    have F222 := G198_7.keep K211 (ninS (Ne.symm ne68) (ninS U45_9 (ninS U45_10 (ninS U45_11 nin0))))
    have Z223 : n0 ≤ h211.size := Nat.le_trans Z210 K211.1
    show Own.Go p e below s n0 _ _ _ (T211.setTop (mkF m 116 _ []))
    clear F199 F200 F201 F202 F203 F204 F205 F206 F207 F208 F209 G198_0 G198_1 G198_2 G198_3 G198_4 G198_5 G198_6 G198_7 G198_8 G198_9 X198
    refine Own.iconst X211 (v := 0) at_116 rfl ?_
    refine Own.istore X211 at_117 (l' := #[.val (.int i0), .val (.int i1), .val (.int i2), .val (.int i3), .val (.int i4), .val (.int v0), .val (.int v1), .val (.int v2), .val (.ref sa_30_1), .val (.ref sa_36_4), .val (.ref sa_42_9), .val (.ref sa_49_16), .val (.int mn), .val (.double d72), .second, .val (.ref pop), .val (.int (0 : Int32)), .unset, .unset, .unset, .unset, .unset, .unset, .unset, .unset, .unset, .unset, .unset]) rfl ?_
    refine Own.iload X211 at_119 rfl ?_
    refine Own.istore X211 at_121 (l' := #[.val (.int i0), .val (.int i1), .val (.int i2), .val (.int i3), .val (.int i4), .val (.int v0), .val (.int v1), .val (.int v2), .val (.ref sa_30_1), .val (.ref sa_36_4), .val (.ref sa_42_9), .val (.ref sa_49_16), .val (.int mn), .val (.double d72), .second, .val (.ref pop), .val (.int (0 : Int32)), .val (.int v0), .unset, .unset, .unset, .unset, .unset, .unset, .unset, .unset, .unset, .unset]) rfl ?_
    refine Own.iload X211 at_123 rfl ?_
    refine Own.iload X211 at_125 rfl ?_
    refine Own.icmp_ X211 (pc' := 137) at_127 (by decide) (fun _ => ?_) (fun q => absurd (show v0.toInt ≤ v1.toInt from by omega) q)
    refine Own.iload X211 at_137 rfl ?_
    refine Own.iload X211 at_139 rfl ?_
    refine Own.icmp_ X211 (pc' := 151) at_141 (by decide) (fun q => absurd (show v0.toInt ≤ v2.toInt from q) (show ¬ (v0.toInt ≤ v2.toInt) from by omega)) (fun _ => ?_)
    refine Own.iconst X211 (v := 2) at_144 rfl ?_
    refine Own.istore X211 at_145 (l' := #[.val (.int i0), .val (.int i1), .val (.int i2), .val (.int i3), .val (.int i4), .val (.int v0), .val (.int v1), .val (.int v2), .val (.ref sa_30_1), .val (.ref sa_36_4), .val (.ref sa_42_9), .val (.ref sa_49_16), .val (.int mn), .val (.double d72), .second, .val (.ref pop), .val (.int (2 : Int32)), .val (.int v0), .unset, .unset, .unset, .unset, .unset, .unset, .unset, .unset, .unset, .unset]) rfl ?_
    refine Own.iload X211 at_147 rfl ?_
    refine Own.istore X211 at_149 (l' := #[.val (.int i0), .val (.int i1), .val (.int i2), .val (.int i3), .val (.int i4), .val (.int v0), .val (.int v1), .val (.int v2), .val (.ref sa_30_1), .val (.ref sa_36_4), .val (.ref sa_42_9), .val (.ref sa_49_16), .val (.int mn), .val (.double d72), .second, .val (.ref pop), .val (.int (2 : Int32)), .val (.int v2), .unset, .unset, .unset, .unset, .unset, .unset, .unset, .unset, .unset, .unset]) rfl ?_
    refine Own.iconst X211 (v := 0) at_151 rfl ?_
    refine Own.istore X211 at_152 (l' := #[.val (.int i0), .val (.int i1), .val (.int i2), .val (.int i3), .val (.int i4), .val (.int v0), .val (.int v1), .val (.int v2), .val (.ref sa_30_1), .val (.ref sa_36_4), .val (.ref sa_42_9), .val (.ref sa_49_16), .val (.int mn), .val (.double d72), .second, .val (.ref pop), .val (.int (2 : Int32)), .val (.int v2), .val (.int (0 : Int32)), .unset, .unset, .unset, .unset, .unset, .unset, .unset, .unset, .unset]) rfl ?_
    refine Own.iload X211 at_154 rfl ?_
    refine Own.istore X211 at_156 (l' := #[.val (.int i0), .val (.int i1), .val (.int i2), .val (.int i3), .val (.int i4), .val (.int v0), .val (.int v1), .val (.int v2), .val (.ref sa_30_1), .val (.ref sa_36_4), .val (.ref sa_42_9), .val (.ref sa_49_16), .val (.int mn), .val (.double d72), .second, .val (.ref pop), .val (.int (2 : Int32)), .val (.int v2), .val (.int (0 : Int32)), .val (.int v0), .unset, .unset, .unset, .unset, .unset, .unset, .unset, .unset]) rfl ?_
    refine Own.iload X211 at_158 rfl ?_
    refine Own.iload X211 at_160 rfl ?_
    refine Own.icmp_ X211 (pc' := 172) at_162 (by decide) (fun q => absurd (show v1.toInt ≤ v0.toInt from q) (show ¬ (v1.toInt ≤ v0.toInt) from by omega)) (fun _ => ?_)
    refine Own.iconst X211 (v := 1) at_165 rfl ?_
    refine Own.istore X211 at_166 (l' := #[.val (.int i0), .val (.int i1), .val (.int i2), .val (.int i3), .val (.int i4), .val (.int v0), .val (.int v1), .val (.int v2), .val (.ref sa_30_1), .val (.ref sa_36_4), .val (.ref sa_42_9), .val (.ref sa_49_16), .val (.int mn), .val (.double d72), .second, .val (.ref pop), .val (.int (2 : Int32)), .val (.int v2), .val (.int (1 : Int32)), .val (.int v0), .unset, .unset, .unset, .unset, .unset, .unset, .unset, .unset]) rfl ?_
    refine Own.iload X211 at_168 rfl ?_
    refine Own.istore X211 at_170 (l' := #[.val (.int i0), .val (.int i1), .val (.int i2), .val (.int i3), .val (.int i4), .val (.int v0), .val (.int v1), .val (.int v2), .val (.ref sa_30_1), .val (.ref sa_36_4), .val (.ref sa_42_9), .val (.ref sa_49_16), .val (.int mn), .val (.double d72), .second, .val (.ref pop), .val (.int (2 : Int32)), .val (.int v2), .val (.int (1 : Int32)), .val (.int v1), .unset, .unset, .unset, .unset, .unset, .unset, .unset, .unset]) rfl ?_
    refine Own.iload X211 at_172 rfl ?_
    refine Own.iload X211 at_174 rfl ?_
    refine Own.icmp_ X211 (pc' := 186) at_176 (by decide) (fun _ => ?_) (fun q => absurd (show v2.toInt ≤ v1.toInt from by omega) q)
    refine Own.iload X211 at_186 rfl ?_
    refine Own.iff_ X211 (pc' := 195) at_188 (by decide) (fun _ => ?_) (fun q => absurd (show ¬ ((2 : Int) = (0 : Int)) from by decide) q)
    refine Own.iload X211 at_195 rfl ?_
    refine Own.iconst X211 (v := 1) at_197 rfl ?_
    refine Own.icmp_ X211 (pc' := 205) at_198 (by decide) (fun _ => ?_) (fun q => absurd (show ¬ ((2 : Int) = (1 : Int)) from by decide) q)
    refine Own.iloadN X211 at_205 rfl ?_
    refine Own.istore X211 at_206 (l' := #[.val (.int i0), .val (.int i1), .val (.int i2), .val (.int i3), .val (.int i4), .val (.int v0), .val (.int v1), .val (.int v2), .val (.ref sa_30_1), .val (.ref sa_36_4), .val (.ref sa_42_9), .val (.ref sa_49_16), .val (.int mn), .val (.double d72), .second, .val (.ref pop), .val (.int (2 : Int32)), .val (.int v2), .val (.int (1 : Int32)), .val (.int v1), .val (.int i3), .unset, .unset, .unset, .unset, .unset, .unset, .unset]) rfl ?_
    refine Own.aload X211 at_208 rfl rfl ?_
    refine Own.callV_ (y := mn_5) (z := mn_5) (a := pop) X211 at_210 (Own.wd hw 50 rfl) (Own.wd hw 51 rfl) (Own.wd hw 53 rfl) (Own.wd hw 52 rfl) rfl (Own.wd hw 12 rfl) (Own.wd hw 54 rfl) (by decide) F216 (rm7 l Z a0 hw pop (3 : Int32) h211 n0 Z223 G211_3 ) (lenOf pd_18 rfl) rfl (argsL := []) (rest := []) rfl (W := 0) (Nat.le_of_eq rfl) (by decide) (by decide) (by decide) (by decide) fun T224 h224 v224 X224 q224 => ?_
    obtain ⟨rfl, rfl⟩ := q224
    show Own.Go p e below s n0 _ _ _ (T224.setTop (mkF m 213 _ [.int (3 : Int32)]))
    clear X211
    refine Own.iconst X224 (v := 3) at_213 rfl ?_
    refine Own.icmp_ X224 (pc' := 221) at_214 (by decide) (fun q => absurd (show ¬ ((3 : Int) = (3 : Int)) from q) (show ¬ (¬ ((3 : Int) = (3 : Int))) from fun z => z (by decide))) (fun _ => ?_)
    refine Own.iconst X224 (v := 1) at_217 rfl ?_
    refine Own.goto_ X224 (pc' := 222) at_218 (by decide) ?_
    refine Own.istore X224 at_222 (l' := #[.val (.int i0), .val (.int i1), .val (.int i2), .val (.int i3), .val (.int i4), .val (.int v0), .val (.int v1), .val (.int v2), .val (.ref sa_30_1), .val (.ref sa_36_4), .val (.ref sa_42_9), .val (.ref sa_49_16), .val (.int mn), .val (.double d72), .second, .val (.ref pop), .val (.int (2 : Int32)), .val (.int v2), .val (.int (1 : Int32)), .val (.int v1), .val (.int i3), .val (.int (1 : Int32)), .unset, .unset, .unset, .unset, .unset, .unset]) rfl ?_
    refine Own.aload X224 at_224 rfl rfl ?_
    refine Own.callV_ (y := mn_6) (z := mn_6) (a := pop) X224 at_226 (Own.wd hw 55 rfl) (Own.wd hw 56 rfl) (Own.wd hw 58 rfl) (Own.wd hw 57 rfl) rfl (Own.wd hw 12 rfl) (Own.wd hw 59 rfl) (by decide) F216 (rm8_2 l Z a0 hw pop oa_81_45 k_oa_81_45 d92 d102 d112 h211 n0 Z223 G211_1 G211_6 G211_8 ) (lenOf pd_19 rfl) rfl (argsL := []) (rest := []) rfl (W := 0) (Nat.le_of_eq rfl) (by decide) (by decide) (by decide) (by decide) fun T225 h225 v225 X225 q225 => ?_
    obtain ⟨rfl, rfl⟩ := q225
    show Own.Go p e below s n0 _ _ _ (T225.setTop (mkF m 229 _ [.double d112]))
    clear X224
    refine Own.iload X225 at_229 rfl ?_
    obtain ⟨d231, e_d231⟩ : ∃ v, FP.i2d v2 = v := ⟨_, rfl⟩
    obtain ⟨f_d231, z_d231⟩ := Own.i2d_v e_d231
    have n_d231 := f_d231.noNaN
    refine Own.i2d X225 at_231 e_d231 ?_
    refine Own.dcmpF X225 (pc' := 240) at_232 at_233 (by decide) n_d112 n_d231 (fun q => absurd (show ¬ (Own.dz d112 = Own.dz d231) from q) (show ¬ (¬ (Own.dz d112 = Own.dz d231)) from fun z => z (by rw [z_d112, z_d231]))) (fun _ => ?_)
    refine Own.iconst X225 (v := 1) at_236 rfl ?_
    refine Own.goto_ X225 (pc' := 241) at_237 (by decide) ?_
    refine Own.istore X225 at_241 (l' := #[.val (.int i0), .val (.int i1), .val (.int i2), .val (.int i3), .val (.int i4), .val (.int v0), .val (.int v1), .val (.int v2), .val (.ref sa_30_1), .val (.ref sa_36_4), .val (.ref sa_42_9), .val (.ref sa_49_16), .val (.int mn), .val (.double d72), .second, .val (.ref pop), .val (.int (2 : Int32)), .val (.int v2), .val (.int (1 : Int32)), .val (.int v1), .val (.int i3), .val (.int (1 : Int32)), .val (.int (1 : Int32)), .unset, .unset, .unset, .unset, .unset]) rfl ?_
    refine Own.aload X225 at_243 rfl rfl ?_
    refine Own.callV_ (y := mn_7) (z := mn_7) (a := pop) X225 at_245 (Own.wd hw 60 rfl) (Own.wd hw 61 rfl) (Own.wd hw 63 rfl) (Own.wd hw 62 rfl) rfl (Own.wd hw 12 rfl) (Own.wd hw 64 rfl) (by decide) F216 (rm9_2 l Z a0 hw pop pl_81_45 x0_81_45 x1_81_45 x2_81_45 k_pl_81_45 c_pl_81_45 (i3 >>> ((1 : Int32) &&& 31)) ((i3 >>> ((1 : Int32) &&& 31)) + (1073741824 : Int32)) h211 n0 Z223 G211_0 G211_6 F217 G211_7 F220 ) (lenOf pd_20 rfl) rfl (argsL := []) (rest := []) rfl (W := 0) (Nat.le_of_eq rfl) (by decide) (by decide) (by decide) (by decide) fun T226 h226 v226 X226 q226 => ?_
    obtain ⟨cl_245_226, rfl, K226, B226_0, G226_0⟩ := q226
    have F227 := F212.keep K226 nin0
    have F228 := F213.keep K226 nin0
    have F229 := F214.keep K226 nin0
    have F230 := F215.keep K226 nin0
    have F231 := F216.keep K226
    have F232 := F217.keep K226 nin0
    have F233 := F218.keep K226
    have F234 := F219.keep K226
    have F235 := F220.keep K226
    have F236 := F221.keep K226 nin0
    have F237 := F222.keep K226 nin0
    have F238 := G211_0.keep K226 nin0
    have F239 := G211_1.keep K226 nin0
    have F240 := G211_2.keep K226 nin0
    have F241 := G211_3.keep K226 nin0
    have F242 := G211_4.keep K226 nin0
    have F243 := G211_5.keep K226 nin0
    have F244 := G211_6.keep K226 nin0
    have F245 := G211_7.keep K226 nin0
    have F246 := G211_8.keep K226 nin0
    have F247 := G211_9.keep K226 nin0
    have Z248 : n0 ≤ h226.size := Nat.le_trans Z223 K226.1
    have ne249 : sa_30_1 ≠ cl_245_226 := Nat.ne_of_lt (Nat.lt_of_lt_of_le F212.lt B226_0)
    have ne250 : sa_36_4 ≠ cl_245_226 := Nat.ne_of_lt (Nat.lt_of_lt_of_le F213.lt B226_0)
    have ne251 : sa_42_9 ≠ cl_245_226 := Nat.ne_of_lt (Nat.lt_of_lt_of_le F214.lt B226_0)
    have ne252 : sa_49_16 ≠ cl_245_226 := Nat.ne_of_lt (Nat.lt_of_lt_of_le F215.lt B226_0)
    have ne253 : pop ≠ cl_245_226 := Nat.ne_of_lt (Nat.lt_of_lt_of_le F216.lt B226_0)
    have ne254 : pl_81_45 ≠ cl_245_226 := Nat.ne_of_lt (Nat.lt_of_lt_of_le F217.lt B226_0)
    have ne255 : x0_81_45 ≠ cl_245_226 := Nat.ne_of_lt (Nat.lt_of_lt_of_le F218.lt B226_0)
    have ne256 : x1_81_45 ≠ cl_245_226 := Nat.ne_of_lt (Nat.lt_of_lt_of_le F219.lt B226_0)
    have ne257 : x2_81_45 ≠ cl_245_226 := Nat.ne_of_lt (Nat.lt_of_lt_of_le F220.lt B226_0)
    have ne258 : oa_81_45 ≠ cl_245_226 := Nat.ne_of_lt (Nat.lt_of_lt_of_le G211_8.lt B226_0)
    have ne259 : na_81_45 ≠ cl_245_226 := Nat.ne_of_lt (Nat.lt_of_lt_of_le G211_9.lt B226_0)
    have fr260 : n0 ≤ cl_245_226 := Nat.le_trans Z223 B226_0
    show Own.Go p e below s n0 _ _ _ (T226.setTop (mkF m 248 _ [.ref cl_245_226]))
    clear F212 F213 F214 F215 F216 F217 F218 F219 F220 F221 F222 G211_0 G211_1 G211_2 G211_3 G211_4 G211_5 G211_6 G211_7 G211_8 G211_9 X225
    refine Own.iload X226 at_248 rfl ?_
    refine Own.callS_ (y := mn_13) X226 at_250 (Own.wd hw 74 rfl) (Own.wd hw 75 rfl) (Own.wd hw 2 rfl) (Own.wd hw 76 rfl) (by decide) (rm10 l Z a0 hw cl_245_226 i3 c_pl_81_45 (i3 >>> ((1 : Int32) &&& 31)) ((i3 >>> ((1 : Int32) &&& 31)) + (1073741824 : Int32)) h226 n0 Z248 G226_0 rfl rfl) (lenOf pd_21 rfl) rfl (argsL := [.ref cl_245_226, .int i3]) (rest := []) rfl (W := 0) (Nat.le_of_eq rfl) (by decide) (by decide) (by decide) (by decide) fun T261 h261 v261 X261 q261 => ?_
    obtain ⟨rfl, rfl⟩ := q261
    show Own.Go p e below s n0 _ _ _ (T261.setTop (mkF m 253 _ [.int (1 : Int32)]))
    clear X226
    refine Own.istore X261 at_253 (l' := #[.val (.int i0), .val (.int i1), .val (.int i2), .val (.int i3), .val (.int i4), .val (.int v0), .val (.int v1), .val (.int v2), .val (.ref sa_30_1), .val (.ref sa_36_4), .val (.ref sa_42_9), .val (.ref sa_49_16), .val (.int mn), .val (.double d72), .second, .val (.ref pop), .val (.int (2 : Int32)), .val (.int v2), .val (.int (1 : Int32)), .val (.int v1), .val (.int i3), .val (.int (1 : Int32)), .val (.int (1 : Int32)), .val (.int (1 : Int32)), .unset, .unset, .unset, .unset]) rfl ?_
    refine Own.aload X261 at_255 rfl rfl ?_
    refine Own.aload X261 at_257 rfl rfl ?_
    refine Own.dload X261 at_259 rfl ?_
    refine Own.callV_ (y := mn_11) (z := mn_11) (a := pop) X261 at_261 (Own.wd hw 77 rfl) (Own.wd hw 78 rfl) (Own.wd hw 80 rfl) (Own.wd hw 79 rfl) rfl (Own.wd hw 12 rfl) (Own.wd hw 81 rfl) (by decide) F231 (rm11_1N l Z a0 hw pop sa_49_16 d72 pl_81_45 oa_81_45 na_81_45 x0_81_45 x1_81_45 x2_81_45 k_pl_81_45 c_pl_81_45 k_oa_81_45 k_na_81_45 d92 d102 d112 (0 : Int64) ((0 : Int64) + (1 : Int64)) (((0 : Int64) + (1 : Int64)) + (1 : Int64)) ((((0 : Int64) + (1 : Int64)) + (1 : Int64)) + (1 : Int64)) k_sa_49_16 (i4 >>> ((1 : Int32) &&& 31)) ((i4 >>> ((1 : Int32) &&& 31)) + (1073741824 : Int32)) (2 : Int32) (i2 >>> ((1 : Int32) &&& 31)) ((i2 >>> ((1 : Int32) &&& 31)) + (1073741824 : Int32)) h226 n0 Z248 F231 F238 F239 F240 F241 F242 F243 F244 F232 F237 F246 F247 F230 ne56 ne80 ne86 ne62 ne68 ne74 U45_3 U45_4 U45_0 U45_1 U45_2 U45_14 (Ne.symm U45_7) (Ne.symm U45_10) (Ne.symm U45_12) (Ne.symm U45_8) (Ne.symm U45_11) (Ne.symm U45_13) U45_5 U45_6 U45_9 ne31 ne55 ne79 ne85 ne61 ne67 ne73 fr32 fr63 fr69 fr75 fr81 fr87 n_d72 n_d92 n_d102 n_d112 (by rw [z_d72, z_d92]; exact Own.U_lt.mpr (by omega)) (by rw [z_d72, z_d102]; exact Own.U_lt.mpr (by omega)) (by rw [z_d72, z_d112]; exact Own.U_lt.mpr (by omega)) d112 (by decide) rfl n_d112 (by rw [z_d72, z_d112]; exact Own.U_lt.mpr (by omega))) (lenOf pd_10 rfl) rfl (argsL := [.ref sa_49_16, .double d72]) (rest := []) rfl (W := 0) (Nat.le_of_eq rfl) (by decide) (by decide) (by decide) (by decide) fun T262 h262 v262 X262 q262 => ?_
    obtain ⟨rfl, K262, G262_0, G262_1, G262_2⟩ := q262
    have F263 := F227.keep K262 (ninS ne28 (ninS ne64 (ninS ne76 (ninS ne82 nin0))))
    have F264 := F228.keep K262 (ninS ne29 (ninS ne65 (ninS ne77 (ninS ne83 nin0))))
    have F265 := F229.keep K262 (ninS ne30 (ninS ne66 (ninS ne78 (ninS ne84 nin0))))
    have F266 := F230.keep K262 (ninS ne31 (ninS ne67 (ninS ne79 (ninS ne85 nin0))))
    have F267 := F231.keep K262
    have F268 := F232.keep K262 (ninS (Ne.symm ne56) (ninS U45_1 (ninS U45_3 (ninS U45_4 nin0))))
    have F269 := F233.keep K262
    have F270 := F234.keep K262
    have F271 := F235.keep K262
    have F272 := F236.keep K262 (ninS (Ne.symm ne62) (ninS U45_5 (ninS U45_7 (ninS U45_8 nin0))))
    have F273 := F245.keep K262 (ninS (Ne.symm ne74) (ninS (Ne.symm U45_9) (ninS U45_12 (ninS U45_13 nin0))))
    have F274 := G226_0.keep K262 (ninS (Ne.symm ne253) (ninS (Ne.symm ne256) (ninS (Ne.symm ne258) (ninS (Ne.symm ne259) nin0))))
    have Z275 : n0 ≤ h262.size := Nat.le_trans Z248 K262.1
    show Own.Go p e below s n0 _ _ _ (T262.setTop (mkF m 264 _ [.int (1 : Int32)]))
    clear F227 F228 F229 F230 F231 F232 F233 F234 F235 F236 F237 F238 F239 F240 F241 F242 F243 F244 F245 F246 F247 G226_0 X261
    refine Own.istore X262 at_264 (l' := #[.val (.int i0), .val (.int i1), .val (.int i2), .val (.int i3), .val (.int i4), .val (.int v0), .val (.int v1), .val (.int v2), .val (.ref sa_30_1), .val (.ref sa_36_4), .val (.ref sa_42_9), .val (.ref sa_49_16), .val (.int mn), .val (.double d72), .second, .val (.ref pop), .val (.int (2 : Int32)), .val (.int v2), .val (.int (1 : Int32)), .val (.int v1), .val (.int i3), .val (.int (1 : Int32)), .val (.int (1 : Int32)), .val (.int (1 : Int32)), .val (.int (1 : Int32)), .unset, .unset, .unset]) rfl ?_
    refine Own.aload X262 at_266 rfl rfl ?_
    refine Own.iconst X262 (v := 0) at_268 rfl ?_
    refine Own.callV_ (y := mn_8) (z := mn_8) (a := pop) X262 at_269 (Own.wd hw 86 rfl) (Own.wd hw 87 rfl) (Own.wd hw 89 rfl) (Own.wd hw 88 rfl) rfl (Own.wd hw 12 rfl) (Own.wd hw 90 rfl) (by decide) F267 (rm13_0 l Z a0 hw pop pl_81_45 x0_81_45 x1_81_45 x2_81_45 k_pl_81_45 h262 n0 Z275 G262_0 F268 ) (lenOf pd_14 rfl) rfl (argsL := [.int (0 : Int32)]) (rest := []) rfl (W := 0) (Nat.le_of_eq rfl) (by decide) (by decide) (by decide) (by decide) fun T276 h276 v276 X276 q276 => ?_
    obtain ⟨rfl, rfl⟩ := q276
    show Own.Go p e below s n0 _ _ _ (T276.setTop (mkF m 272 _ [.ref x0_81_45]))
    clear X262
    refine Own.iload X276 at_272 rfl ?_
    refine Own.iff_ X276 (pc' := 282) at_274 (by decide) (fun _ => ?_) (fun q => absurd (show ¬ ((1 : Int) = (0 : Int)) from by decide) q)
    refine Own.iloadN X276 at_282 rfl ?_
    refine Own.callS_ (y := mn_13) X276 at_283 (Own.wd hw 74 rfl) (Own.wd hw 75 rfl) (Own.wd hw 2 rfl) (Own.wd hw 76 rfl) (by decide) (rm10 l Z a0 hw x0_81_45 i1 c_pl_81_45 (i1 >>> ((1 : Int32) &&& 31)) ((i1 >>> ((1 : Int32) &&& 31)) + (1073741824 : Int32)) h262 n0 Z275 F272 rfl rfl) (lenOf pd_21 rfl) rfl (argsL := [.ref x0_81_45, .int i1]) (rest := []) rfl (W := 0) (Nat.le_of_eq rfl) (by decide) (by decide) (by decide) (by decide) fun T277 h277 v277 X277 q277 => ?_
    obtain ⟨rfl, rfl⟩ := q277
    show Own.Go p e below s n0 _ _ _ (T277.setTop (mkF m 286 _ [.int (1 : Int32)]))
    clear X276
    refine Own.istore X277 at_286 (l' := #[.val (.int i0), .val (.int i1), .val (.int i2), .val (.int i3), .val (.int i4), .val (.int v0), .val (.int v1), .val (.int v2), .val (.ref sa_30_1), .val (.ref sa_36_4), .val (.ref sa_42_9), .val (.ref sa_49_16), .val (.int mn), .val (.double d72), .second, .val (.ref pop), .val (.int (2 : Int32)), .val (.int v2), .val (.int (1 : Int32)), .val (.int v1), .val (.int i3), .val (.int (1 : Int32)), .val (.int (1 : Int32)), .val (.int (1 : Int32)), .val (.int (1 : Int32)), .val (.int (1 : Int32)), .unset, .unset]) rfl ?_
    refine Own.aload X277 at_288 rfl rfl ?_
    refine Own.iconst X277 (v := 1) at_290 rfl ?_
    refine Own.callV_ (y := mn_8) (z := mn_8) (a := pop) X277 at_291 (Own.wd hw 86 rfl) (Own.wd hw 87 rfl) (Own.wd hw 89 rfl) (Own.wd hw 88 rfl) rfl (Own.wd hw 12 rfl) (Own.wd hw 90 rfl) (by decide) F267 (rm13_1 l Z a0 hw pop pl_81_45 x0_81_45 x1_81_45 x2_81_45 k_pl_81_45 h262 n0 Z275 G262_0 F268 ) (lenOf pd_14 rfl) rfl (argsL := [.int (1 : Int32)]) (rest := []) rfl (W := 0) (Nat.le_of_eq rfl) (by decide) (by decide) (by decide) (by decide) fun T278 h278 v278 X278 q278 => ?_
    obtain ⟨rfl, rfl⟩ := q278
    show Own.Go p e below s n0 _ _ _ (T278.setTop (mkF m 294 _ [.ref x1_81_45]))
    clear X277
    refine Own.iload X278 at_294 rfl ?_
    refine Own.iconst X278 (v := 1) at_296 rfl ?_
    refine Own.icmp_ X278 (pc' := 305) at_297 (by decide) (fun q => absurd (show ¬ ((1 : Int) = (1 : Int)) from q) (show ¬ (¬ ((1 : Int) = (1 : Int))) from fun z => z (by decide))) (fun _ => ?_)
    refine Own.iload X278 at_300 rfl ?_
    refine Own.goto_ X278 (pc' := 306) at_302 (by decide) ?_
    refine Own.callS_ (y := mn_13) X278 at_306 (Own.wd hw 74 rfl) (Own.wd hw 75 rfl) (Own.wd hw 2 rfl) (Own.wd hw 76 rfl) (by decide) (rm10 l Z a0 hw x1_81_45 i4 c_pl_81_45 (i4 >>> ((1 : Int32) &&& 31)) ((i4 >>> ((1 : Int32) &&& 31)) + (1073741824 : Int32)) h262 n0 Z275 G262_2 rfl rfl) (lenOf pd_21 rfl) rfl (argsL := [.ref x1_81_45, .int i4]) (rest := []) rfl (W := 0) (Nat.le_of_eq rfl) (by decide) (by decide) (by decide) (by decide) fun T279 h279 v279 X279 q279 => ?_
    obtain ⟨rfl, rfl⟩ := q279
    show Own.Go p e below s n0 _ _ _ (T279.setTop (mkF m 309 _ [.int (1 : Int32)]))
    clear X278
    refine Own.istore X279 at_309 (l' := #[.val (.int i0), .val (.int i1), .val (.int i2), .val (.int i3), .val (.int i4), .val (.int v0), .val (.int v1), .val (.int v2), .val (.ref sa_30_1), .val (.ref sa_36_4), .val (.ref sa_42_9), .val (.ref sa_49_16), .val (.int mn), .val (.double d72), .second, .val (.ref pop), .val (.int (2 : Int32)), .val (.int v2), .val (.int (1 : Int32)), .val (.int v1), .val (.int i3), .val (.int (1 : Int32)), .val (.int (1 : Int32)), .val (.int (1 : Int32)), .val (.int (1 : Int32)), .val (.int (1 : Int32)), .val (.int (1 : Int32)), .unset]) rfl ?_
    refine Own.aload X279 at_311 rfl rfl ?_
    refine Own.iconst X279 (v := 2) at_313 rfl ?_
    refine Own.callV_ (y := mn_8) (z := mn_8) (a := pop) X279 at_314 (Own.wd hw 86 rfl) (Own.wd hw 87 rfl) (Own.wd hw 89 rfl) (Own.wd hw 88 rfl) rfl (Own.wd hw 12 rfl) (Own.wd hw 90 rfl) (by decide) F267 (rm13_2 l Z a0 hw pop pl_81_45 x0_81_45 x1_81_45 x2_81_45 k_pl_81_45 h262 n0 Z275 G262_0 F268 ) (lenOf pd_14 rfl) rfl (argsL := [.int (2 : Int32)]) (rest := []) rfl (W := 0) (Nat.le_of_eq rfl) (by decide) (by decide) (by decide) (by decide) fun T280 h280 v280 X280 q280 => ?_
    obtain ⟨rfl, rfl⟩ := q280
    show Own.Go p e below s n0 _ _ _ (T280.setTop (mkF m 317 _ [.ref x2_81_45]))
    clear X279
    refine Own.iload X280 at_317 rfl ?_
    refine Own.iconst X280 (v := 2) at_319 rfl ?_
    refine Own.icmp_ X280 (pc' := 328) at_320 (by decide) (fun _ => ?_) (fun q => absurd (show ¬ ((1 : Int) = (2 : Int)) from by decide) q)
    refine Own.iloadN X280 at_328 rfl ?_
    refine Own.callS_ (y := mn_13) X280 at_329 (Own.wd hw 74 rfl) (Own.wd hw 75 rfl) (Own.wd hw 2 rfl) (Own.wd hw 76 rfl) (by decide) (rm10 l Z a0 hw x2_81_45 i3 c_pl_81_45 (i3 >>> ((1 : Int32) &&& 31)) ((i3 >>> ((1 : Int32) &&& 31)) + (1073741824 : Int32)) h262 n0 Z275 F273 rfl rfl) (lenOf pd_21 rfl) rfl (argsL := [.ref x2_81_45, .int i3]) (rest := []) rfl (W := 0) (Nat.le_of_eq rfl) (by decide) (by decide) (by decide) (by decide) fun T281 h281 v281 X281 q281 => ?_
    obtain ⟨rfl, rfl⟩ := q281
    show Own.Go p e below s n0 _ _ _ (T281.setTop (mkF m 332 _ [.int (1 : Int32)]))
    clear X280
    refine Own.istore X281 at_332 (l' := #[.val (.int i0), .val (.int i1), .val (.int i2), .val (.int i3), .val (.int i4), .val (.int v0), .val (.int v1), .val (.int v2), .val (.ref sa_30_1), .val (.ref sa_36_4), .val (.ref sa_42_9), .val (.ref sa_49_16), .val (.int mn), .val (.double d72), .second, .val (.ref pop), .val (.int (2 : Int32)), .val (.int v2), .val (.int (1 : Int32)), .val (.int v1), .val (.int i3), .val (.int (1 : Int32)), .val (.int (1 : Int32)), .val (.int (1 : Int32)), .val (.int (1 : Int32)), .val (.int (1 : Int32)), .val (.int (1 : Int32)), .val (.int (1 : Int32))]) rfl ?_
    refine Own.iload X281 at_334 rfl ?_
    refine Own.iff_ X281 (pc' := 373) at_336 (by decide) (fun q => absurd (show (1 : Int) = (0 : Int) from q) (show ¬ ((1 : Int) = (0 : Int)) from by decide)) (fun _ => ?_)
    refine Own.iload X281 at_339 rfl ?_
    refine Own.iff_ X281 (pc' := 373) at_341 (by decide) (fun q => absurd (show (1 : Int) = (0 : Int) from q) (show ¬ ((1 : Int) = (0 : Int)) from by decide)) (fun _ => ?_)
    refine Own.iload X281 at_344 rfl ?_
    refine Own.iff_ X281 (pc' := 373) at_346 (by decide) (fun q => absurd (show (1 : Int) = (0 : Int) from q) (show ¬ ((1 : Int) = (0 : Int)) from by decide)) (fun _ => ?_)
    refine Own.iload X281 at_349 rfl ?_
    refine Own.iff_ X281 (pc' := 373) at_351 (by decide) (fun q => absurd (show (1 : Int) = (0 : Int) from q) (show ¬ ((1 : Int) = (0 : Int)) from by decide)) (fun _ => ?_)
    refine Own.iload X281 at_354 rfl ?_
    refine Own.iff_ X281 (pc' := 373) at_356 (by decide) (fun q => absurd (show (1 : Int) = (0 : Int) from q) (show ¬ ((1 : Int) = (0 : Int)) from by decide)) (fun _ => ?_)
    refine Own.iload X281 at_359 rfl ?_
    refine Own.iff_ X281 (pc' := 373) at_361 (by decide) (fun q => absurd (show (1 : Int) = (0 : Int) from q) (show ¬ ((1 : Int) = (0 : Int)) from by decide)) (fun _ => ?_)
    refine Own.iload X281 at_364 rfl ?_
    refine Own.iff_ X281 (pc' := 373) at_366 (by decide) (fun q => absurd (show (1 : Int) = (0 : Int) from q) (show ¬ ((1 : Int) = (0 : Int)) from by decide)) (fun _ => ?_)
    refine Own.iconst X281 (v := 1) at_369 rfl ?_
    refine Own.goto_ X281 (pc' := 374) at_370 (by decide) ?_
    exact Own.retB X281 at_374 (by decide) rfl (by decide) (by decide)
  · refine Own.aload X45 at_86 rfl rfl ?_
    refine Own.aload X45 at_88 rfl rfl ?_
    refine Own.iload X45 at_90 rfl ?_
    obtain ⟨d92, e_d92⟩ : ∃ v, FP.i2d v0 = v := ⟨_, rfl⟩
    obtain ⟨f_d92, z_d92⟩ := Own.i2d_v e_d92
    have n_d92 := f_d92.noNaN
    refine Own.i2d X45 at_92 e_d92 ?_
    refine Own.callV_ (y := mn_4) (z := mn_4) (a := pop) X45 at_93 (Own.wd hw 29 rfl) (Own.wd hw 30 rfl) (Own.wd hw 32 rfl) (Own.wd hw 31 rfl) rfl (Own.wd hw 12 rfl) (Own.wd hw 33 rfl) (by decide) F50 (rm5_00000 l Z a0 hw pop sa_30_1 d92 pl_81_45 oa_81_45 na_81_45 x0_81_45 x1_81_45 x2_81_45 k_pl_81_45 c_pl_81_45 k_oa_81_45 k_na_81_45 0 0 0 (0 : Int64) (0 : Int64) (0 : Int64) (0 : Int64) k_sa_30_1 (i1 >>> ((1 : Int32) &&& 31)) ((i1 >>> ((1 : Int32) &&& 31)) + (1073741824 : Int32)) (0 : Int32) (0 : Int32) h45 n0 Z51 F50 G45_0 G45_1 G45_2 G45_3 G45_4 G45_5 G45_6 G45_7 G45_8 G45_11 G45_12 F46 ne56 ne80 ne86 ne62 ne68 ne74 U45_3 U45_4 U45_0 U45_1 U45_2 U45_14 (Ne.symm U45_7) (Ne.symm U45_10) (Ne.symm U45_12) (Ne.symm U45_8) (Ne.symm U45_11) (Ne.symm U45_13) U45_5 U45_6 U45_9 ne28 ne52 ne76 ne82 ne58 ne64 ne70 fr32 fr63 fr69 fr75 fr81 fr87 n_d92 ) (lenOf pd_17 rfl) rfl (argsL := [.ref sa_30_1, .double d92]) (rest := []) rfl (W := 0) (Nat.le_of_eq rfl) (by decide) (by decide) (by decide) (by decide) fun T282 h282 v282 X282 q282 => ?_
    obtain ⟨rfl, K282, G282_0, G282_1, G282_2, G282_3, G282_4, G282_5, G282_6, G282_7, G282_8, G282_9⟩ := q282
    have F283 := F46.keep K282 (ninS ne28 (ninS ne58 (ninS ne76 (ninS ne82 nin0))))
    have F284 := F47.keep K282 (ninS ne29 (ninS ne59 (ninS ne77 (ninS ne83 nin0))))
    have F285 := F48.keep K282 (ninS ne30 (ninS ne60 (ninS ne78 (ninS ne84 nin0))))
    have F286 := F49.keep K282 (ninS ne31 (ninS ne61 (ninS ne79 (ninS ne85 nin0))))
    have F287 := F50.keep K282
    have F288 := G45_7.keep K282 (ninS (Ne.symm ne56) (ninS U45_0 (ninS U45_3 (ninS U45_4 nin0))))
    have F289 := G45_9.keep K282 (ninS (Ne.symm ne68) (ninS (Ne.symm U45_5) (ninS U45_10 (ninS U45_11 nin0))))
    have F290 := G45_10.keep K282 (ninS (Ne.symm ne74) (ninS (Ne.symm U45_6) (ninS U45_12 (ninS U45_13 nin0))))
    have F291 := G45_13.keep K282
    have F292 := G45_14.keep K282
    have F293 := G45_15.keep K282
    have Z294 : n0 ≤ h282.size := Nat.le_trans Z51 K282.1
    show Own.Go p e below s n0 _ _ _ (T282.setTop (mkF m 96 _ []))
    clear F46 F47 F48 F49 F50 G45_0 G45_1 G45_10 G45_11 G45_12 G45_13 G45_14 G45_15 G45_2 G45_3 G45_4 G45_5 G45_6 G45_7 G45_8 G45_9 X45
    refine Own.aload X282 at_96 rfl rfl ?_
    refine Own.aload X282 at_98 rfl rfl ?_
    refine Own.iload X282 at_100 rfl ?_
    obtain ⟨d102, e_d102⟩ : ∃ v, FP.i2d v1 = v := ⟨_, rfl⟩
    obtain ⟨f_d102, z_d102⟩ := Own.i2d_v e_d102
    have n_d102 := f_d102.noNaN
    refine Own.i2d X282 at_102 e_d102 ?_
    refine Own.callV_ (y := mn_4) (z := mn_4) (a := pop) X282 at_103 (Own.wd hw 29 rfl) (Own.wd hw 30 rfl) (Own.wd hw 32 rfl) (Own.wd hw 31 rfl) rfl (Own.wd hw 12 rfl) (Own.wd hw 33 rfl) (by decide) F287 (rm5_10010 l Z a0 hw pop sa_36_4 d102 pl_81_45 oa_81_45 na_81_45 x0_81_45 x1_81_45 x2_81_45 k_pl_81_45 c_pl_81_45 k_oa_81_45 k_na_81_45 d92 0 0 (0 : Int64) (0 : Int64) (0 : Int64) ((0 : Int64) + (1 : Int64)) k_sa_36_4 (i2 >>> ((1 : Int32) &&& 31)) ((i2 >>> ((1 : Int32) &&& 31)) + (1073741824 : Int32)) (0 : Int32) (0 : Int32) h282 n0 Z294 F287 G282_0 G282_1 G282_2 G282_3 G282_4 G282_5 G282_6 F288 F289 G282_8 G282_9 F284 ne56 ne80 ne86 ne62 ne68 ne74 U45_3 U45_4 U45_0 U45_1 U45_2 U45_14 (Ne.symm U45_7) (Ne.symm U45_10) (Ne.symm U45_12) (Ne.symm U45_8) (Ne.symm U45_11) (Ne.symm U45_13) U45_5 U45_6 U45_9 ne29 ne53 ne77 ne83 ne59 ne65 ne71 fr32 fr63 fr69 fr75 fr81 fr87 n_d102 n_d92 (by rw [z_d92, z_d102]; exact Own.U_lt.mpr (by omega)) (by rw [z_d92, z_d102]; exact Own.U_le.mpr (by omega))) (lenOf pd_17 rfl) rfl (argsL := [.ref sa_36_4, .double d102]) (rest := []) rfl (W := 0) (Nat.le_of_eq rfl) (by decide) (by decide) (by decide) (by decide) fun T295 h295 v295 X295 q295 => ?_
    obtain ⟨rfl, K295, G295_0, G295_1, G295_2, G295_3, G295_4, G295_5, G295_6, G295_7, G295_8, G295_9⟩ := q295
    have F296 := F283.keep K295 (ninS ne28 (ninS ne64 (ninS ne76 (ninS ne82 nin0))))
    have F297 := F284.keep K295 (ninS ne29 (ninS ne65 (ninS ne77 (ninS ne83 nin0))))
    have F298 := F285.keep K295 (ninS ne30 (ninS ne66 (ninS ne78 (ninS ne84 nin0))))
    have F299 := F286.keep K295 (ninS ne31 (ninS ne67 (ninS ne79 (ninS ne85 nin0))))
    have F300 := F287.keep K295
    have F301 := F288.keep K295 (ninS (Ne.symm ne56) (ninS U45_1 (ninS U45_3 (ninS U45_4 nin0))))
    have F302 := F290.keep K295 (ninS (Ne.symm ne74) (ninS (Ne.symm U45_9) (ninS U45_12 (ninS U45_13 nin0))))
    have F303 := F291.keep K295
    have F304 := F292.keep K295
    have F305 := F293.keep K295
    have F306 := G282_7.keep K295 (ninS (Ne.symm ne62) (ninS U45_5 (ninS U45_7 (ninS U45_8 nin0))))
    have Z307 : n0 ≤ h295.size := Nat.le_trans Z294 K295.1
    show Own.Go p e below s n0 _ _ _ (T295.setTop (mkF m 106 _ []))
    clear F283 F284 F285 F286 F287 F288 F289 F290 F291 F292 F293 G282_0 G282_1 G282_2 G282_3 G282_4 G282_5 G282_6 G282_7 G282_8 G282_9 X282
    refine Own.aload X295 at_106 rfl rfl ?_
    refine Own.aload X295 at_108 rfl rfl ?_
    refine Own.iload X295 at_110 rfl ?_
    obtain ⟨d112, e_d112⟩ : ∃ v, FP.i2d v2 = v := ⟨_, rfl⟩
    obtain ⟨f_d112, z_d112⟩ := Own.i2d_v e_d112
    have n_d112 := f_d112.noNaN
    refine Own.i2d X295 at_112 e_d112 ?_
    refine Own.callV_ (y := mn_4) (z := mn_4) (a := pop) X295 at_113 (Own.wd hw 29 rfl) (Own.wd hw 30 rfl) (Own.wd hw 32 rfl) (Own.wd hw 31 rfl) rfl (Own.wd hw 12 rfl) (Own.wd hw 33 rfl) (by decide) F300 (rm5_21010 l Z a0 hw pop sa_42_9 d112 pl_81_45 oa_81_45 na_81_45 x0_81_45 x1_81_45 x2_81_45 k_pl_81_45 c_pl_81_45 k_oa_81_45 k_na_81_45 d92 d102 0 (0 : Int64) ((0 : Int64) + (1 : Int64)) (0 : Int64) (((0 : Int64) + (1 : Int64)) + (1 : Int64)) k_sa_42_9 (i3 >>> ((1 : Int32) &&& 31)) ((i3 >>> ((1 : Int32) &&& 31)) + (1073741824 : Int32)) (0 : Int32) (0 : Int32) h295 n0 Z307 F300 G295_0 G295_1 G295_2 G295_3 G295_4 G295_5 G295_6 F301 F302 G295_8 G295_9 F298 ne56 ne80 ne86 ne62 ne68 ne74 U45_3 U45_4 U45_0 U45_1 U45_2 U45_14 (Ne.symm U45_7) (Ne.symm U45_10) (Ne.symm U45_12) (Ne.symm U45_8) (Ne.symm U45_11) (Ne.symm U45_13) U45_5 U45_6 U45_9 ne30 ne54 ne78 ne84 ne60 ne66 ne72 fr32 fr63 fr69 fr75 fr81 fr87 n_d112 n_d92 n_d102 (by rw [z_d112, z_d102]; exact Own.U_le.mpr (by omega)) (by rw [z_d92, z_d112]; exact Own.U_le.mpr (by omega))) (lenOf pd_17 rfl) rfl (argsL := [.ref sa_42_9, .double d112]) (rest := []) rfl (W := 0) (Nat.le_of_eq rfl) (by decide) (by decide) (by decide) (by decide) fun T308 h308 v308 X308 q308 => ?_
    obtain ⟨rfl, K308, G308_0, G308_1, G308_2, G308_3, G308_4, G308_5, G308_6, G308_7, G308_8, G308_9⟩ := q308
    have F309 := F296.keep K308 (ninS ne28 (ninS ne70 (ninS ne76 (ninS ne82 nin0))))
    have F310 := F297.keep K308 (ninS ne29 (ninS ne71 (ninS ne77 (ninS ne83 nin0))))
    have F311 := F298.keep K308 (ninS ne30 (ninS ne72 (ninS ne78 (ninS ne84 nin0))))
    have F312 := F299.keep K308 (ninS ne31 (ninS ne73 (ninS ne79 (ninS ne85 nin0))))
    have F313 := F300.keep K308
    have F314 := F301.keep K308 (ninS (Ne.symm ne56) (ninS U45_2 (ninS U45_3 (ninS U45_4 nin0))))
    have F315 := F303.keep K308
    have F316 := F304.keep K308
    have F317 := F305.keep K308
    have F318 := F306.keep K308 (ninS (Ne.symm ne62) (ninS U45_6 (ninS U45_7 (ninS U45_8 nin0))))
    have F319 := G295_7.keep K308 (ninS (Ne.symm ne68) (ninS U45_9 (ninS U45_10 (ninS U45_11 nin0))))
    have Z320 : n0 ≤ h308.size := Nat.le_trans Z307 K308.1
    show Own.Go p e below s n0 _ _ _ (T308.setTop (mkF m 116 _ []))
    clear F296 F297 F298 F299 F300 F301 F302 F303 F304 F305 F306 G295_0 G295_1 G295_2 G295_3 G295_4 G295_5 G295_6 G295_7 G295_8 G295_9 X295
    refine Own.iconst X308 (v := 0) at_116 rfl ?_
    refine Own.istore X308 at_117 (l' := #[.val (.int i0), .val (.int i1), .val (.int i2), .val (.int i3), .val (.int i4), .val (.int v0), .val (.int v1), .val (.int v2), .val (.ref sa_30_1), .val (.ref sa_36_4), .val (.ref sa_42_9), .val (.ref sa_49_16), .val (.int mn), .val (.double d72), .second, .val (.ref pop), .val (.int (0 : Int32)), .unset, .unset, .unset, .unset, .unset, .unset, .unset, .unset, .unset, .unset, .unset]) rfl ?_
    refine Own.iload X308 at_119 rfl ?_
    refine Own.istore X308 at_121 (l' := #[.val (.int i0), .val (.int i1), .val (.int i2), .val (.int i3), .val (.int i4), .val (.int v0), .val (.int v1), .val (.int v2), .val (.ref sa_30_1), .val (.ref sa_36_4), .val (.ref sa_42_9), .val (.ref sa_49_16), .val (.int mn), .val (.double d72), .second, .val (.ref pop), .val (.int (0 : Int32)), .val (.int v0), .unset, .unset, .unset, .unset, .unset, .unset, .unset, .unset, .unset, .unset]) rfl ?_
    refine Own.iload X308 at_123 rfl ?_
    refine Own.iload X308 at_125 rfl ?_
    refine Own.icmp_ X308 (pc' := 137) at_127 (by decide) (fun _ => ?_) (fun q => absurd (show v0.toInt ≤ v1.toInt from by omega) q)
    refine Own.iload X308 at_137 rfl ?_
    refine Own.iload X308 at_139 rfl ?_
    refine Own.icmp_ X308 (pc' := 151) at_141 (by decide) (fun _ => ?_) (fun q => absurd (show v0.toInt ≤ v2.toInt from by omega) q)
    refine Own.iconst X308 (v := 0) at_151 rfl ?_
    refine Own.istore X308 at_152 (l' := #[.val (.int i0), .val (.int i1), .val (.int i2), .val (.int i3), .val (.int i4), .val (.int v0), .val (.int v1), .val (.int v2), .val (.ref sa_30_1), .val (.ref sa_36_4), .val (.ref sa_42_9), .val (.ref sa_49_16), .val (.int mn), .val (.double d72), .second, .val (.ref pop), .val (.int (0 : Int32)), .val (.int v0), .val (.int (0 : Int32)), .unset, .unset, .unset, .unset, .unset, .unset, .unset, .unset, .unset]) rfl ?_
    refine Own.iload X308 at_154 rfl ?_
    refine Own.istore X308 at_156 (l' := #[.val (.int i0), .val (.int i1), .val (.int i2), .val (.int i3), .val (.int i4), .val (.int v0), .val (.int v1), .val (.int v2), .val (.ref sa_30_1), .val (.ref sa_36_4), .val (.ref sa_42_9), .val (.ref sa_49_16), .val (.int mn), .val (.double d72), .second, .val (.ref pop), .val (.int (0 : Int32)), .val (.int v0), .val (.int (0 : Int32)), .val (.int v0), .unset, .unset, .unset, .unset, .unset, .unset, .unset, .unset]) rfl ?_
    refine Own.iload X308 at_158 rfl ?_
    refine Own.iload X308 at_160 rfl ?_
    refine Own.icmp_ X308 (pc' := 172) at_162 (by decide) (fun q => absurd (show v1.toInt ≤ v0.toInt from q) (show ¬ (v1.toInt ≤ v0.toInt) from by omega)) (fun _ => ?_)
    refine Own.iconst X308 (v := 1) at_165 rfl ?_
    refine Own.istore X308 at_166 (l' := #[.val (.int i0), .val (.int i1), .val (.int i2), .val (.int i3), .val (.int i4), .val (.int v0), .val (.int v1), .val (.int v2), .val (.ref sa_30_1), .val (.ref sa_36_4), .val (.ref sa_42_9), .val (.ref sa_49_16), .val (.int mn), .val (.double d72), .second, .val (.ref pop), .val (.int (0 : Int32)), .val (.int v0), .val (.int (1 : Int32)), .val (.int v0), .unset, .unset, .unset, .unset, .unset, .unset, .unset, .unset]) rfl ?_
    refine Own.iload X308 at_168 rfl ?_
    refine Own.istore X308 at_170 (l' := #[.val (.int i0), .val (.int i1), .val (.int i2), .val (.int i3), .val (.int i4), .val (.int v0), .val (.int v1), .val (.int v2), .val (.ref sa_30_1), .val (.ref sa_36_4), .val (.ref sa_42_9), .val (.ref sa_49_16), .val (.int mn), .val (.double d72), .second, .val (.ref pop), .val (.int (0 : Int32)), .val (.int v0), .val (.int (1 : Int32)), .val (.int v1), .unset, .unset, .unset, .unset, .unset, .unset, .unset, .unset]) rfl ?_
    refine Own.iload X308 at_172 rfl ?_
    refine Own.iload X308 at_174 rfl ?_
    refine Own.icmp_ X308 (pc' := 186) at_176 (by decide) (fun _ => ?_) (fun q => absurd (show v2.toInt ≤ v1.toInt from by omega) q)
    refine Own.iload X308 at_186 rfl ?_
    refine Own.iff_ X308 (pc' := 195) at_188 (by decide) (fun q => absurd (show ¬ ((0 : Int) = (0 : Int)) from q) (show ¬ (¬ ((0 : Int) = (0 : Int))) from fun z => z (by decide))) (fun _ => ?_)
    refine Own.iloadN X308 at_191 rfl ?_
    refine Own.goto_ X308 (pc' := 206) at_192 (by decide) ?_
    refine Own.istore X308 at_206 (l' := #[.val (.int i0), .val (.int i1), .val (.int i2), .val (.int i3), .val (.int i4), .val (.int v0), .val (.int v1), .val (.int v2), .val (.ref sa_30_1), .val (.ref sa_36_4), .val (.ref sa_42_9), .val (.ref sa_49_16), .val (.int mn), .val (.double d72), .second, .val (.ref pop), .val (.int (0 : Int32)), .val (.int v0), .val (.int (1 : Int32)), .val (.int v1), .val (.int i1), .unset, .unset, .unset, .unset, .unset, .unset, .unset]) rfl ?_
    refine Own.aload X308 at_208 rfl rfl ?_
    refine Own.callV_ (y := mn_5) (z := mn_5) (a := pop) X308 at_210 (Own.wd hw 50 rfl) (Own.wd hw 51 rfl) (Own.wd hw 53 rfl) (Own.wd hw 52 rfl) rfl (Own.wd hw 12 rfl) (Own.wd hw 54 rfl) (by decide) F313 (rm7 l Z a0 hw pop (3 : Int32) h308 n0 Z320 G308_3 ) (lenOf pd_18 rfl) rfl (argsL := []) (rest := []) rfl (W := 0) (Nat.le_of_eq rfl) (by decide) (by decide) (by decide) (by decide) fun T321 h321 v321 X321 q321 => ?_
    obtain ⟨rfl, rfl⟩ := q321
    show Own.Go p e below s n0 _ _ _ (T321.setTop (mkF m 213 _ [.int (3 : Int32)]))
    clear X308
    refine Own.iconst X321 (v := 3) at_213 rfl ?_
    refine Own.icmp_ X321 (pc' := 221) at_214 (by decide) (fun q => absurd (show ¬ ((3 : Int) = (3 : Int)) from q) (show ¬ (¬ ((3 : Int) = (3 : Int))) from fun z => z (by decide))) (fun _ => ?_)
    refine Own.iconst X321 (v := 1) at_217 rfl ?_
    refine Own.goto_ X321 (pc' := 222) at_218 (by decide) ?_
    refine Own.istore X321 at_222 (l' := #[.val (.int i0), .val (.int i1), .val (.int i2), .val (.int i3), .val (.int i4), .val (.int v0), .val (.int v1), .val (.int v2), .val (.ref sa_30_1), .val (.ref sa_36_4), .val (.ref sa_42_9), .val (.ref sa_49_16), .val (.int mn), .val (.double d72), .second, .val (.ref pop), .val (.int (0 : Int32)), .val (.int v0), .val (.int (1 : Int32)), .val (.int v1), .val (.int i1), .val (.int (1 : Int32)), .unset, .unset, .unset, .unset, .unset, .unset]) rfl ?_
    refine Own.aload X321 at_224 rfl rfl ?_
    refine Own.callV_ (y := mn_6) (z := mn_6) (a := pop) X321 at_226 (Own.wd hw 55 rfl) (Own.wd hw 56 rfl) (Own.wd hw 58 rfl) (Own.wd hw 57 rfl) rfl (Own.wd hw 12 rfl) (Own.wd hw 59 rfl) (by decide) F313 (rm8_0 l Z a0 hw pop oa_81_45 k_oa_81_45 d92 d102 d112 h308 n0 Z320 G308_1 G308_6 G308_8 ) (lenOf pd_19 rfl) rfl (argsL := []) (rest := []) rfl (W := 0) (Nat.le_of_eq rfl) (by decide) (by decide) (by decide) (by decide) fun T322 h322 v322 X322 q322 => ?_
    obtain ⟨rfl, rfl⟩ := q322
    show Own.Go p e below s n0 _ _ _ (T322.setTop (mkF m 229 _ [.double d92]))
    clear X321
    refine Own.iload X322 at_229 rfl ?_
    obtain ⟨d231, e_d231⟩ : ∃ v, FP.i2d v0 = v := ⟨_, rfl⟩
    obtain ⟨f_d231, z_d231⟩ := Own.i2d_v e_d231
    have n_d231 := f_d231.noNaN
    refine Own.i2d X322 at_231 e_d231 ?_
    refine Own.dcmpF X322 (pc' := 240) at_232 at_233 (by decide) n_d92 n_d231 (fun q => absurd (show ¬ (Own.dz d92 = Own.dz d231) from q) (show ¬ (¬ (Own.dz d92 = Own.dz d231)) from fun z => z (by rw [z_d92, z_d231]))) (fun _ => ?_)
    refine Own.iconst X322 (v := 1) at_236 rfl ?_
    refine Own.goto_ X322 (pc' := 241) at_237 (by decide) ?_
    refine Own.istore X322 at_241 (l' := #[.val (.int i0), .val (.int i1), .val (.int i2), .val (.int i3), .val (.int i4), .val (.int v0), .val (.int v1), .val (.int v2), .val (.ref sa_30_1), .val (.ref sa_36_4), .val (.ref sa_42_9), .val (.ref sa_49_16), .val (.int mn), .val (.double d72), .second, .val (.ref pop), .val (.int (0 : Int32)), .val (.int v0), .val (.int (1 : Int32)), .val (.int v1), .val (.int i1), .val (.int (1 : Int32)), .val (.int (1 : Int32)), .unset, .unset, .unset, .unset, .unset]) rfl ?_
    refine Own.aload X322 at_243 rfl rfl ?_
    refine Own.callV_ (y := mn_7) (z := mn_7) (a := pop) X322 at_245 (Own.wd hw 60 rfl) (Own.wd hw 61 rfl) (Own.wd hw 63 rfl) (Own.wd hw 62 rfl) rfl (Own.wd hw 12 rfl) (Own.wd hw 64 rfl) (by decide) F313 (rm9_0 l Z a0 hw pop pl_81_45 x0_81_45 x1_81_45 x2_81_45 k_pl_81_45 c_pl_81_45 (i1 >>> ((1 : Int32) &&& 31)) ((i1 >>> ((1 : Int32) &&& 31)) + (1073741824 : Int32)) h308 n0 Z320 G308_0 G308_6 F314 F318 F315 ) (lenOf pd_20 rfl) rfl (argsL := []) (rest := []) rfl (W := 0) (Nat.le_of_eq rfl) (by decide) (by decide) (by decide) (by decide) fun T323 h323 v323 X323 q323 => ?_
    obtain ⟨cl_245_323, rfl, K323, B323_0, G323_0⟩ := q323
    have F324 := F309.keep K323 nin0
    have F325 := F310.keep K323 nin0
    have F326 := F311.keep K323 nin0
    have F327 := F312.keep K323 nin0
    have F328 := F313.keep K323
    have F329 := F314.keep K323 nin0
    have F330 := F315.keep K323
    have F331 := F316.keep K323
    have F332 := F317.keep K323
    have F333 := F318.keep K323 nin0
    have F334 := F319.keep K323 nin0
    have F335 := G308_0.keep K323 nin0
    have F336 := G308_1.keep K323 nin0
    have F337 := G308_2.keep K323 nin0
    have F338 := G308_3.keep K323 nin0
    have F339 := G308_4.keep K323 nin0
    have F340 := G308_5.keep K323 nin0
    have F341 := G308_6.keep K323 nin0
    have F342 := G308_7.keep K323 nin0
    have F343 := G308_8.keep K323 nin0
    have F344 := G308_9.keep K323 nin0
    have Z345 : n0 ≤ h323.size := Nat.le_trans Z320 K323.1
    have ne346 : sa_30_1 ≠ cl_245_323 := Nat.ne_of_lt (Nat.lt_of_lt_of_le F309.lt B323_0)
    have ne347 : sa_36_4 ≠ cl_245_323 := Nat.ne_of_lt (Nat.lt_of_lt_of_le F310.lt B323_0)
    have ne348 : sa_42_9 ≠ cl_245_323 := Nat.ne_of_lt (Nat.lt_of_lt_of_le F311.lt B323_0)
    have ne349 : sa_49_16 ≠ cl_245_323 := Nat.ne_of_lt (Nat.lt_of_lt_of_le F312.lt B323_0)
    have ne350 : pop ≠ cl_245_323 := Nat.ne_of_lt (Nat.lt_of_lt_of_le F313.lt B323_0)
    have ne351 : pl_81_45 ≠ cl_245_323 := Nat.ne_of_lt (Nat.lt_of_lt_of_le F314.lt B323_0)
    have ne352 : x0_81_45 ≠ cl_245_323 := Nat.ne_of_lt (Nat.lt_of_lt_of_le F315.lt B323_0)
    have ne353 : x1_81_45 ≠ cl_245_323 := Nat.ne_of_lt (Nat.lt_of_lt_of_le F316.lt B323_0)
    have ne354 : x2_81_45 ≠ cl_245_323 := Nat.ne_of_lt (Nat.lt_of_lt_of_le F317.lt B323_0)
    have ne355 : oa_81_45 ≠ cl_245_323 := Nat.ne_of_lt (Nat.lt_of_lt_of_le G308_8.lt B323_0)
    have ne356 : na_81_45 ≠ cl_245_323 := Nat.ne_of_lt (Nat.lt_of_lt_of_le G308_9.lt B323_0)
    have fr357 : n0 ≤ cl_245_323 := Nat.le_trans Z320 B323_0
    show Own.Go p e below s n0 _ _ _ (T323.setTop (mkF m 248 _ [.ref cl_245_323]))
    clear F309 F310 F311 F312 F313 F314 F315 F316 F317 F318 F319 G308_0 G308_1 G308_2 G308_3 G308_4 G308_5 G308_6 G308_7 G308_8 G308_9 X322
    refine Own.iload X323 at_248 rfl ?_
    refine Own.callS_ (y := mn_13) X323 at_250 (Own.wd hw 74 rfl) (Own.wd hw 75 rfl) (Own.wd hw 2 rfl) (Own.wd hw 76 rfl) (by decide) (rm10 l Z a0 hw cl_245_323 i1 c_pl_81_45 (i1 >>> ((1 : Int32) &&& 31)) ((i1 >>> ((1 : Int32) &&& 31)) + (1073741824 : Int32)) h323 n0 Z345 G323_0 rfl rfl) (lenOf pd_21 rfl) rfl (argsL := [.ref cl_245_323, .int i1]) (rest := []) rfl (W := 0) (Nat.le_of_eq rfl) (by decide) (by decide) (by decide) (by decide) fun T358 h358 v358 X358 q358 => ?_
    obtain ⟨rfl, rfl⟩ := q358
    show Own.Go p e below s n0 _ _ _ (T358.setTop (mkF m 253 _ [.int (1 : Int32)]))
    clear X323
    refine Own.istore X358 at_253 (l' := #[.val (.int i0), .val (.int i1), .val (.int i2), .val (.int i3), .val (.int i4), .val (.int v0), .val (.int v1), .val (.int v2), .val (.ref sa_30_1), .val (.ref sa_36_4), .val (.ref sa_42_9), .val (.ref sa_49_16), .val (.int mn), .val (.double d72), .second, .val (.ref pop), .val (.int (0 : Int32)), .val (.int v0), .val (.int (1 : Int32)), .val (.int v1), .val (.int i1), .val (.int (1 : Int32)), .val (.int (1 : Int32)), .val (.int (1 : Int32)), .unset, .unset, .unset, .unset]) rfl ?_
    refine Own.aload X358 at_255 rfl rfl ?_
    refine Own.aload X358 at_257 rfl rfl ?_
    refine Own.dload X358 at_259 rfl ?_
    refine Own.callV_ (y := mn_11) (z := mn_11) (a := pop) X358 at_261 (Own.wd hw 77 rfl) (Own.wd hw 78 rfl) (Own.wd hw 80 rfl) (Own.wd hw 79 rfl) rfl (Own.wd hw 12 rfl) (Own.wd hw 81 rfl) (by decide) F328 (rm11_1N l Z a0 hw pop sa_49_16 d72 pl_81_45 oa_81_45 na_81_45 x0_81_45 x1_81_45 x2_81_45 k_pl_81_45 c_pl_81_45 k_oa_81_45 k_na_81_45 d92 d102 d112 (0 : Int64) ((0 : Int64) + (1 : Int64)) (((0 : Int64) + (1 : Int64)) + (1 : Int64)) ((((0 : Int64) + (1 : Int64)) + (1 : Int64)) + (1 : Int64)) k_sa_49_16 (i4 >>> ((1 : Int32) &&& 31)) ((i4 >>> ((1 : Int32) &&& 31)) + (1073741824 : Int32)) (0 : Int32) (i2 >>> ((1 : Int32) &&& 31)) ((i2 >>> ((1 : Int32) &&& 31)) + (1073741824 : Int32)) h323 n0 Z345 F328 F335 F336 F337 F338 F339 F340 F341 F329 F334 F343 F344 F327 ne56 ne80 ne86 ne62 ne68 ne74 U45_3 U45_4 U45_0 U45_1 U45_2 U45_14 (Ne.symm U45_7) (Ne.symm U45_10) (Ne.symm U45_12) (Ne.symm U45_8) (Ne.symm U45_11) (Ne.symm U45_13) U45_5 U45_6 U45_9 ne31 ne55 ne79 ne85 ne61 ne67 ne73 fr32 fr63 fr69 fr75 fr81 fr87 n_d72 n_d92 n_d102 n_d112 (by rw [z_d72, z_d92]; exact Own.U_lt.mpr (by omega)) (by rw [z_d72, z_d102]; exact Own.U_lt.mpr (by omega)) (by rw [z_d72, z_d112]; exact Own.U_lt.mpr (by omega)) d92 (by decide) rfl n_d92 (by rw [z_d72, z_d92]; exact Own.U_lt.mpr (by omega))) (lenOf pd_10 rfl) rfl (argsL := [.ref sa_49_16, .double d72]) (rest := []) rfl (W := 0) (Nat.le_of_eq rfl) (by decide) (by decide) (by decide) (by decide) fun T359 h359 v359 X359 q359 => ?_
    obtain ⟨rfl, K359, G359_0, G359_1, G359_2⟩ := q359
    have F360 := F324.keep K359 (ninS ne28 (ninS ne64 (ninS ne76 (ninS ne82 nin0))))
    have F361 := F325.keep K359 (ninS ne29 (ninS ne65 (ninS ne77 (ninS ne83 nin0))))
    have F362 := F326.keep K359 (ninS ne30 (ninS ne66 (ninS ne78 (ninS ne84 nin0))))
    have F363 := F327.keep K359 (ninS ne31 (ninS ne67 (ninS ne79 (ninS ne85 nin0))))
    have F364 := F328.keep K359
    have F365 := F329.keep K359 (ninS (Ne.symm ne56) (ninS U45_1 (ninS U45_3 (ninS U45_4 nin0))))
    have F366 := F330.keep K359
    have F367 := F331.keep K359
    have F368 := F332.keep K359
    have F369 := F333.keep K359 (ninS (Ne.symm ne62) (ninS U45_5 (ninS U45_7 (ninS U45_8 nin0))))
    have F370 := F342.keep K359 (ninS (Ne.symm ne74) (ninS (Ne.symm U45_9) (ninS U45_12 (ninS U45_13 nin0))))
    have F371 := G323_0.keep K359 (ninS (Ne.symm ne350) (ninS (Ne.symm ne353) (ninS (Ne.symm ne355) (ninS (Ne.symm ne356) nin0))))
    have Z372 : n0 ≤ h359.size := Nat.le_trans Z345 K359.1
    show Own.Go p e below s n0 _ _ _ (T359.setTop (mkF m 264 _ [.int (1 : Int32)]))
    clear F324 F325 F326 F327 F328 F329 F330 F331 F332 F333 F334 F335 F336 F337 F338 F339 F340 F341 F342 F343 F344 G323_0 X358
    refine Own.istore X359 at_264 (l' := #[.val (.int i0), .val (.int i1), .val (.int i2), .val (.int i3), .val (.int i4), .val (.int v0), .val (.int v1), .val (.int v2), .val (.ref sa_30_1), .val (.ref sa_36_4), .val (.ref sa_42_9), .val (.ref sa_49_16), .val (.int mn), .val (.double d72), .second, .val (.ref pop), .val (.int (0 : Int32)), .val (.int v0), .val (.int (1 : Int32)), .val (.int v1), .val (.int i1), .val (.int (1 : Int32)), .val (.int (1 : Int32)), .val (.int (1 : Int32)), .val (.int (1 : Int32)), .unset, .unset, .unset]) rfl ?_
    refine Own.aload X359 at_266 rfl rfl ?_
    refine Own.iconst X359 (v := 0) at_268 rfl ?_
    refine Own.callV_ (y := mn_8) (z := mn_8) (a := pop) X359 at_269 (Own.wd hw 86 rfl) (Own.wd hw 87 rfl) (Own.wd hw 89 rfl) (Own.wd hw 88 rfl) rfl (Own.wd hw 12 rfl) (Own.wd hw 90 rfl) (by decide) F364 (rm13_0 l Z a0 hw pop pl_81_45 x0_81_45 x1_81_45 x2_81_45 k_pl_81_45 h359 n0 Z372 G359_0 F365 ) (lenOf pd_14 rfl) rfl (argsL := [.int (0 : Int32)]) (rest := []) rfl (W := 0) (Nat.le_of_eq rfl) (by decide) (by decide) (by decide) (by decide) fun T373 h373 v373 X373 q373 => ?_
    obtain ⟨rfl, rfl⟩ := q373
    show Own.Go p e below s n0 _ _ _ (T373.setTop (mkF m 272 _ [.ref x0_81_45]))
    clear X359
    refine Own.iload X373 at_272 rfl ?_
    refine Own.iff_ X373 (pc' := 282) at_274 (by decide) (fun _ => ?_) (fun q => absurd (show ¬ ((1 : Int) = (0 : Int)) from by decide) q)
    refine Own.iloadN X373 at_282 rfl ?_
    refine Own.callS_ (y := mn_13) X373 at_283 (Own.wd hw 74 rfl) (Own.wd hw 75 rfl) (Own.wd hw 2 rfl) (Own.wd hw 76 rfl) (by decide) (rm10 l Z a0 hw x0_81_45 i1 c_pl_81_45 (i1 >>> ((1 : Int32) &&& 31)) ((i1 >>> ((1 : Int32) &&& 31)) + (1073741824 : Int32)) h359 n0 Z372 F369 rfl rfl) (lenOf pd_21 rfl) rfl (argsL := [.ref x0_81_45, .int i1]) (rest := []) rfl (W := 0) (Nat.le_of_eq rfl) (by decide) (by decide) (by decide) (by decide) fun T374 h374 v374 X374 q374 => ?_
    obtain ⟨rfl, rfl⟩ := q374
    show Own.Go p e below s n0 _ _ _ (T374.setTop (mkF m 286 _ [.int (1 : Int32)]))
    clear X373
    refine Own.istore X374 at_286 (l' := #[.val (.int i0), .val (.int i1), .val (.int i2), .val (.int i3), .val (.int i4), .val (.int v0), .val (.int v1), .val (.int v2), .val (.ref sa_30_1), .val (.ref sa_36_4), .val (.ref sa_42_9), .val (.ref sa_49_16), .val (.int mn), .val (.double d72), .second, .val (.ref pop), .val (.int (0 : Int32)), .val (.int v0), .val (.int (1 : Int32)), .val (.int v1), .val (.int i1), .val (.int (1 : Int32)), .val (.int (1 : Int32)), .val (.int (1 : Int32)), .val (.int (1 : Int32)), .val (.int (1 : Int32)), .unset, .unset]) rfl ?_
    refine Own.aload X374 at_288 rfl rfl ?_
    refine Own.iconst X374 (v := 1) at_290 rfl ?_
    refine Own.callV_ (y := mn_8) (z := mn_8) (a := pop) X374 at_291 (Own.wd hw 86 rfl) (Own.wd hw 87 rfl) (Own.wd hw 89 rfl) (Own.wd hw 88 rfl) rfl (Own.wd hw 12 rfl) (Own.wd hw 90 rfl) (by decide) F364 (rm13_1 l Z a0 hw pop pl_81_45 x0_81_45 x1_81_45 x2_81_45 k_pl_81_45 h359 n0 Z372 G359_0 F365 ) (lenOf pd_14 rfl) rfl (argsL := [.int (1 : Int32)]) (rest := []) rfl (W := 0) (Nat.le_of_eq rfl) (by decide) (by decide) (by decide) (by decide) fun T375 h375 v375 X375 q375 => ?_
    obtain ⟨rfl, rfl⟩ := q375
    show Own.Go p e below s n0 _ _ _ (T375.setTop (mkF m 294 _ [.ref x1_81_45]))
    clear X374
    refine Own.iload X375 at_294 rfl ?_
    refine Own.iconst X375 (v := 1) at_296 rfl ?_
    refine Own.icmp_ X375 (pc' := 305) at_297 (by decide) (fun q => absurd (show ¬ ((1 : Int) = (1 : Int)) from q) (show ¬ (¬ ((1 : Int) = (1 : Int))) from fun z => z (by decide))) (fun _ => ?_)
    refine Own.iload X375 at_300 rfl ?_
    refine Own.goto_ X375 (pc' := 306) at_302 (by decide) ?_
    refine Own.callS_ (y := mn_13) X375 at_306 (Own.wd hw 74 rfl) (Own.wd hw 75 rfl) (Own.wd hw 2 rfl) (Own.wd hw 76 rfl) (by decide) (rm10 l Z a0 hw x1_81_45 i4 c_pl_81_45 (i4 >>> ((1 : Int32) &&& 31)) ((i4 >>> ((1 : Int32) &&& 31)) + (1073741824 : Int32)) h359 n0 Z372 G359_2 rfl rfl) (lenOf pd_21 rfl) rfl (argsL := [.ref x1_81_45, .int i4]) (rest := []) rfl (W := 0) (Nat.le_of_eq rfl) (by decide) (by decide) (by decide) (by decide) fun T376 h376 v376 X376 q376 => ?_
    obtain ⟨rfl, rfl⟩ := q376
    show Own.Go p e below s n0 _ _ _ (T376.setTop (mkF m 309 _ [.int (1 : Int32)]))
    clear X375
    refine Own.istore X376 at_309 (l' := #[.val (.int i0), .val (.int i1), .val (.int i2), .val (.int i3), .val (.int i4), .val (.int v0), .val (.int v1), .val (.int v2), .val (.ref sa_30_1), .val (.ref sa_36_4), .val (.ref sa_42_9), .val (.ref sa_49_16), .val (.int mn), .val (.double d72), .second, .val (.ref pop), .val (.int (0 : Int32)), .val (.int v0), .val (.int (1 : Int32)), .val (.int v1), .val (.int i1), .val (.int (1 : Int32)), .val (.int (1 : Int32)), .val (.int (1 : Int32)), .val (.int (1 : Int32)), .val (.int (1 : Int32)), .val (.int (1 : Int32)), .unset]) rfl ?_
    refine Own.aload X376 at_311 rfl rfl ?_
    refine Own.iconst X376 (v := 2) at_313 rfl ?_
    refine Own.callV_ (y := mn_8) (z := mn_8) (a := pop) X376 at_314 (Own.wd hw 86 rfl) (Own.wd hw 87 rfl) (Own.wd hw 89 rfl) (Own.wd hw 88 rfl) rfl (Own.wd hw 12 rfl) (Own.wd hw 90 rfl) (by decide) F364 (rm13_2 l Z a0 hw pop pl_81_45 x0_81_45 x1_81_45 x2_81_45 k_pl_81_45 h359 n0 Z372 G359_0 F365 ) (lenOf pd_14 rfl) rfl (argsL := [.int (2 : Int32)]) (rest := []) rfl (W := 0) (Nat.le_of_eq rfl) (by decide) (by decide) (by decide) (by decide) fun T377 h377 v377 X377 q377 => ?_
    obtain ⟨rfl, rfl⟩ := q377
    show Own.Go p e below s n0 _ _ _ (T377.setTop (mkF m 317 _ [.ref x2_81_45]))
    clear X376
    refine Own.iload X377 at_317 rfl ?_
    refine Own.iconst X377 (v := 2) at_319 rfl ?_
    refine Own.icmp_ X377 (pc' := 328) at_320 (by decide) (fun _ => ?_) (fun q => absurd (show ¬ ((1 : Int) = (2 : Int)) from by decide) q)
    refine Own.iloadN X377 at_328 rfl ?_
    refine Own.callS_ (y := mn_13) X377 at_329 (Own.wd hw 74 rfl) (Own.wd hw 75 rfl) (Own.wd hw 2 rfl) (Own.wd hw 76 rfl) (by decide) (rm10 l Z a0 hw x2_81_45 i3 c_pl_81_45 (i3 >>> ((1 : Int32) &&& 31)) ((i3 >>> ((1 : Int32) &&& 31)) + (1073741824 : Int32)) h359 n0 Z372 F370 rfl rfl) (lenOf pd_21 rfl) rfl (argsL := [.ref x2_81_45, .int i3]) (rest := []) rfl (W := 0) (Nat.le_of_eq rfl) (by decide) (by decide) (by decide) (by decide) fun T378 h378 v378 X378 q378 => ?_
    obtain ⟨rfl, rfl⟩ := q378
    show Own.Go p e below s n0 _ _ _ (T378.setTop (mkF m 332 _ [.int (1 : Int32)]))
    clear X377
    refine Own.istore X378 at_332 (l' := #[.val (.int i0), .val (.int i1), .val (.int i2), .val (.int i3), .val (.int i4), .val (.int v0), .val (.int v1), .val (.int v2), .val (.ref sa_30_1), .val (.ref sa_36_4), .val (.ref sa_42_9), .val (.ref sa_49_16), .val (.int mn), .val (.double d72), .second, .val (.ref pop), .val (.int (0 : Int32)), .val (.int v0), .val (.int (1 : Int32)), .val (.int v1), .val (.int i1), .val (.int (1 : Int32)), .val (.int (1 : Int32)), .val (.int (1 : Int32)), .val (.int (1 : Int32)), .val (.int (1 : Int32)), .val (.int (1 : Int32)), .val (.int (1 : Int32))]) rfl ?_
    refine Own.iload X378 at_334 rfl ?_
    refine Own.iff_ X378 (pc' := 373) at_336 (by decide) (fun q => absurd (show (1 : Int) = (0 : Int) from q) (show ¬ ((1 : Int) = (0 : Int)) from by decide)) (fun _ => ?_)
    refine Own.iload X378 at_339 rfl ?_
    refine Own.iff_ X378 (pc' := 373) at_341 (by decide) (fun q => absurd (show (1 : Int) = (0 : Int) from q) (show ¬ ((1 : Int) = (0 : Int)) from by decide)) (fun _ => ?_)
    refine Own.iload X378 at_344 rfl ?_
    refine Own.iff_ X378 (pc' := 373) at_346 (by decide) (fun q => absurd (show (1 : Int) = (0 : Int) from q) (show ¬ ((1 : Int) = (0 : Int)) from by decide)) (fun _ => ?_)
    refine Own.iload X378 at_349 rfl ?_
    refine Own.iff_ X378 (pc' := 373) at_351 (by decide) (fun q => absurd (show (1 : Int) = (0 : Int) from q) (show ¬ ((1 : Int) = (0 : Int)) from by decide)) (fun _ => ?_)
    refine Own.iload X378 at_354 rfl ?_
    refine Own.iff_ X378 (pc' := 373) at_356 (by decide) (fun q => absurd (show (1 : Int) = (0 : Int) from q) (show ¬ ((1 : Int) = (0 : Int)) from by decide)) (fun _ => ?_)
    refine Own.iload X378 at_359 rfl ?_
    refine Own.iff_ X378 (pc' := 373) at_361 (by decide) (fun q => absurd (show (1 : Int) = (0 : Int) from q) (show ¬ ((1 : Int) = (0 : Int)) from by decide)) (fun _ => ?_)
    refine Own.iload X378 at_364 rfl ?_
    refine Own.iff_ X378 (pc' := 373) at_366 (by decide) (fun q => absurd (show (1 : Int) = (0 : Int) from q) (show ¬ ((1 : Int) = (0 : Int)) from by decide)) (fun _ => ?_)
    refine Own.iconst X378 (v := 1) at_369 rfl ?_
    refine Own.goto_ X378 (pc' := 374) at_370 (by decide) ?_
    exact Own.retB X378 at_374 (by decide) rfl (by decide) (by decide)
  · refine Own.aload X45 at_86 rfl rfl ?_
    refine Own.aload X45 at_88 rfl rfl ?_
    refine Own.iload X45 at_90 rfl ?_
    obtain ⟨d92, e_d92⟩ : ∃ v, FP.i2d v0 = v := ⟨_, rfl⟩
    obtain ⟨f_d92, z_d92⟩ := Own.i2d_v e_d92
    have n_d92 := f_d92.noNaN
    refine Own.i2d X45 at_92 e_d92 ?_
    refine Own.callV_ (y := mn_4) (z := mn_4) (a := pop) X45 at_93 (Own.wd hw 29 rfl) (Own.wd hw 30 rfl) (Own.wd hw 32 rfl) (Own.wd hw 31 rfl) rfl (Own.wd hw 12 rfl) (Own.wd hw 33 rfl) (by decide) F50 (rm5_00000 l Z a0 hw pop sa_30_1 d92 pl_81_45 oa_81_45 na_81_45 x0_81_45 x1_81_45 x2_81_45 k_pl_81_45 c_pl_81_45 k_oa_81_45 k_na_81_45 0 0 0 (0 : Int64) (0 : Int64) (0 : Int64) (0 : Int64) k_sa_30_1 (i1 >>> ((1 : Int32) &&& 31)) ((i1 >>> ((1 : Int32) &&& 31)) + (1073741824 : Int32)) (0 : Int32) (0 : Int32) h45 n0 Z51 F50 G45_0 G45_1 G45_2 G45_3 G45_4 G45_5 G45_6 G45_7 G45_8 G45_11 G45_12 F46 ne56 ne80 ne86 ne62 ne68 ne74 U45_3 U45_4 U45_0 U45_1 U45_2 U45_14 (Ne.symm U45_7) (Ne.symm U45_10) (Ne.symm U45_12) (Ne.symm U45_8) (Ne.symm U45_11) (Ne.symm U45_13) U45_5 U45_6 U45_9 ne28 ne52 ne76 ne82 ne58 ne64 ne70 fr32 fr63 fr69 fr75 fr81 fr87 n_d92 ) (lenOf pd_17 rfl) rfl (argsL := [.ref sa_30_1, .double d92]) (rest := []) rfl (W := 0) (Nat.le_of_eq rfl) (by decide) (by decide) (by decide) (by decide) fun T379 h379 v379 X379 q379 => ?_
    obtain ⟨rfl, K379, G379_0, G379_1, G379_2, G379_3, G379_4, G379_5, G379_6, G379_7, G379_8, G379_9⟩ := q379
    have F380 := F46.keep K379 (ninS ne28 (ninS ne58 (ninS ne76 (ninS ne82 nin0))))
    have F381 := F47.keep K379 (ninS ne29 (ninS ne59 (ninS ne77 (ninS ne83 nin0))))
    have F382 := F48.keep K379 (ninS ne30 (ninS ne60 (ninS ne78 (ninS ne84 nin0))))
    have F383 := F49.keep K379 (ninS ne31 (ninS ne61 (ninS ne79 (ninS ne85 nin0))))
    have F384 := F50.keep K379
    have F385 := G45_7.keep K379 (ninS (Ne.symm ne56) (ninS U45_0 (ninS U45_3 (ninS U45_4 nin0))))
    have F386 := G45_9.keep K379 (ninS (Ne.symm ne68) (ninS (Ne.symm U45_5) (ninS U45_10 (ninS U45_11 nin0))))
    have F387 := G45_10.keep K379 (ninS (Ne.symm ne74) (ninS (Ne.symm U45_6) (ninS U45_12 (ninS U45_13 nin0))))
    have F388 := G45_13.keep K379
    have F389 := G45_14.keep K379
    have F390 := G45_15.keep K379
    have Z391 : n0 ≤ h379.size := Nat.le_trans Z51 K379.1
    show Own.Go p e below s n0 _ _ _ (T379.setTop (mkF m 96 _ []))
    clear F46 F47 F48 F49 F50 G45_0 G45_1 G45_10 G45_11 G45_12 G45_13 G45_14 G45_15 G45_2 G45_3 G45_4 G45_5 G45_6 G45_7 G45_8 G45_9 X45
    refine Own.aload X379 at_96 rfl rfl ?_
    refine Own.aload X379 at_98 rfl rfl ?_
    refine Own.iload X379 at_100 rfl ?_
    obtain ⟨d102, e_d102⟩ : ∃ v, FP.i2d v1 = v := ⟨_, rfl⟩
    obtain ⟨f_d102, z_d102⟩ := Own.i2d_v e_d102
    have n_d102 := f_d102.noNaN
    refine Own.i2d X379 at_102 e_d102 ?_
    refine Own.callV_ (y := mn_4) (z := mn_4) (a := pop) X379 at_103 (Own.wd hw 29 rfl) (Own.wd hw 30 rfl) (Own.wd hw 32 rfl) (Own.wd hw 31 rfl) rfl (Own.wd hw 12 rfl) (Own.wd hw 33 rfl) (by decide) F384 (rm5_10001 l Z a0 hw pop sa_36_4 d102 pl_81_45 oa_81_45 na_81_45 x0_81_45 x1_81_45 x2_81_45 k_pl_81_45 c_pl_81_45 k_oa_81_45 k_na_81_45 d92 0 0 (0 : Int64) (0 : Int64) (0 : Int64) ((0 : Int64) + (1 : Int64)) k_sa_36_4 (i2 >>> ((1 : Int32) &&& 31)) ((i2 >>> ((1 : Int32) &&& 31)) + (1073741824 : Int32)) (0 : Int32) (0 : Int32) h379 n0 Z391 F384 G379_0 G379_1 G379_2 G379_3 G379_4 G379_5 G379_6 F385 F386 G379_8 G379_9 F381 ne56 ne80 ne86 ne62 ne68 ne74 U45_3 U45_4 U45_0 U45_1 U45_2 U45_14 (Ne.symm U45_7) (Ne.symm U45_10) (Ne.symm U45_12) (Ne.symm U45_8) (Ne.symm U45_11) (Ne.symm U45_13) U45_5 U45_6 U45_9 ne29 ne53 ne77 ne83 ne59 ne65 ne71 fr32 fr63 fr69 fr75 fr81 fr87 n_d102 n_d92 (by rw [z_d102, z_d92]; exact Own.U_le.mpr (by omega)) (by rw [z_d102, z_d92]; exact Own.U_lt.mpr (by omega))) (lenOf pd_17 rfl) rfl (argsL := [.ref sa_36_4, .double d102]) (rest := []) rfl (W := 0) (Nat.le_of_eq rfl) (by decide) (by decide) (by decide) (by decide) fun T392 h392 v392 X392 q392 => ?_
    obtain ⟨rfl, K392, G392_0, G392_1, G392_2, G392_3, G392_4, G392_5, G392_6, G392_7, G392_8, G392_9⟩ := q392
    have F393 := F380.keep K392 (ninS ne28 (ninS ne64 (ninS ne76 (ninS ne82 nin0))))
    have F394 := F381.keep K392 (ninS ne29 (ninS ne65 (ninS ne77 (ninS ne83 nin0))))
    have F395 := F382.keep K392 (ninS ne30 (ninS ne66 (ninS ne78 (ninS ne84 nin0))))
    have F396 := F383.keep K392 (ninS ne31 (ninS ne67 (ninS ne79 (ninS ne85 nin0))))
    have F397 := F384.keep K392
    have F398 := F385.keep K392 (ninS (Ne.symm ne56) (ninS U45_1 (ninS U45_3 (ninS U45_4 nin0))))
    have F399 := F387.keep K392 (ninS (Ne.symm ne74) (ninS (Ne.symm U45_9) (ninS U45_12 (ninS U45_13 nin0))))
    have F400 := F388.keep K392
    have F401 := F389.keep K392
    have F402 := F390.keep K392
    have F403 := G379_7.keep K392 (ninS (Ne.symm ne62) (ninS U45_5 (ninS U45_7 (ninS U45_8 nin0))))
    have Z404 : n0 ≤ h392.size := Nat.le_trans Z391 K392.1
    show Own.Go p e below s n0 _ _ _ (T392.setTop (mkF m 106 _ []))
    clear F380 F381 F382 F383 F384 F385 F386 F387 F388 F389 F390 G379_0 G379_1 G379_2 G379_3 G379_4 G379_5 G379_6 G379_7 G379_8 G379_9 X379
    refine Own.aload X392 at_106 rfl rfl ?_
    refine Own.aload X392 at_108 rfl rfl ?_
    refine Own.iload X392 at_110 rfl ?_
    obtain ⟨d112, e_d112⟩ : ∃ v, FP.i2d v2 = v := ⟨_, rfl⟩
    obtain ⟨f_d112, z_d112⟩ := Own.i2d_v e_d112
    have n_d112 := f_d112.noNaN
    refine Own.i2d X392 at_112 e_d112 ?_
    refine Own.callV_ (y := mn_4) (z := mn_4) (a := pop) X392 at_113 (Own.wd hw 29 rfl) (Own.wd hw 30 rfl) (Own.wd hw 32 rfl) (Own.wd hw 31 rfl) rfl (Own.wd hw 12 rfl) (Own.wd hw 33 rfl) (by decide) F397 (rm5_20121 l Z a0 hw pop sa_42_9 d112 pl_81_45 oa_81_45 na_81_45 x0_81_45 x1_81_45 x2_81_45 k_pl_81_45 c_pl_81_45 k_oa_81_45 k_na_81_45 d92 d102 0 (0 : Int64) ((0 : Int64) + (1 : Int64)) (0 : Int64) (((0 : Int64) + (1 : Int64)) + (1 : Int64)) k_sa_42_9 (i3 >>> ((1 : Int32) &&& 31)) ((i3 >>> ((1 : Int32) &&& 31)) + (1073741824 : Int32)) (0 : Int32) (0 : Int32) h392 n0 Z404 F397 G392_0 G392_1 G392_2 G392_3 G392_4 G392_5 G392_6 F398 F399 G392_8 G392_9 F395 ne56 ne80 ne86 ne62 ne68 ne74 U45_3 U45_4 U45_0 U45_1 U45_2 U45_14 (Ne.symm U45_7) (Ne.symm U45_10) (Ne.symm U45_12) (Ne.symm U45_8) (Ne.symm U45_11) (Ne.symm U45_13) U45_5 U45_6 U45_9 ne30 ne54 ne78 ne84 ne60 ne66 ne72 fr32 fr63 fr69 fr75 fr81 fr87 n_d112 n_d92 n_d102 (by rw [z_d92, z_d112]; exact Own.U_lt.mpr (by omega)) (by rw [z_d102, z_d112]; exact Own.U_le.mpr (by omega))) (lenOf pd_17 rfl) rfl (argsL := [.ref sa_42_9, .double d112]) (rest := []) rfl (W := 0) (Nat.le_of_eq rfl) (by decide) (by decide) (by decide) (by decide) fun T405 h405 v405 X405 q405 => ?_
    obtain ⟨rfl, K405, G405_0, G405_1, G405_2, G405_3, G405_4, G405_5, G405_6, G405_7, G405_8, G405_9⟩ := q405
    have F406 := F393.keep K405 (ninS ne28 (ninS ne70 (ninS ne76 (ninS ne82 nin0))))
    have F407 := F394.keep K405 (ninS ne29 (ninS ne71 (ninS ne77 (ninS ne83 nin0))))
    have F408 := F395.keep K405 (ninS ne30 (ninS ne72 (ninS ne78 (ninS ne84 nin0))))
    have F409 := F396.keep K405 (ninS ne31 (ninS ne73 (ninS ne79 (ninS ne85 nin0))))
    have F410 := F397.keep K405
    have F411 := F398.keep K405 (ninS (Ne.symm ne56) (ninS U45_2 (ninS U45_3 (ninS U45_4 nin0))))
    have F412 := F400.keep K405
    have F413 := F401.keep K405
    have F414 := F402.keep K405
    have F415 := F403.keep K405 (ninS (Ne.symm ne62) (ninS U45_6 (ninS U45_7 (ninS U45_8 nin0))))
    have F416 := G392_7.keep K405 (ninS (Ne.symm ne68) (ninS U45_9 (ninS U45_10 (ninS U45_11 nin0))))
    have Z417 : n0 ≤ h405.size := Nat.le_trans Z404 K405.1
    show Own.Go p e below s n0 _ _ _ (T405.setTop (mkF m 116 _ []))
    clear F393 F394 F395 F396 F397 F398 F399 F400 F401 F402 F403 G392_0 G392_1 G392_2 G392_3 G392_4 G392_5 G392_6 G392_7 G392_8 G392_9 X392
    refine Own.iconst X405 (v := 0) at_116 rfl ?_
    refine Own.istore X405 at_117 (l' := #[.val (.int i0), .val (.int i1), .val (.int i2), .val (.int i3), .val (.int i4), .val (.int v0), .val (.int v1), .val (.int v2), .val (.ref sa_30_1), .val (.ref sa_36_4), .val (.ref sa_42_9), .val (.ref sa_49_16), .val (.int mn), .val (.double d72), .second, .val (.ref pop), .val (.int (0 : Int32)), .unset, .unset, .unset, .unset, .unset, .unset, .unset, .unset, .unset, .unset, .unset]) rfl ?_
    refine Own.iload X405 at_119 rfl ?_
    refine Own.istore X405 at_121 (l' := #[.val (.int i0), .val (.int i1), .val (.int i2), .val (.int i3), .val (.int i4), .val (.int v0), .val (.int v1), .val (.int v2), .val (.ref sa_30_1), .val (.ref sa_36_4), .val (.ref sa_42_9), .val (.ref sa_49_16), .val (.int mn), .val (.double d72), .second, .val (.ref pop), .val (.int (0 : Int32)), .val (.int v0), .unset, .unset, .unset, .unset, .unset, .unset, .unset, .unset, .unset, .unset]) rfl ?_
    refine Own.iload X405 at_123 rfl ?_
    refine Own.iload X405 at_125 rfl ?_
    refine Own.icmp_ X405 (pc' := 137) at_127 (by decide) (fun q => absurd (show v0.toInt ≤ v1.toInt from q) (show ¬ (v0.toInt ≤ v1.toInt) from by omega)) (fun _ => ?_)
    refine Own.iconst X405 (v := 1) at_130 rfl ?_
    refine Own.istore X405 at_131 (l' := #[.val (.int i0), .val (.int i1), .val (.int i2), .val (.int i3), .val (.int i4), .val (.int v0), .val (.int v1), .val (.int v2), .val (.ref sa_30_1), .val (.ref sa_36_4), .val (.ref sa_42_9), .val (.ref sa_49_16), .val (.int mn), .val (.double d72), .second, .val (.ref pop), .val (.int (1 : Int32)), .val (.int v0), .unset, .unset, .unset, .unset, .unset, .unset, .unset, .unset, .unset, .unset]) rfl ?_
    refine Own.iload X405 at_133 rfl ?_
    refine Own.istore X405 at_135 (l' := #[.val (.int i0), .val (.int i1), .val (.int i2), .val (.int i3), .val (.int i4), .val (.int v0), .val (.int v1), .val (.int v2), .val (.ref sa_30_1), .val (.ref sa_36_4), .val (.ref sa_42_9), .val (.ref sa_49_16), .val (.int mn), .val (.double d72), .second, .val (.ref pop), .val (.int (1 : Int32)), .val (.int v1), .unset, .unset, .unset, .unset, .unset, .unset, .unset, .unset, .unset, .unset]) rfl ?_
    refine Own.iload X405 at_137 rfl ?_
    refine Own.iload X405 at_139 rfl ?_
    refine Own.icmp_ X405 (pc' := 151) at_141 (by decide) (fun _ => ?_) (fun q => absurd (show v1.toInt ≤ v2.toInt from by omega) q)
    refine Own.iconst X405 (v := 0) at_151 rfl ?_
    refine Own.istore X405 at_152 (l' := #[.val (.int i0), .val (.int i1), .val (.int i2), .val (.int i3), .val (.int i4), .val (.int v0), .val (.int v1), .val (.int v2), .val (.ref sa_30_1), .val (.ref sa_36_4), .val (.ref sa_42_9), .val (.ref sa_49_16), .val (.int mn), .val (.double d72), .second, .val (.ref pop), .val (.int (1 : Int32)), .val (.int v1), .val (.int (0 : Int32)), .unset, .unset, .unset, .unset, .unset, .unset, .unset, .unset, .unset]) rfl ?_
    refine Own.iload X405 at_154 rfl ?_
    refine Own.istore X405 at_156 (l' := #[.val (.int i0), .val (.int i1), .val (.int i2), .val (.int i3), .val (.int i4), .val (.int v0), .val (.int v1), .val (.int v2), .val (.ref sa_30_1), .val (.ref sa_36_4), .val (.ref sa_42_9), .val (.ref sa_49_16), .val (.int mn), .val (.double d72), .second, .val (.ref pop), .val (.int (1 : Int32)), .val (.int v1), .val (.int (0 : Int32)), .val (.int v0), .unset, .unset, .unset, .unset, .unset, .unset, .unset, .unset]) rfl ?_
    refine Own.iload X405 at_158 rfl ?_
    refine Own.iload X405 at_160 rfl ?_
    refine Own.icmp_ X405 (pc' := 172) at_162 (by decide) (fun _ => ?_) (fun q => absurd (show v1.toInt ≤ v0.toInt from by omega) q)
    refine Own.iload X405 at_172 rfl ?_
    refine Own.iload X405 at_174 rfl ?_
    refine Own.icmp_ X405 (pc' := 186) at_176 (by decide) (fun q => absurd (show v2.toInt ≤ v0.toInt from q) (show ¬ (v2.toInt ≤ v0.toInt) from by omega)) (fun _ => ?_)
    refine Own.iconst X405 (v := 2) at_179 rfl ?_
    refine Own.istore X405 at_180 (l' := #[.val (.int i0), .val (.int i1), .val (.int i2), .val (.int i3), .val (.int i4), .val (.int v0), .val (.int v1), .val (.int v2), .val (.ref sa_30_1), .val (.ref sa_36_4), .val (.ref sa_42_9), .val (.ref sa_49_16), .val (.int mn), .val (.double d72), .second, .val (.ref pop), .val (.int (1 : Int32)), .val (.int v1), .val (.int (2 : Int32)), .val (.int v0), .unset, .unset, .unset, .unset, .unset, .unset, .unset, .unset]) rfl ?_
    refine Own.iload X405 at_182 rfl ?_
    refine Own.istore X405 at_184 (l' := #[.val (.int i0), .val (.int i1), .val (.int i2), .val (.int i3), .val (.int i4), .val (.int v0), .val (.int v1), .val (.int v2), .val (.ref sa_30_1), .val (.ref sa_36_4), .val (.ref sa_42_9), .val (.ref sa_49_16), .val (.int mn), .val (.double d72), .second, .val (.ref pop), .val (.int (1 : Int32)), .val (.int v1), .val (.int (2 : Int32)), .val (.int v2), .unset, .unset, .unset, .unset, .unset, .unset, .unset, .unset]) rfl ?_
    refine Own.iload X405 at_186 rfl ?_
    refine Own.iff_ X405 (pc' := 195) at_188 (by decide) (fun _ => ?_) (fun q => absurd (show ¬ ((1 : Int) = (0 : Int)) from by decide) q)
    refine Own.iload X405 at_195 rfl ?_
    refine Own.iconst X405 (v := 1) at_197 rfl ?_
    refine Own.icmp_ X405 (pc' := 205) at_198 (by decide) (fun q => absurd (show ¬ ((1 : Int) = (1 : Int)) from q) (show ¬ (¬ ((1 : Int) = (1 : Int))) from fun z => z (by decide))) (fun _ => ?_)
    refine Own.iloadN X405 at_201 rfl ?_
    refine Own.goto_ X405 (pc' := 206) at_202 (by decide) ?_
    refine Own.istore X405 at_206 (l' := #[.val (.int i0), .val (.int i1), .val (.int i2), .val (.int i3), .val (.int i4), .val (.int v0), .val (.int v1), .val (.int v2), .val (.ref sa_30_1), .val (.ref sa_36_4), .val (.ref sa_42_9), .val (.ref sa_49_16), .val (.int mn), .val (.double d72), .second, .val (.ref pop), .val (.int (1 : Int32)), .val (.int v1), .val (.int (2 : Int32)), .val (.int v2), .val (.int i2), .unset, .unset, .unset, .unset, .unset, .unset, .unset]) rfl ?_
    refine Own.aload X405 at_208 rfl rfl ?_
    refine Own.callV_ (y := mn_5) (z := mn_5) (a := pop) X405 at_210 (Own.wd hw 50 rfl) (Own.wd hw 51 rfl) (Own.wd hw 53 rfl) (Own.wd hw 52 rfl) rfl (Own.wd hw 12 rfl) (Own.wd hw 54 rfl) (by decide) F410 (rm7 l Z a0 hw pop (3 : Int32) h405 n0 Z417 G405_3 ) (lenOf pd_18 rfl) rfl (argsL := []) (rest := []) rfl (W := 0) (Nat.le_of_eq rfl) (by decide) (by decide) (by decide) (by decide) fun T418 h418 v418 X418 q418 => ?_
    obtain ⟨rfl, rfl⟩ := q418
    show Own.Go p e below s n0 _ _ _ (T418.setTop (mkF m 213 _ [.int (3 : Int32)]))
    clear X405
    refine Own.iconst X418 (v := 3) at_213 rfl ?_
    refine Own.icmp_ X418 (pc' := 221) at_214 (by decide) (fun q => absurd (show ¬ ((3 : Int) = (3 : Int)) from q) (show ¬ (¬ ((3 : Int) = (3 : Int))) from fun z => z (by decide))) (fun _ => ?_)
    refine Own.iconst X418 (v := 1) at_217 rfl ?_
    refine Own.goto_ X418 (pc' := 222) at_218 (by decide) ?_
    refine Own.istore X418 at_222 (l' := #[.val (.int i0), .val (.int i1), .val (.int i2), .val (.int i3), .val (.int i4), .val (.int v0), .val (.int v1), .val (.int v2), .val (.ref sa_30_1), .val (.ref sa_36_4), .val (.ref sa_42_9), .val (.ref sa_49_16), .val (.int mn), .val (.double d72), .second, .val (.ref pop), .val (.int (1 : Int32)), .val (.int v1), .val (.int (2 : Int32)), .val (.int v2), .val (.int i2), .val (.int (1 : Int32)), .unset, .unset, .unset, .unset, .unset, .unset]) rfl ?_
    refine Own.aload X418 at_224 rfl rfl ?_
    refine Own.callV_ (y := mn_6) (z := mn_6) (a := pop) X418 at_226 (Own.wd hw 55 rfl) (Own.wd hw 56 rfl) (Own.wd hw 58 rfl) (Own.wd hw 57 rfl) rfl (Own.wd hw 12 rfl) (Own.wd hw 59 rfl) (by decide) F410 (rm8_1 l Z a0 hw pop oa_81_45 k_oa_81_45 d92 d102 d112 h405 n0 Z417 G405_1 G405_6 G405_8 ) (lenOf pd_19 rfl) rfl (argsL := []) (rest := []) rfl (W := 0) (Nat.le_of_eq rfl) (by decide) (by decide) (by decide) (by decide) fun T419 h419 v419 X419 q419 => ?_
    obtain ⟨rfl, rfl⟩ := q419
    show Own.Go p e below s n0 _ _ _ (T419.setTop (mkF m 229 _ [.double d102]))
    clear X418
    refine Own.iload X419 at_229 rfl ?_
    obtain ⟨d231, e_d231⟩ : ∃ v, FP.i2d v1 = v := ⟨_, rfl⟩
    obtain ⟨f_d231, z_d231⟩ := Own.i2d_v e_d231
    have n_d231 := f_d231.noNaN
    refine Own.i2d X419 at_231 e_d231 ?_
    refine Own.dcmpF X419 (pc' := 240) at_232 at_233 (by decide) n_d102 n_d231 (fun q => absurd (show ¬ (Own.dz d102 = Own.dz d231) from q) (show ¬ (¬ (Own.dz d102 = Own.dz d231)) from fun z => z (by rw [z_d102, z_d231]))) (fun _ => ?_)
    refine Own.iconst X419 (v := 1) at_236 rfl ?_
    refine Own.goto_ X419 (pc' := 241) at_237 (by decide) ?_
    refine Own.istore X419 at_241 (l' := #[.val (.int i0), .val (.int i1), .val (.int i2), .val (.int i3), .val (.int i4), .val (.int v0), .val (.int v1), .val (.int v2), .val (.ref sa_30_1), .val (.ref sa_36_4), .val (.ref sa_42_9), .val (.ref sa_49_16), .val (.int mn), .val (.double d72), .second, .val (.ref pop), .val (.int (1 : Int32)), .val (.int v1), .val (.int (2 : Int32)), .val (.int v2), .val (.int i2), .val (.int (1 : Int32)), .val (.int (1 : Int32)), .unset, .unset, .unset, .unset, .unset]) rfl ?_
    refine Own.aload X419 at_243 rfl rfl ?_
    refine Own.callV_ (y := mn_7) (z := mn_7) (a := pop) X419 at_245 (Own.wd hw 60 rfl) (Own.wd hw 61 rfl) (Own.wd hw 63 rfl) (Own.wd hw 62 rfl) rfl (Own.wd hw 12 rfl) (Own.wd hw 64 rfl) (by decide) F410 (rm9_1 l Z a0 hw pop pl_81_45 x0_81_45 x1_81_45 x2_81_45 k_pl_81_45 c_pl_81_45 (i2 >>> ((1 : Int32) &&& 31)) ((i2 >>> ((1 : Int32) &&& 31)) + (1073741824 : Int32)) h405 n0 Z417 G405_0 G405_6 F411 F416 F413 ) (lenOf pd_20 rfl) rfl (argsL := []) (rest := []) rfl (W := 0) (Nat.le_of_eq rfl) (by decide) (by decide) (by decide) (by decide) fun T420 h420 v420 X420 q420 => ?_
    obtain ⟨cl_245_420, rfl, K420, B420_0, G420_0⟩ := q420
    have F421 := F406.keep K420 nin0
    have F422 := F407.keep K420 nin0
    have F423 := F408.keep K420 nin0
    have F424 := F409.keep K420 nin0
    have F425 := F410.keep K420
    have F426 := F411.keep K420 nin0
    have F427 := F412.keep K420
    have F428 := F413.keep K420
    have F429 := F414.keep K420
    have F430 := F415.keep K420 nin0
    have F431 := F416.keep K420 nin0
    have F432 := G405_0.keep K420 nin0
    have F433 := G405_1.keep K420 nin0
    have F434 := G405_2.keep K420 nin0
    have F435 := G405_3.keep K420 nin0
    have F436 := G405_4.keep K420 nin0
    have F437 := G405_5.keep K420 nin0
    have F438 := G405_6.keep K420 nin0
    have F439 := G405_7.keep K420 nin0
    have F440 := G405_8.keep K420 nin0
    have F441 := G405_9.keep K420 nin0
    have Z442 : n0 ≤ h420.size := Nat.le_trans Z417 K420.1
    have ne443 : sa_30_1 ≠ cl_245_420 := Nat.ne_of_lt (Nat.lt_of_lt_of_le F406.lt B420_0)
    have ne444 : sa_36_4 ≠ cl_245_420 := Nat.ne_of_lt (Nat.lt_of_lt_of_le F407.lt B420_0)
    have ne445 : sa_42_9 ≠ cl_245_420 := Nat.ne_of_lt (Nat.lt_of_lt_of_le F408.lt B420_0)
    have ne446 : sa_49_16 ≠ cl_245_420 := Nat.ne_of_lt (Nat.lt_of_lt_of_le F409.lt B420_0)
    have ne447 : pop ≠ cl_245_420 := Nat.ne_of_lt (Nat.lt_of_lt_of_le F410.lt B420_0)
    have ne448 : pl_81_45 ≠ cl_245_420 := Nat.ne_of_lt (Nat.lt_of_lt_of_le F411.lt B420_0)
    have ne449 : x0_81_45 ≠ cl_245_420 := Nat.ne_of_lt (Nat.lt_of_lt_of_le F412.lt B420_0)
    have ne450 : x1_81_45 ≠ cl_245_420 := Nat.ne_of_lt (Nat.lt_of_lt_of_le F413.lt B420_0)
    have ne451 : x2_81_45 ≠ cl_245_420 := Nat.ne_of_lt (Nat.lt_of_lt_of_le F414.lt B420_0)
    have ne452 : oa_81_45 ≠ cl_245_420 := Nat.ne_of_lt (Nat.lt_of_lt_of_le G405_8.lt B420_0)
    have ne453 : na_81_45 ≠ cl_245_420 := Nat.ne_of_lt (Nat.lt_of_lt_of_le G405_9.lt B420_0)
    have fr454 : n0 ≤ cl_245_420 := Nat.le_trans Z417 B420_0
    show Own.Go p e below s n0 _ _ _ (T420.setTop (mkF m 248 _ [.ref cl_245_420]))
    clear F406 F407 F408 F409 F410 F411 F412 F413 F414 F415 F416 G405_0 G405_1 G405_2 G405_3 G405_4 G405_5 G405_6 G405_7 G405_8 G405_9 X419
    refine Own.iload X420 at_248 rfl ?_
    refine Own.callS_ (y := mn_13) X420 at_250 (Own.wd hw 74 rfl) (Own.wd hw 75 rfl) (Own.wd hw 2 rfl) (Own.wd hw 76 rfl) (by decide) (rm10 l Z a0 hw cl_245_420 i2 c_pl_81_45 (i2 >>> ((1 : Int32) &&& 31)) ((i2 >>> ((1 : Int32) &&& 31)) + (1073741824 : Int32)) h420 n0 Z442 G420_0 rfl rfl) (lenOf pd_21 rfl) rfl (argsL := [.ref cl_245_420, .int i2]) (rest := []) rfl (W := 0) (Nat.le_of_eq rfl) (by decide) (by decide) (by decide) (by decide) fun T455 h455 v455 X455 q455 => ?_
    obtain ⟨rfl, rfl⟩ := q455
    show Own.Go p e below s n0 _ _ _ (T455.setTop (mkF m 253 _ [.int (1 : Int32)]))
    clear X420
    refine Own.istore X455 at_253 (l' := #[.val (.int i0), .val (.int i1), .val (.int i2), .val (.int i3), .val (.int i4), .val (.int v0), .val (.int v1), .val (.int v2), .val (.ref sa_30_1), .val (.ref sa_36_4), .val (.ref sa_42_9), .val (.ref sa_49_16), .val (.int mn), .val (.double d72), .second, .val (.ref pop), .val (.int (1 : Int32)), .val (.int v1), .val (.int (2 : Int32)), .val (.int v2), .val (.int i2), .val (.int (1 : Int32)), .val (.int (1 : Int32)), .val (.int (1 : Int32)), .unset, .unset, .unset, .unset]) rfl ?_
    refine Own.aload X455 at_255 rfl rfl ?_
    refine Own.aload X455 at_257 rfl rfl ?_
    refine Own.dload X455 at_259 rfl ?_
    refine Own.callV_ (y := mn_11) (z := mn_11) (a := pop) X455 at_261 (Own.wd hw 77 rfl) (Own.wd hw 78 rfl) (Own.wd hw 80 rfl) (Own.wd hw 79 rfl) rfl (Own.wd hw 12 rfl) (Own.wd hw 81 rfl) (by decide) F425 (rm11_2N l Z a0 hw pop sa_49_16 d72 pl_81_45 oa_81_45 na_81_45 x0_81_45 x1_81_45 x2_81_45 k_pl_81_45 c_pl_81_45 k_oa_81_45 k_na_81_45 d92 d102 d112 (0 : Int64) ((0 : Int64) + (1 : Int64)) (((0 : Int64) + (1 : Int64)) + (1 : Int64)) ((((0 : Int64) + (1 : Int64)) + (1 : Int64)) + (1 : Int64)) k_sa_49_16 (i4 >>> ((1 : Int32) &&& 31)) ((i4 >>> ((1 : Int32) &&& 31)) + (1073741824 : Int32)) (1 : Int32) (i3 >>> ((1 : Int32) &&& 31)) ((i3 >>> ((1 : Int32) &&& 31)) + (1073741824 : Int32)) h420 n0 Z442 F425 F432 F433 F434 F435 F436 F437 F438 F426 F439 F440 F441 F424 ne56 ne80 ne86 ne62 ne68 ne74 U45_3 U45_4 U45_0 U45_1 U45_2 U45_14 (Ne.symm U45_7) (Ne.symm U45_10) (Ne.symm U45_12) (Ne.symm U45_8) (Ne.symm U45_11) (Ne.symm U45_13) U45_5 U45_6 U45_9 ne31 ne55 ne79 ne85 ne61 ne67 ne73 fr32 fr63 fr69 fr75 fr81 fr87 n_d72 n_d92 n_d102 n_d112 (by rw [z_d72, z_d92]; exact Own.U_lt.mpr (by omega)) (by rw [z_d72, z_d102]; exact Own.U_lt.mpr (by omega)) (by rw [z_d72, z_d112]; exact Own.U_lt.mpr (by omega)) d102 (by decide) rfl n_d102 (by rw [z_d72, z_d102]; exact Own.U_lt.mpr (by omega))) (lenOf pd_10 rfl) rfl (argsL := [.ref sa_49_16, .double d72]) (rest := []) rfl (W := 0) (Nat.le_of_eq rfl) (by decide) (by decide) (by decide) (by decide) fun T456 h456 v456 X456 q456 => ?_
    obtain ⟨rfl, K456, G456_0, G456_1, G456_2⟩ := q456
    have F457 := F421.keep K456 (ninS ne28 (ninS ne70 (ninS ne76 (ninS ne82 nin0))))
    have F458 := F422.keep K456 (ninS ne29 (ninS ne71 (ninS ne77 (ninS ne83 nin0))))
    have F459 := F423.keep K456 (ninS ne30 (ninS ne72 (ninS ne78 (ninS ne84 nin0))))
    have F460 := F424.keep K456 (ninS ne31 (ninS ne73 (ninS ne79 (ninS ne85 nin0))))
    have F461 := F425.keep K456
    have F462 := F426.keep K456 (ninS (Ne.symm ne56) (ninS U45_2 (ninS U45_3 (ninS U45_4 nin0))))
    have F463 := F427.keep K456
    have F464 := F428.keep K456
    have F465 := F429.keep K456
    have F466 := F430.keep K456 (ninS (Ne.symm ne62) (ninS U45_6 (ninS U45_7 (ninS U45_8 nin0))))
    have F467 := F431.keep K456 (ninS (Ne.symm ne68) (ninS U45_9 (ninS U45_10 (ninS U45_11 nin0))))
    have F468 := G420_0.keep K456 (ninS (Ne.symm ne447) (ninS (Ne.symm ne451) (ninS (Ne.symm ne452) (ninS (Ne.symm ne453) nin0))))
    have Z469 : n0 ≤ h456.size := Nat.le_trans Z442 K456.1
    show Own.Go p e below s n0 _ _ _ (T456.setTop (mkF m 264 _ [.int (1 : Int32)]))
    clear F421 F422 F423 F424 F425 F426 F427 F428 F429 F430 F431 F432 F433 F434 F435 F436 F437 F438 F439 F440 F441 G420_0 X455
    refine Own.istore X456 at_264 (l' := #[.val (.int i0), .val (.int i1), .val (.int i2), .val (.int i3), .val (.int i4), .val (.int v0), .val (.int v1), .val (.int v2), .val (.ref sa_30_1), .val (.ref sa_36_4), .val (.ref sa_42_9), .val (.ref sa_49_16), .val (.int mn), .val (.double d72), .second, .val (.ref pop), .val (.int (1 : Int32)), .val (.int v1), .val (.int (2 : Int32)), .val (.int v2), .val (.int i2), .val (.int (1 : Int32)), .val (.int (1 : Int32)), .val (.int (1 : Int32)), .val (.int (1 : Int32)), .unset, .unset, .unset]) rfl ?_
    refine Own.aload X456 at_266 rfl rfl ?_
    refine Own.iconst X456 (v := 0) at_268 rfl ?_
    refine Own.callV_ (y := mn_8) (z := mn_8) (a := pop) X456 at_269 (Own.wd hw 86 rfl) (Own.wd hw 87 rfl) (Own.wd hw 89 rfl) (Own.wd hw 88 rfl) rfl (Own.wd hw 12 rfl) (Own.wd hw 90 rfl) (by decide) F461 (rm13_0 l Z a0 hw pop pl_81_45 x0_81_45 x1_81_45 x2_81_45 k_pl_81_45 h456 n0 Z469 G456_0 F462 ) (lenOf pd_14 rfl) rfl (argsL := [.int (0 : Int32)]) (rest := []) rfl (W := 0) (Nat.le_of_eq rfl) (by decide) (by decide) (by decide) (by decide) fun T470 h470 v470 X470 q470 => ?_
    obtain ⟨rfl, rfl⟩ := q470
    show Own.Go p e below s n0 _ _ _ (T470.setTop (mkF m 272 _ [.ref x0_81_45]))
    clear X456
    refine Own.iload X470 at_272 rfl ?_
    refine Own.iff_ X470 (pc' := 282) at_274 (by decide) (fun _ => ?_) (fun q => absurd (show ¬ ((2 : Int) = (0 : Int)) from by decide) q)
    refine Own.iloadN X470 at_282 rfl ?_
    refine Own.callS_ (y := mn_13) X470 at_283 (Own.wd hw 74 rfl) (Own.wd hw 75 rfl) (Own.wd hw 2 rfl) (Own.wd hw 76 rfl) (by decide) (rm10 l Z a0 hw x0_81_45 i1 c_pl_81_45 (i1 >>> ((1 : Int32) &&& 31)) ((i1 >>> ((1 : Int32) &&& 31)) + (1073741824 : Int32)) h456 n0 Z469 F466 rfl rfl) (lenOf pd_21 rfl) rfl (argsL := [.ref x0_81_45, .int i1]) (rest := []) rfl (W := 0) (Nat.le_of_eq rfl) (by decide) (by decide) (by decide) (by decide) fun T471 h471 v471 X471 q471 => ?_
    obtain ⟨rfl, rfl⟩ := q471
    show Own.Go p e below s n0 _ _ _ (T471.setTop (mkF m 286 _ [.int (1 : Int32)]))
    clear X470
    refine Own.istore X471 at_286 (l' := #[.val (.int i0), .val (.int i1), .val (.int i2), .val (.int i3), .val (.int i4), .val (.int v0), .val (.int v1), .val (.int v2), .val (.ref sa_30_1), .val (.ref sa_36_4), .val (.ref sa_42_9), .val (.ref sa_49_16), .val (.int mn), .val (.double d72), .second, .val (.ref pop), .val (.int (1 : Int32)), .val (.int v1), .val (.int (2 : Int32)), .val (.int v2), .val (.int i2), .val (.int (1 : Int32)), .val (.int (1 : Int32)), .val (.int (1 : Int32)), .val (.int (1 : Int32)), .val (.int (1 : Int32)), .unset, .unset]) rfl ?_
    refine Own.aload X471 at_288 rfl rfl ?_
    refine Own.iconst X471 (v := 1) at_290 rfl ?_
    refine Own.callV_ (y := mn_8) (z := mn_8) (a := pop) X471 at_291 (Own.wd hw 86 rfl) (Own.wd hw 87 rfl) (Own.wd hw 89 rfl) (Own.wd hw 88 rfl) rfl (Own.wd hw 12 rfl) (Own.wd hw 90 rfl) (by decide) F461 (rm13_1 l Z a0 hw pop pl_81_45 x0_81_45 x1_81_45 x2_81_45 k_pl_81_45 h456 n0 Z469 G456_0 F462 ) (lenOf pd_14 rfl) rfl (argsL := [.int (1 : Int32)]) (rest := []) rfl (W := 0) (Nat.le_of_eq rfl) (by decide) (by decide) (by decide) (by decide) fun T472 h472 v472 X472 q472 => ?_
    obtain ⟨rfl, rfl⟩ := q472
    show Own.Go p e below s n0 _ _ _ (T472.setTop (mkF m 294 _ [.ref x1_81_45]))
    clear X471
    refine Own.iload X472 at_294 rfl ?_
    refine Own.iconst X472 (v := 1) at_296 rfl ?_
    refine Own.icmp_ X472 (pc' := 305) at_297 (by decide) (fun _ => ?_) (fun q => absurd (show ¬ ((2 : Int) = (1 : Int)) from by decide) q)
    refine Own.iloadN X472 at_305 rfl ?_
    refine Own.callS_ (y := mn_13) X472 at_306 (Own.wd hw 74 rfl) (Own.wd hw 75 rfl) (Own.wd hw 2 rfl) (Own.wd hw 76 rfl) (by decide) (rm10 l Z a0 hw x1_81_45 i2 c_pl_81_45 (i2 >>> ((1 : Int32) &&& 31)) ((i2 >>> ((1 : Int32) &&& 31)) + (1073741824 : Int32)) h456 n0 Z469 F467 rfl rfl) (lenOf pd_21 rfl) rfl (argsL := [.ref x1_81_45, .int i2]) (rest := []) rfl (W := 0) (Nat.le_of_eq rfl) (by decide) (by decide) (by decide) (by decide) fun T473 h473 v473 X473 q473 => ?_
    obtain ⟨rfl, rfl⟩ := q473
    show Own.Go p e below s n0 _ _ _ (T473.setTop (mkF m 309 _ [.int (1 : Int32)]))
    clear X472
    refine Own.istore X473 at_309 (l' := #[.val (.int i0), .val (.int i1), .val (.int i2), .val (.int i3), .val (.int i4), .val (.int v0), .val (.int v1), .val (.int v2), .val (.ref sa_30_1), .val (.ref sa_36_4), .val (.ref sa_42_9), .val (.ref sa_49_16), .val (.int mn), .val (.double d72), .second, .val (.ref pop), .val (.int (1 : Int32)), .val (.int v1), .val (.int (2 : Int32)), .val (.int v2), .val (.int i2), .val (.int (1 : Int32)), .val (.int (1 : Int32)), .val (.int (1 : Int32)), .val (.int (1 : Int32)), .val (.int (1 : Int32)), .val (.int (1 : Int32)), .unset]) rfl ?_
    refine Own.aload X473 at_311 rfl rfl ?_
    refine Own.iconst X473 (v := 2) at_313 rfl ?_
    refine Own.callV_ (y := mn_8) (z := mn_8) (a := pop) X473 at_314 (Own.wd hw 86 rfl) (Own.wd hw 87 rfl) (Own.wd hw 89 rfl) (Own.wd hw 88 rfl) rfl (Own.wd hw 12 rfl) (Own.wd hw 90 rfl) (by decide) F461 (rm13_2 l Z a0 hw pop pl_81_45 x0_81_45 x1_81_45 x2_81_45 k_pl_81_45 h456 n0 Z469 G456_0 F462 ) (lenOf pd_14 rfl) rfl (argsL := [.int (2 : Int32)]) (rest := []) rfl (W := 0) (Nat.le_of_eq rfl) (by decide) (by decide) (by decide) (by decide) fun T474 h474 v474 X474 q474 => ?_
    obtain ⟨rfl, rfl⟩ := q474
    show Own.Go p e below s n0 _ _ _ (T474.setTop (mkF m 317 _ [.ref x2_81_45]))
    clear X473
    refine Own.iload X474 at_317 rfl ?_
    refine Own.iconst X474 (v := 2) at_319 rfl ?_
    refine Own.icmp_ X474 (pc' := 328) at_320 (by decide) (fun q => absurd (show ¬ ((2 : Int) = (2 : Int)) from q) (show ¬ (¬ ((2 : Int) = (2 : Int))) from fun z => z (by decide))) (fun _ => ?_)
    refine Own.iload X474 at_323 rfl ?_
    refine Own.goto_ X474 (pc' := 329) at_325 (by decide) ?_
    refine Own.callS_ (y := mn_13) X474 at_329 (Own.wd hw 74 rfl) (Own.wd hw 75 rfl) (Own.wd hw 2 rfl) (Own.wd hw 76 rfl) (by decide) (rm10 l Z a0 hw x2_81_45 i4 c_pl_81_45 (i4 >>> ((1 : Int32) &&& 31)) ((i4 >>> ((1 : Int32) &&& 31)) + (1073741824 : Int32)) h456 n0 Z469 G456_2 rfl rfl) (lenOf pd_21 rfl) rfl (argsL := [.ref x2_81_45, .int i4]) (rest := []) rfl (W := 0) (Nat.le_of_eq rfl) (by decide) (by decide) (by decide) (by decide) fun T475 h475 v475 X475 q475 => ?_
    obtain ⟨rfl, rfl⟩ := q475
    show Own.Go p e below s n0 _ _ _ (T475.setTop (mkF m 332 _ [.int (1 : Int32)]))
    clear X474
    refine Own.istore X475 at_332 (l' := #[.val (.int i0), .val (.int i1), .val (.int i2), .val (.int i3), .val (.int i4), .val (.int v0), .val (.int v1), .val (.int v2), .val (.ref sa_30_1), .val (.ref sa_36_4), .val (.ref sa_42_9), .val (.ref sa_49_16), .val (.int mn), .val (.double d72), .second, .val (.ref pop), .val (.int (1 : Int32)), .val (.int v1), .val (.int (2 : Int32)), .val (.int v2), .val (.int i2), .val (.int (1 : Int32)), .val (.int (1 : Int32)), .val (.int (1 : Int32)), .val (.int (1 : Int32)), .val (.int (1 : Int32)), .val (.int (1 : Int32)), .val (.int (1 : Int32))]) rfl ?_
    refine Own.iload X475 at_334 rfl ?_
    refine Own.iff_ X475 (pc' := 373) at_336 (by decide) (fun q => absurd (show (1 : Int) = (0 : Int) from q) (show ¬ ((1 : Int) = (0 : Int)) from by decide)) (fun _ => ?_)
    refine Own.iload X475 at_339 rfl ?_
    refine Own.iff_ X475 (pc' := 373) at_341 (by decide) (fun q => absurd (show (1 : Int) = (0 : Int) from q) (show ¬ ((1 : Int) = (0 : Int)) from by decide)) (fun _ => ?_)
    refine Own.iload X475 at_344 rfl ?_
    refine Own.iff_ X475 (pc' := 373) at_346 (by decide) (fun q => absurd (show (1 : Int) = (0 : Int) from q) (show ¬ ((1 : Int) = (0 : Int)) from by decide)) (fun _ => ?_)
    refine Own.iload X475 at_349 rfl ?_
    refine Own.iff_ X475 (pc' := 373) at_351 (by decide) (fun q => absurd (show (1 : Int) = (0 : Int) from q) (show ¬ ((1 : Int) = (0 : Int)) from by decide)) (fun _ => ?_)
    refine Own.iload X475 at_354 rfl ?_
    refine Own.iff_ X475 (pc' := 373) at_356 (by decide) (fun q => absurd (show (1 : Int) = (0 : Int) from q) (show ¬ ((1 : Int) = (0 : Int)) from by decide)) (fun _ => ?_)
    refine Own.iload X475 at_359 rfl ?_
    refine Own.iff_ X475 (pc' := 373) at_361 (by decide) (fun q => absurd (show (1 : Int) = (0 : Int) from q) (show ¬ ((1 : Int) = (0 : Int)) from by decide)) (fun _ => ?_)
    refine Own.iload X475 at_364 rfl ?_
    refine Own.iff_ X475 (pc' := 373) at_366 (by decide) (fun q => absurd (show (1 : Int) = (0 : Int) from q) (show ¬ ((1 : Int) = (0 : Int)) from by decide)) (fun _ => ?_)
    refine Own.iconst X475 (v := 1) at_369 rfl ?_
    refine Own.goto_ X475 (pc' := 374) at_370 (by decide) ?_
    exact Own.retB X475 at_374 (by decide) rfl (by decide) (by decide)
  · refine Own.aload X45 at_86 rfl rfl ?_
    refine Own.aload X45 at_88 rfl rfl ?_
    refine Own.iload X45 at_90 rfl ?_
    obtain ⟨d92, e_d92⟩ : ∃ v, FP.i2d v0 = v := ⟨_, rfl⟩
    obtain ⟨f_d92, z_d92⟩ := Own.i2d_v e_d92
    have n_d92 := f_d92.noNaN
    refine Own.i2d X45 at_92 e_d92 ?_
    refine Own.callV_ (y := mn_4) (z := mn_4) (a := pop) X45 at_93 (Own.wd hw 29 rfl) (Own.wd hw 30 rfl) (Own.wd hw 32 rfl) (Own.wd hw 31 rfl) rfl (Own.wd hw 12 rfl) (Own.wd hw 33 rfl) (by decide) F50 (rm5_00000 l Z a0 hw pop sa_30_1 d92 pl_81_45 oa_81_45 na_81_45 x0_81_45 x1_81_45 x2_81_45 k_pl_81_45 c_pl_81_45 k_oa_81_45 k_na_81_45 0 0 0 (0 : Int64) (0 : Int64) (0 : Int64) (0 : Int64) k_sa_30_1 (i1 >>> ((1 : Int32) &&& 31)) ((i1 >>> ((1 : Int32) &&& 31)) + (1073741824 : Int32)) (0 : Int32) (0 : Int32) h45 n0 Z51 F50 G45_0 G45_1 G45_2 G45_3 G45_4 G45_5 G45_6 G45_7 G45_8 G45_11 G45_12 F46 ne56 ne80 ne86 ne62 ne68 ne74 U45_3 U45_4 U45_0 U45_1 U45_2 U45_14 (Ne.symm U45_7) (Ne.symm U45_10) (Ne.symm U45_12) (Ne.symm U45_8) (Ne.symm U45_11) (Ne.symm U45_13) U45_5 U45_6 U45_9 ne28 ne52 ne76 ne82 ne58 ne64 ne70 fr32 fr63 fr69 fr75 fr81 fr87 n_d92 ) (lenOf pd_17 rfl) rfl (argsL := [.ref sa_30_1, .double d92]) (rest := []) rfl (W := 0) (Nat.le_of_eq rfl) (by decide) (by decide) (by decide) (by decide) fun T476 h476 v476 X476 q476 => ?_
    obtain ⟨rfl, K476, G476_0, G476_1, G476_2, G476_3, G476_4, G476_5, G476_6, G476_7, G476_8, G476_9⟩ := q476
    have F477 := F46.keep K476 (ninS ne28 (ninS ne58 (ninS ne76 (ninS ne82 nin0))))
    have F478 := F47.keep K476 (ninS ne29 (ninS ne59 (ninS ne77 (ninS ne83 nin0))))
    have F479 := F48.keep K476 (ninS ne30 (ninS ne60 (ninS ne78 (ninS ne84 nin0))))
    have F480 := F49.keep K476 (ninS ne31 (ninS ne61 (ninS ne79 (ninS ne85 nin0))))
    have F481 := F50.keep K476
    have F482 := G45_7.keep K476 (ninS (Ne.symm ne56) (ninS U45_0 (ninS U45_3 (ninS U45_4 nin0))))
    have F483 := G45_9.keep K476 (ninS (Ne.symm ne68) (ninS (Ne.symm U45_5) (ninS U45_10 (ninS U45_11 nin0))))
    have F484 := G45_10.keep K476 (ninS (Ne.symm ne74) (ninS (Ne.symm U45_6) (ninS U45_12 (ninS U45_13 nin0))))
    have F485 := G45_13.keep K476
    have F486 := G45_14.keep K476
    have F487 := G45_15.keep K476
    have Z488 : n0 ≤ h476.size := Nat.le_trans Z51 K476.1
    show Own.Go p e below s n0 _ _ _ (T476.setTop (mkF m 96 _ []))
    clear F46 F47 F48 F49 F50 G45_0 G45_1 G45_10 G45_11 G45_12 G45_13 G45_14 G45_15 G45_2 G45_3 G45_4 G45_5 G45_6 G45_7 G45_8 G45_9 X45
    refine Own.aload X476 at_96 rfl rfl ?_
    refine Own.aload X476 at_98 rfl rfl ?_
    refine Own.iload X476 at_100 rfl ?_
    obtain ⟨d102, e_d102⟩ : ∃ v, FP.i2d v1 = v := ⟨_, rfl⟩
    obtain ⟨f_d102, z_d102⟩ := Own.i2d_v e_d102
    have n_d102 := f_d102.noNaN
    refine Own.i2d X476 at_102 e_d102 ?_
    refine Own.callV_ (y := mn_4) (z := mn_4) (a := pop) X476 at_103 (Own.wd hw 29 rfl) (Own.wd hw 30 rfl) (Own.wd hw 32 rfl) (Own.wd hw 31 rfl) rfl (Own.wd hw 12 rfl) (Own.wd hw 33 rfl) (by decide) F481 (rm5_10001 l Z a0 hw pop sa_36_4 d102 pl_81_45 oa_81_45 na_81_45 x0_81_45 x1_81_45 x2_81_45 k_pl_81_45 c_pl_81_45 k_oa_81_45 k_na_81_45 d92 0 0 (0 : Int64) (0 : Int64) (0 : Int64) ((0 : Int64) + (1 : Int64)) k_sa_36_4 (i2 >>> ((1 : Int32) &&& 31)) ((i2 >>> ((1 : Int32) &&& 31)) + (1073741824 : Int32)) (0 : Int32) (0 : Int32) h476 n0 Z488 F481 G476_0 G476_1 G476_2 G476_3 G476_4 G476_5 G476_6 F482 F483 G476_8 G476_9 F478 ne56 ne80 ne86 ne62 ne68 ne74 U45_3 U45_4 U45_0 U45_1 U45_2 U45_14 (Ne.symm U45_7) (Ne.symm U45_10) (Ne.symm U45_12) (Ne.symm U45_8) (Ne.symm U45_11) (Ne.symm U45_13) U45_5 U45_6 U45_9 ne29 ne53 ne77 ne83 ne59 ne65 ne71 fr32 fr63 fr69 fr75 fr81 fr87 n_d102 n_d92 (by rw [z_d102, z_d92]; exact Own.U_le.mpr (by omega)) (by rw [z_d102, z_d92]; exact Own.U_lt.mpr (by omega))) (lenOf pd_17 rfl) rfl (argsL := [.ref sa_36_4, .double d102]) (rest := []) rfl (W := 0) (Nat.le_of_eq rfl) (by decide) (by decide) (by decide) (by decide) fun T489 h489 v489 X489 q489 => ?_
    obtain ⟨rfl, K489, G489_0, G489_1, G489_2, G489_3, G489_4, G489_5, G489_6, G489_7, G489_8, G489_9⟩ := q489
    have F490 := F477.keep K489 (ninS ne28 (ninS ne64 (ninS ne76 (ninS ne82 nin0))))
    have F491 := F478.keep K489 (ninS ne29 (ninS ne65 (ninS ne77 (ninS ne83 nin0))))
    have F492 := F479.keep K489 (ninS ne30 (ninS ne66 (ninS ne78 (ninS ne84 nin0))))
    have F493 := F480.keep K489 (ninS ne31 (ninS ne67 (ninS ne79 (ninS ne85 nin0))))
    have F494 := F481.keep K489
    have F495 := F482.keep K489 (ninS (Ne.symm ne56) (ninS U45_1 (ninS U45_3 (ninS U45_4 nin0))))
    have F496 := F484.keep K489 (ninS (Ne.symm ne74) (ninS (Ne.symm U45_9) (ninS U45_12 (ninS U45_13 nin0))))
    have F497 := F485.keep K489
    have F498 := F486.keep K489
    have F499 := F487.keep K489
    have F500 := G476_7.keep K489 (ninS (Ne.symm ne62) (ninS U45_5 (ninS U45_7 (ninS U45_8 nin0))))
    have Z501 : n0 ≤ h489.size := Nat.le_trans Z488 K489.1
    show Own.Go p e below s n0 _ _ _ (T489.setTop (mkF m 106 _ []))
    clear F477 F478 F479 F480 F481 F482 F483 F484 F485 F486 F487 G476_0 G476_1 G476_2 G476_3 G476_4 G476_5 G476_6 G476_7 G476_8 G476_9 X476
    refine Own.aload X489 at_106 rfl rfl ?_
    refine Own.aload X489 at_108 rfl rfl ?_
    refine Own.iload X489 at_110 rfl ?_
    obtain ⟨d112, e_d112⟩ : ∃ v, FP.i2d v2 = v := ⟨_, rfl⟩
    obtain ⟨f_d112, z_d112⟩ := Own.i2d_v e_d112
    have n_d112 := f_d112.noNaN
    refine Own.i2d X489 at_112 e_d112 ?_
    refine Own.callV_ (y := mn_4) (z := mn_4) (a := pop) X489 at_113 (Own.wd hw 29 rfl) (Own.wd hw 30 rfl) (Own.wd hw 32 rfl) (Own.wd hw 31 rfl) rfl (Own.wd hw 12 rfl) (Own.wd hw 33 rfl) (by decide) F494 (rm5_20102 l Z a0 hw pop sa_42_9 d112 pl_81_45 oa_81_45 na_81_45 x0_81_45 x1_81_45 x2_81_45 k_pl_81_45 c_pl_81_45 k_oa_81_45 k_na_81_45 d92 d102 0 (0 : Int64) ((0 : Int64) + (1 : Int64)) (0 : Int64) (((0 : Int64) + (1 : Int64)) + (1 : Int64)) k_sa_42_9 (i3 >>> ((1 : Int32) &&& 31)) ((i3 >>> ((1 : Int32) &&& 31)) + (1073741824 : Int32)) (0 : Int32) (0 : Int32) h489 n0 Z501 F494 G489_0 G489_1 G489_2 G489_3 G489_4 G489_5 G489_6 F495 F496 G489_8 G489_9 F492 ne56 ne80 ne86 ne62 ne68 ne74 U45_3 U45_4 U45_0 U45_1 U45_2 U45_14 (Ne.symm U45_7) (Ne.symm U45_10) (Ne.symm U45_12) (Ne.symm U45_8) (Ne.symm U45_11) (Ne.symm U45_13) U45_5 U45_6 U45_9 ne30 ne54 ne78 ne84 ne60 ne66 ne72 fr32 fr63 fr69 fr75 fr81 fr87 n_d112 n_d92 n_d102 (by rw [z_d112, z_d92]; exact Own.U_le.mpr (by omega)) (by rw [z_d112, z_d102]; exact Own.U_lt.mpr (by omega))) (lenOf pd_17 rfl) rfl (argsL := [.ref sa_42_9, .double d112]) (rest := []) rfl (W := 0) (Nat.le_of_eq rfl) (by decide) (by decide) (by decide) (by decide) fun T502 h502 v502 X502 q502 => ?_
    obtain ⟨rfl, K502, G502_0, G502_1, G502_2, G502_3, G502_4, G502_5, G502_6, G502_7, G502_8, G502_9⟩ := q502
    have F503 := F490.keep K502 (ninS ne28 (ninS ne70 (ninS ne76 (ninS ne82 nin0))))
    have F504 := F491.keep K502 (ninS ne29 (ninS ne71 (ninS ne77 (ninS ne83 nin0))))
    have F505 := F492.keep K502 (ninS ne30 (ninS ne72 (ninS ne78 (ninS ne84 nin0))))
    have F506 := F493.keep K502 (ninS ne31 (ninS ne73 (ninS ne79 (ninS ne85 nin0))))
    have F507 := F494.keep K502
    have F508 := F495.keep K502 (ninS (Ne.symm ne56) (ninS U45_2 (ninS U45_3 (ninS U45_4 nin0))))
    have F509 := F497.keep K502
    have F510 := F498.keep K502
    have F511 := F499.keep K502
    have F512 := F500.keep K502 (ninS (Ne.symm ne62) (ninS U45_6 (ninS U45_7 (ninS U45_8 nin0))))
    have F513 := G489_7.keep K502 (ninS (Ne.symm ne68) (ninS U45_9 (ninS U45_10 (ninS U45_11 nin0))))
    have Z514 : n0 ≤ h502.size := Nat.le_trans Z501 K502.1
    show Own.Go p e below s n0 _ _ _ (T502.setTop (mkF m 116 _ []))
    clear F490 F491 F492 F493 F494 F495 F496 F497 F498 F499 F500 G489_0 G489_1 G489_2 G489_3 G489_4 G489_5 G489_6 G489_7 G489_8 G489_9 X489
    refine Own.iconst X502 (v := 0) at_116 rfl ?_
    refine Own.istore X502 at_117 (l' := #[.val (.int i0), .val (.int i1), .val (.int i2), .val (.int i3), .val (.int i4), .val (.int v0), .val (.int v1), .val (.int v2), .val (.ref sa_30_1), .val (.ref sa_36_4), .val (.ref sa_42_9), .val (.ref sa_49_16), .val (.int mn), .val (.double d72), .second, .val (.ref pop), .val (.int (0 : Int32)), .unset, .unset, .unset, .unset, .unset, .unset, .unset, .unset, .unset, .unset, .unset]) rfl ?_
    refine Own.iload X502 at_119 rfl ?_
    refine Own.istore X502 at_121 (l' := #[.val (.int i0), .val (.int i1), .val (.int i2), .val (.int i3), .val (.int i4), .val (.int v0), .val (.int v1), .val (.int v2), .val (.ref sa_30_1), .val (.ref sa_36_4), .val (.ref sa_42_9), .val (.ref sa_49_16), .val (.int mn), .val (.double d72), .second, .val (.ref pop), .val (.int (0 : Int32)), .val (.int v0), .unset, .unset, .unset, .unset, .unset, .unset, .unset, .unset, .unset, .unset]) rfl ?_
    refine Own.iload X502 at_123 rfl ?_
    refine Own.iload X502 at_125 rfl ?_
    refine Own.icmp_ X502 (pc' := 137) at_127 (by decide) (fun q => absurd (show v0.toInt ≤ v1.toInt from q) (show ¬ (v0.toInt ≤ v1.toInt) from by omega)) (fun _ => ?_)
    refine Own.iconst X502 (v := 1) at_130 rfl ?_
    refine Own.istore X502 at_131 (l' := #[.val (.int i0), .val (.int i1), .val (.int i2), .val (.int i3), .val (.int i4), .val (.int v0), .val (.int v1), .val (.int v2), .val (.ref sa_30_1), .val (.ref sa_36_4), .val (.ref sa_42_9), .val (.ref sa_49_16), .val (.int mn), .val (.double d72), .second, .val (.ref pop), .val (.int (1 : Int32)), .val (.int v0), .unset, .unset, .unset, .unset, .unset, .unset, .unset, .unset, .unset, .unset]) rfl ?_
    refine Own.iload X502 at_133 rfl ?_
    refine Own.istore X502 at_135 (l' := #[.val (.int i0), .val (.int i1), .val (.int i2), .val (.int i3), .val (.int i4), .val (.int v0), .val (.int v1), .val (.int v2), .val (.ref sa_30_1), .val (.ref sa_36_4), .val (.ref sa_42_9), .val (.ref sa_49_16), .val (.int mn), .val (.double d72), .second, .val (.ref pop), .val (.int (1 : Int32)), .val (.int v1), .unset, .unset, .unset, .unset, .unset, .unset, .unset, .unset, .unset, .unset]) rfl ?_
    refine Own.iload X502 at_137 rfl ?_
    refine Own.iload X502 at_139 rfl ?_
    refine Own.icmp_ X502 (pc' := 151) at_141 (by decide) (fun q => absurd (show v1.toInt ≤ v2.toInt from q) (show ¬ (v1.toInt ≤ v2.toInt) from by omega)) (fun _ => ?_)
    refine Own.iconst X502 (v := 2) at_144 rfl ?_
    refine Own.istore X502 at_145 (l' := #[.val (.int i0), .val (.int i1), .val (.int i2), .val (.int i3), .val (.int i4), .val (.int v0), .val (.int v1), .val (.int v2), .val (.ref sa_30_1), .val (.ref sa_36_4), .val (.ref sa_42_9), .val (.ref sa_49_16), .val (.int mn), .val (.double d72), .second, .val (.ref pop), .val (.int (2 : Int32)), .val (.int v1), .unset, .unset, .unset, .unset, .unset, .unset, .unset, .unset, .unset, .unset]) rfl ?_
    refine Own.iload X502 at_147 rfl ?_
    refine Own.istore X502 at_149 (l' := #[.val (.int i0), .val (.int i1), .val (.int i2), .val (.int i3), .val (.int i4), .val (.int v0), .val (.int v1), .val (.int v2), .val (.ref sa_30_1), .val (.ref sa_36_4), .val (.ref sa_42_9), .val (.ref sa_49_16), .val (.int mn), .val (.double d72), .second, .val (.ref pop), .val (.int (2 : Int32)), .val (.int v2), .unset, .unset, .unset, .unset, .unset, .unset, .unset, .unset, .unset, .unset]) rfl ?_
    refine Own.iconst X502 (v := 0) at_151 rfl ?_
    refine Own.istore X502 at_152 (l' := #[.val (.int i0), .val (.int i1), .val (.int i2), .val (.int i3), .val (.int i4), .val (.int v0), .val (.int v1), .val (.int v2), .val (.ref sa_30_1), .val (.ref sa_36_4), .val (.ref sa_42_9), .val (.ref sa_49_16), .val (.int mn), .val (.double d72), .second, .val (.ref pop), .val (.int (2 : Int32)), .val (.int v2), .val (.int (0 : Int32)), .unset, .unset, .unset, .unset, .unset, .unset, .unset, .unset, .unset]) rfl ?_
    refine Own.iload X502 at_154 rfl ?_
    refine Own.istore X502 at_156 (l' := #[.val (.int i0), .val (.int i1), .val (.int i2), .val (.int i3), .val (.int i4), .val (.int v0), .val (.int v1), .val (.int v2), .val (.ref sa_30_1), .val (.ref sa_36_4), .val (.ref sa_42_9), .val (.ref sa_49_16), .val (.int mn), .val (.double d72), .second, .val (.ref pop), .val (.int (2 : Int32)), .val (.int v2), .val (.int (0 : Int32)), .val (.int v0), .unset, .unset, .unset, .unset, .unset, .unset, .unset, .unset]) rfl ?_
    refine Own.iload X502 at_158 rfl ?_
    refine Own.iload X502 at_160 rfl ?_
    refine Own.icmp_ X502 (pc' := 172) at_162 (by decide) (fun _ => ?_) (fun q => absurd (show v1.toInt ≤ v0.toInt from by omega) q)
    refine Own.iload X502 at_172 rfl ?_
    refine Own.iload X502 at_174 rfl ?_
    refine Own.icmp_ X502 (pc' := 186) at_176 (by decide) (fun _ => ?_) (fun q => absurd (show v2.toInt ≤ v0.toInt from by omega) q)
    refine Own.iload X502 at_186 rfl ?_
    refine Own.iff_ X502 (pc' := 195) at_188 (by decide) (fun _ => ?_) (fun q => absurd (show ¬ ((2 : Int) = (0 : Int)) from by decide) q)
    refine Own.iload X502 at_195 rfl ?_
    refine Own.iconst X502 (v := 1) at_197 rfl ?_
    refine Own.icmp_ X502 (pc' := 205) at_198 (by decide) (fun _ => ?_) (fun q => absurd (show ¬ ((2 : Int) = (1 : Int)) from by decide) q)
    refine Own.iloadN X502 at_205 rfl ?_
    refine Own.istore X502 at_206 (l' := #[.val (.int i0), .val (.int i1), .val (.int i2), .val (.int i3), .val (.int i4), .val (.int v0), .val (.int v1), .val (.int v2), .val (.ref sa_30_1), .val (.ref sa_36_4), .val (.ref sa_42_9), .val (.ref sa_49_16), .val (.int mn), .val (.double d72), .second, .val (.ref pop), .val (.int (2 : Int32)), .val (.int v2), .val (.int (0 : Int32)), .val (.int v0), .val (.int i3), .unset, .unset, .unset, .unset, .unset, .unset, .unset]) rfl ?_
    refine Own.aload X502 at_208 rfl rfl ?_
    refine Own.callV_ (y := mn_5) (z := mn_5) (a := pop) X502 at_210 (Own.wd hw 50 rfl) (Own.wd hw 51 rfl) (Own.wd hw 53 rfl) (Own.wd hw 52 rfl) rfl (Own.wd hw 12 rfl) (Own.wd hw 54 rfl) (by decide) F507 (rm7 l Z a0 hw pop (3 : Int32) h502 n0 Z514 G502_3 ) (lenOf pd_18 rfl) rfl (argsL := []) (rest := []) rfl (W := 0) (Nat.le_of_eq rfl) (by decide) (by decide) (by decide) (by decide) fun T515 h515 v515 X515 q515 => ?_
    obtain ⟨rfl, rfl⟩ := q515
    show Own.Go p e below s n0 _ _ _ (T515.setTop (mkF m 213 _ [.int (3 : Int32)]))
    clear X502
    refine Own.iconst X515 (v := 3) at_213 rfl ?_
    refine Own.icmp_ X515 (pc' := 221) at_214 (by decide) (fun q => absurd (show ¬ ((3 : Int) = (3 : Int)) from q) (show ¬ (¬ ((3 : Int) = (3 : Int))) from fun z => z (by decide))) (fun _ => ?_)
    refine Own.iconst X515 (v := 1) at_217 rfl ?_
    refine Own.goto_ X515 (pc' := 222) at_218 (by decide) ?_
    refine Own.istore X515 at_222 (l' := #[.val (.int i0), .val (.int i1), .val (.int i2), .val (.int i3), .val (.int i4), .val (.int v0), .val (.int v1), .val (.int v2), .val (.ref sa_30_1), .val (.ref sa_36_4), .val (.ref sa_42_9), .val (.ref sa_49_16), .val (.int mn), .val (.double d72), .second, .val (.ref pop), .val (.int (2 : Int32)), .val (.int v2), .val (.int (0 : Int32)), .val (.int v0), .val (.int i3), .val (.int (1 : Int32)), .unset, .unset, .unset, .unset, .unset, .unset]) rfl ?_
    refine Own.aload X515 at_224 rfl rfl ?_
    refine Own.callV_ (y := mn_6) (z := mn_6) (a := pop) X515 at_226 (Own.wd hw 55 rfl) (Own.wd hw 56 rfl) (Own.wd hw 58 rfl) (Own.wd hw 57 rfl) rfl (Own.wd hw 12 rfl) (Own.wd hw 59 rfl) (by decide) F507 (rm8_2 l Z a0 hw pop oa_81_45 k_oa_81_45 d92 d102 d112 h502 n0 Z514 G502_1 G502_6 G502_8 ) (lenOf pd_19 rfl) rfl (argsL := []) (rest := []) rfl (W := 0) (Nat.le_of_eq rfl) (by decide) (by decide) (by decide) (by decide) fun T516 h516 v516 X516 q516 => ?_
    obtain ⟨rfl, rfl⟩ := q516
    show Own.Go p e below s n0 _ _ _ (T516.setTop (mkF m 229 _ [.double d112]))
    clear X515
    refine Own.iload X516 at_229 rfl ?_
    obtain ⟨d231, e_d231⟩ : ∃ v, FP.i2d v2 = v := ⟨_, rfl⟩
    obtain ⟨f_d231, z_d231⟩ := Own.i2d_v e_d231
    have n_d231 := f_d231.noNaN
    refine Own.i2d X516 at_231 e_d231 ?_
    refine Own.dcmpF X516 (pc' := 240) at_232 at_233 (by decide) n_d112 n_d231 (fun q => absurd (show ¬ (Own.dz d112 = Own.dz d231) from q) (show ¬ (¬ (Own.dz d112 = Own.dz d231)) from fun z => z (by rw [z_d112, z_d231]))) (fun _ => ?_)
    refine Own.iconst X516 (v := 1) at_236 rfl ?_
    refine Own.goto_ X516 (pc' := 241) at_237 (by decide) ?_
    refine Own.istore X516 at_241 (l' := #[.val (.int i0), .val (.int i1), .val (.int i2), .val (.int i3), .val (.int i4), .val (.int v0), .val (.int v1), .val (.int v2), .val (.ref sa_30_1), .val (.ref sa_36_4), .val (.ref sa_42_9), .val (.ref sa_49_16), .val (.int mn), .val (.double d72), .second, .val (.ref pop), .val (.int (2 : Int32)), .val (.int v2), .val (.int (0 : Int32)), .val (.int v0), .val (.int i3), .val (.int (1 : Int32)), .val (.int (1 : Int32)), .unset, .unset, .unset, .unset, .unset]) rfl ?_
    refine Own.aload X516 at_243 rfl rfl ?_
    refine Own.callV_ (y := mn_7) (z := mn_7) (a := pop) X516 at_245 (Own.wd hw 60 rfl) (Own.wd hw 61 rfl) (Own.wd hw 63 rfl) (Own.wd hw 62 rfl) rfl (Own.wd hw 12 rfl) (Own.wd hw 64 rfl) (by decide) F507 (rm9_2 l Z a0 hw pop pl_81_45 x0_81_45 x1_81_45 x2_81_45 k_pl_81_45 c_pl_81_45 (i3 >>> ((1 : Int32) &&& 31)) ((i3 >>> ((1 : Int32) &&& 31)) + (1073741824 : Int32)) h502 n0 Z514 G502_0 G502_6 F508 G502_7 F511 ) (lenOf pd_20 rfl) rfl (argsL := []) (rest := []) rfl (W := 0) (Nat.le_of_eq rfl) (by decide) (by decide) (by decide) (by decide) fun T517 h517 v517 X517 q517 => ?_
    obtain ⟨cl_245_517, rfl, K517, B517_0, G517_0⟩ := q517
    have F518 := F503.keep K517 nin0
    have F519 := F504.keep K517 nin0
    have F520 := F505.keep K517 nin0
    have F521 := F506.keep K517 nin0
    have F522 := F507.keep K517
    have F523 := F508.keep K517 nin0
    have F524 := F509.keep K517
    have F525 := F510.keep K517
    have F526 := F511.keep K517
    have F527 := F512.keep K517 nin0
    have F528 := F513.keep K517 nin0
    have F529 := G502_0.keep K517 nin0
    have F530 := G502_1.keep K517 nin0
    have F531 := G502_2.keep K517 nin0
    have F532 := G502_3.keep K517 nin0
    have F533 := G502_4.keep K517 nin0
    have F534 := G502_5.keep K517 nin0
    have F535 := G502_6.keep K517 nin0
    have F536 := G502_7.keep K517 nin0
    have F537 := G502_8.keep K517 nin0
    have F538 := G502_9.keep K517 nin0
    have Z539 : n0 ≤ h517.size := Nat.le_trans Z514 K517.1
    have ne540 : sa_30_1 ≠ cl_245_517 := Nat.ne_of_lt (Nat.lt_of_lt_of_le F503.lt B517_0)
    have ne541 : sa_36_4 ≠ cl_245_517 := Nat.ne_of_lt (Nat.lt_of_lt_of_le F504.lt B517_0)
    have ne542 : sa_42_9 ≠ cl_245_517 := Nat.ne_of_lt (Nat.lt_of_lt_of_le F505.lt B517_0)
    have ne543 : sa_49_16 ≠ cl_245_517 := Nat.ne_of_lt (Nat.lt_of_lt_of_le F506.lt B517_0)
    have ne544 : pop ≠ cl_245_517 := Nat.ne_of_lt (Nat.lt_of_lt_of_le F507.lt B517_0)
    have ne545 : pl_81_45 ≠ cl_245_517 := Nat.ne_of_lt (Nat.lt_of_lt_of_le F508.lt B517_0)
    have ne546 : x0_81_45 ≠ cl_245_517 := Nat.ne_of_lt (Nat.lt_of_lt_of_le F509.lt B517_0)
    have ne547 : x1_81_45 ≠ cl_245_517 := Nat.ne_of_lt (Nat.lt_of_lt_of_le F510.lt B517_0)
    have ne548 : x2_81_45 ≠ cl_245_517 := Nat.ne_of_lt (Nat.lt_of_lt_of_le F511.lt B517_0)
    have ne549 : oa_81_45 ≠ cl_245_517 := Nat.ne_of_lt (Nat.lt_of_lt_of_le G502_8.lt B517_0)
    have ne550 : na_81_45 ≠ cl_245_517 := Nat.ne_of_lt (Nat.lt_of_lt_of_le G502_9.lt B517_0)
    have fr551 : n0 ≤ cl_245_517 := Nat.le_trans Z514 B517_0
    show Own.Go p e below s n0 _ _ _ (T517.setTop (mkF m 248 _ [.ref cl_245_517]))
    clear F503 F504 F505 F506 F507 F508 F509 F510 F511 F512 F513 G502_0 G502_1 G502_2 G502_3 G502_4 G502_5 G502_6 G502_7 G502_8 G502_9 X516
    refine Own.iload X517 at_248 rfl ?_
    refine Own.callS_ (y := mn_13) X517 at_250 (Own.wd hw 74 rfl) (Own.wd hw 75 rfl) (Own.wd hw 2 rfl) (Own.wd hw 76 rfl) (by decide) (rm10 l Z a0 hw cl_245_517 i3 c_pl_81_45 (i3 >>> ((1 : Int32) &&& 31)) ((i3 >>> ((1 : Int32) &&& 31)) + (1073741824 : Int32)) h517 n0 Z539 G517_0 rfl rfl) (lenOf pd_21 rfl) rfl (argsL := [.ref cl_245_517, .int i3]) (rest := []) rfl (W := 0) (Nat.le_of_eq rfl) (by decide) (by decide) (by decide) (by decide) fun T552 h552 v552 X552 q552 => ?_
    obtain ⟨rfl, rfl⟩ := q552
    show Own.Go p e below s n0 _ _ _ (T552.setTop (mkF m 253 _ [.int (1 : Int32)]))
    clear X517
    refine Own.istore X552 at_253 (l' := #[.val (.int i0), .val (.int i1), .val (.int i2), .val (.int i3), .val (.int i4), .val (.int v0), .val (.int v1), .val (.int v2), .val (.ref sa_30_1), .val (.ref sa_36_4), .val (.ref sa_42_9), .val (.ref sa_49_16), .val (.int mn), .val (.double d72), .second, .val (.ref pop), .val (.int (2 : Int32)), .val (.int v2), .val (.int (0 : Int32)), .val (.int v0), .val (.int i3), .val (.int (1 : Int32)), .val (.int (1 : Int32)), .val (.int (1 : Int32)), .unset, .unset, .unset, .unset]) rfl ?_
    refine Own.aload X552 at_255 rfl rfl ?_
    refine Own.aload X552 at_257 rfl rfl ?_
    refine Own.dload X552 at_259 rfl ?_
    refine Own.callV_ (y := mn_11) (z := mn_11) (a := pop) X552 at_261 (Own.wd hw 77 rfl) (Own.wd hw 78 rfl) (Own.wd hw 80 rfl) (Own.wd hw 79 rfl) rfl (Own.wd hw 12 rfl) (Own.wd hw 81 rfl) (by decide) F522 (rm11_0N l Z a0 hw pop sa_49_16 d72 pl_81_45 oa_81_45 na_81_45 x0_81_45 x1_81_45 x2_81_45 k_pl_81_45 c_pl_81_45 k_oa_81_45 k_na_81_45 d92 d102 d112 (0 : Int64) ((0 : Int64) + (1 : Int64)) (((0 : Int64) + (1 : Int64)) + (1 : Int64)) ((((0 : Int64) + (1 : Int64)) + (1 : Int64)) + (1 : Int64)) k_sa_49_16 (i4 >>> ((1 : Int32) &&& 31)) ((i4 >>> ((1 : Int32) &&& 31)) + (1073741824 : Int32)) (2 : Int32) (i1 >>> ((1 : Int32) &&& 31)) ((i1 >>> ((1 : Int32) &&& 31)) + (1073741824 : Int32)) h517 n0 Z539 F522 F529 F530 F531 F532 F533 F534 F535 F523 F527 F537 F538 F521 ne56 ne80 ne86 ne62 ne68 ne74 U45_3 U45_4 U45_0 U45_1 U45_2 U45_14 (Ne.symm U45_7) (Ne.symm U45_10) (Ne.symm U45_12) (Ne.symm U45_8) (Ne.symm U45_11) (Ne.symm U45_13) U45_5 U45_6 U45_9 ne31 ne55 ne79 ne85 ne61 ne67 ne73 fr32 fr63 fr69 fr75 fr81 fr87 n_d72 n_d92 n_d102 n_d112 (by rw [z_d72, z_d92]; exact Own.U_lt.mpr (by omega)) (by rw [z_d72, z_d102]; exact Own.U_lt.mpr (by omega)) (by rw [z_d72, z_d112]; exact Own.U_lt.mpr (by omega)) d112 (by decide) rfl n_d112 (by rw [z_d72, z_d112]; exact Own.U_lt.mpr (by omega))) (lenOf pd_10 rfl) rfl (argsL := [.ref sa_49_16, .double d72]) (rest := []) rfl (W := 0) (Nat.le_of_eq rfl) (by decide) (by decide) (by decide) (by decide) fun T553 h553 v553 X553 q553 => ?_
    obtain ⟨rfl, K553, G553_0, G553_1, G553_2⟩ := q553
    have F554 := F518.keep K553 (ninS ne28 (ninS ne58 (ninS ne76 (ninS ne82 nin0))))
    have F555 := F519.keep K553 (ninS ne29 (ninS ne59 (ninS ne77 (ninS ne83 nin0))))
    have F556 := F520.keep K553 (ninS ne30 (ninS ne60 (ninS ne78 (ninS ne84 nin0))))
    have F557 := F521.keep K553 (ninS ne31 (ninS ne61 (ninS ne79 (ninS ne85 nin0))))
    have F558 := F522.keep K553
    have F559 := F523.keep K553 (ninS (Ne.symm ne56) (ninS U45_0 (ninS U45_3 (ninS U45_4 nin0))))
    have F560 := F524.keep K553
    have F561 := F525.keep K553
    have F562 := F526.keep K553
    have F563 := F528.keep K553 (ninS (Ne.symm ne68) (ninS (Ne.symm U45_5) (ninS U45_10 (ninS U45_11 nin0))))
    have F564 := F536.keep K553 (ninS (Ne.symm ne74) (ninS (Ne.symm U45_6) (ninS U45_12 (ninS U45_13 nin0))))
    have F565 := G517_0.keep K553 (ninS (Ne.symm ne544) (ninS (Ne.symm ne546) (ninS (Ne.symm ne549) (ninS (Ne.symm ne550) nin0))))
    have Z566 : n0 ≤ h553.size := Nat.le_trans Z539 K553.1
    show Own.Go p e below s n0 _ _ _ (T553.setTop (mkF m 264 _ [.int (1 : Int32)]))
    clear F518 F519 F520 F521 F522 F523 F524 F525 F526 F527 F528 F529 F530 F531 F532 F533 F534 F535 F536 F537 F538 G517_0 X552
    refine Own.istore X553 at_264 (l' := #[.val (.int i0), .val (.int i1), .val (.int i2), .val (.int i3), .val (.int i4), .val (.int v0), .val (.int v1), .val (.int v2), .val (.ref sa_30_1), .val (.ref sa_36_4), .val (.ref sa_42_9), .val (.ref sa_49_16), .val (.int mn), .val (.double d72), .second, .val (.ref pop), .val (.int (2 : Int32)), .val (.int v2), .val (.int (0 : Int32)), .val (.int v0), .val (.int i3), .val (.int (1 : Int32)), .val (.int (1 : Int32)), .val (.int (1 : Int32)), .val (.int (1 : Int32)), .unset, .unset, .unset]) rfl ?_
    refine Own.aload X553 at_266 rfl rfl ?_
    refine Own.iconst X553 (v := 0) at_268 rfl ?_
    refine Own.callV_ (y := mn_8) (z := mn_8) (a := pop) X553 at_269 (Own.wd hw 86 rfl) (Own.wd hw 87 rfl) (Own.wd hw 89 rfl) (Own.wd hw 88 rfl) rfl (Own.wd hw 12 rfl) (Own.wd hw 90 rfl) (by decide) F558 (rm13_0 l Z a0 hw pop pl_81_45 x0_81_45 x1_81_45 x2_81_45 k_pl_81_45 h553 n0 Z566 G553_0 F559 ) (lenOf pd_14 rfl) rfl (argsL := [.int (0 : Int32)]) (rest := []) rfl (W := 0) (Nat.le_of_eq rfl) (by decide) (by decide) (by decide) (by decide) fun T567 h567 v567 X567 q567 => ?_
    obtain ⟨rfl, rfl⟩ := q567
    show Own.Go p e below s n0 _ _ _ (T567.setTop (mkF m 272 _ [.ref x0_81_45]))
    clear X553
    refine Own.iload X567 at_272 rfl ?_
    refine Own.iff_ X567 (pc' := 282) at_274 (by decide) (fun q => absurd (show ¬ ((0 : Int) = (0 : Int)) from q) (show ¬ (¬ ((0 : Int) = (0 : Int))) from fun z => z (by decide))) (fun _ => ?_)
    refine Own.iload X567 at_277 rfl ?_
    refine Own.goto_ X567 (pc' := 283) at_279 (by decide) ?_
    refine Own.callS_ (y := mn_13) X567 at_283 (Own.wd hw 74 rfl) (Own.wd hw 75 rfl) (Own.wd hw 2 rfl) (Own.wd hw 76 rfl) (by decide) (rm10 l Z a0 hw x0_81_45 i4 c_pl_81_45 (i4 >>> ((1 : Int32) &&& 31)) ((i4 >>> ((1 : Int32) &&& 31)) + (1073741824 : Int32)) h553 n0 Z566 G553_2 rfl rfl) (lenOf pd_21 rfl) rfl (argsL := [.ref x0_81_45, .int i4]) (rest := []) rfl (W := 0) (Nat.le_of_eq rfl) (by decide) (by decide) (by decide) (by decide) fun T568 h568 v568 X568 q568 => ?_
    obtain ⟨rfl, rfl⟩ := q568
    show Own.Go p e below s n0 _ _ _ (T568.setTop (mkF m 286 _ [.int (1 : Int32)]))
    clear X567
    refine Own.istore X568 at_286 (l' := #[.val (.int i0), .val (.int i1), .val (.int i2), .val (.int i3), .val (.int i4), .val (.int v0), .val (.int v1), .val (.int v2), .val (.ref sa_30_1), .val (.ref sa_36_4), .val (.ref sa_42_9), .val (.ref sa_49_16), .val (.int mn), .val (.double d72), .second, .val (.ref pop), .val (.int (2 : Int32)), .val (.int v2), .val (.int (0 : Int32)), .val (.int v0), .val (.int i3), .val (.int (1 : Int32)), .val (.int (1 : Int32)), .val (.int (1 : Int32)), .val (.int (1 : Int32)), .val (.int (1 : Int32)), .unset, .unset]) rfl ?_
    refine Own.aload X568 at_288 rfl rfl ?_
    refine Own.iconst X568 (v := 1) at_290 rfl ?_
    refine Own.callV_ (y := mn_8) (z := mn_8) (a := pop) X568 at_291 (Own.wd hw 86 rfl) (Own.wd hw 87 rfl) (Own.wd hw 89 rfl) (Own.wd hw 88 rfl) rfl (Own.wd hw 12 rfl) (Own.wd hw 90 rfl) (by decide) F558 (rm13_1 l Z a0 hw pop pl_81_45 x0_81_45 x1_81_45 x2_81_45 k_pl_81_45 h553 n0 Z566 G553_0 F559 ) (lenOf pd_14 rfl) rfl (argsL := [.int (1 : Int32)]) (rest := []) rfl (W := 0) (Nat.le_of_eq rfl) (by decide) (by decide) (by decide) (by decide) fun T569 h569 v569 X569 q569 => ?_
    obtain ⟨rfl, rfl⟩ := q569
    show Own.Go p e below s n0 _ _ _ (T569.setTop (mkF m 294 _ [.ref x1_81_45]))
    clear X568
    refine Own.iload X569 at_294 rfl ?_
    refine Own.iconst X569 (v := 1) at_296 rfl ?_
    refine Own.icmp_ X569 (pc' := 305) at_297 (by decide) (fun _ => ?_) (fun q => absurd (show ¬ ((0 : Int) = (1 : Int)) from by decide) q)
    refine Own.iloadN X569 at_305 rfl ?_
    refine Own.callS_ (y := mn_13) X569 at_306 (Own.wd hw 74 rfl) (Own.wd hw 75 rfl) (Own.wd hw 2 rfl) (Own.wd hw 76 rfl) (by decide) (rm10 l Z a0 hw x1_81_45 i2 c_pl_81_45 (i2 >>> ((1 : Int32) &&& 31)) ((i2 >>> ((1 : Int32) &&& 31)) + (1073741824 : Int32)) h553 n0 Z566 F563 rfl rfl) (lenOf pd_21 rfl) rfl (argsL := [.ref x1_81_45, .int i2]) (rest := []) rfl (W := 0) (Nat.le_of_eq rfl) (by decide) (by decide) (by decide) (by decide) fun T570 h570 v570 X570 q570 => ?_
    obtain ⟨rfl, rfl⟩ := q570
    show Own.Go p e below s n0 _ _ _ (T570.setTop (mkF m 309 _ [.int (1 : Int32)]))
    clear X569
    refine Own.istore X570 at_309 (l' := #[.val (.int i0), .val (.int i1), .val (.int i2), .val (.int i3), .val (.int i4), .val (.int v0), .val (.int v1), .val (.int v2), .val (.ref sa_30_1), .val (.ref sa_36_4), .val (.ref sa_42_9), .val (.ref sa_49_16), .val (.int mn), .val (.double d72), .second, .val (.ref pop), .val (.int (2 : Int32)), .val (.int v2), .val (.int (0 : Int32)), .val (.int v0), .val (.int i3), .val (.int (1 : Int32)), .val (.int (1 : Int32)), .val (.int (1 : Int32)), .val (.int (1 : Int32)), .val (.int (1 : Int32)), .val (.int (1 : Int32)), .unset]) rfl ?_
    refine Own.aload X570 at_311 rfl rfl ?_
    refine Own.iconst X570 (v := 2) at_313 rfl ?_
    refine Own.callV_ (y := mn_8) (z := mn_8) (a := pop) X570 at_314 (Own.wd hw 86 rfl) (Own.wd hw 87 rfl) (Own.wd hw 89 rfl) (Own.wd hw 88 rfl) rfl (Own.wd hw 12 rfl) (Own.wd hw 90 rfl) (by decide) F558 (rm13_2 l Z a0 hw pop pl_81_45 x0_81_45 x1_81_45 x2_81_45 k_pl_81_45 h553 n0 Z566 G553_0 F559 ) (lenOf pd_14 rfl) rfl (argsL := [.int (2 : Int32)]) (rest := []) rfl (W := 0) (Nat.le_of_eq rfl) (by decide) (by decide) (by decide) (by decide) fun T571 h571 v571 X571 q571 => ?_
    obtain ⟨rfl, rfl⟩ := q571
    show Own.Go p e below s n0 _ _ _ (T571.setTop (mkF m 317 _ [.ref x2_81_45]))
    clear X570
    refine Own.iload X571 at_317 rfl ?_
    refine Own.iconst X571 (v := 2) at_319 rfl ?_
    refine Own.icmp_ X571 (pc' := 328) at_320 (by decide) (fun _ => ?_) (fun q => absurd (show ¬ ((0 : Int) = (2 : Int)) from by decide) q)
    refine Own.iloadN X571 at_328 rfl ?_
    refine Own.callS_ (y := mn_13) X571 at_329 (Own.wd hw 74 rfl) (Own.wd hw 75 rfl) (Own.wd hw 2 rfl) (Own.wd hw 76 rfl) (by decide) (rm10 l Z a0 hw x2_81_45 i3 c_pl_81_45 (i3 >>> ((1 : Int32) &&& 31)) ((i3 >>> ((1 : Int32) &&& 31)) + (1073741824 : Int32)) h553 n0 Z566 F564 rfl rfl) (lenOf pd_21 rfl) rfl (argsL := [.ref x2_81_45, .int i3]) (rest := []) rfl (W := 0) (Nat.le_of_eq rfl) (by decide) (by decide) (by decide) (by decide) fun T572 h572 v572 X572 q572 => ?_
    obtain ⟨rfl, rfl⟩ := q572
    show Own.Go p e below s n0 _ _ _ (T572.setTop (mkF m 332 _ [.int (1 : Int32)]))
    clear X571
    refine Own.istore X572 at_332 (l' := #[.val (.int i0), .val (.int i1), .val (.int i2), .val (.int i3), .val (.int i4), .val (.int v0), .val (.int v1), .val (.int v2), .val (.ref sa_30_1), .val (.ref sa_36_4), .val (.ref sa_42_9), .val (.ref sa_49_16), .val (.int mn), .val (.double d72), .second, .val (.ref pop), .val (.int (2 : Int32)), .val (.int v2), .val (.int (0 : Int32)), .val (.int v0), .val (.int i3), .val (.int (1 : Int32)), .val (.int (1 : Int32)), .val (.int (1 : Int32)), .val (.int (1 : Int32)), .val (.int (1 : Int32)), .val (.int (1 : Int32)), .val (.int (1 : Int32))]) rfl ?_
    refine Own.iload X572 at_334 rfl ?_
    refine Own.iff_ X572 (pc' := 373) at_336 (by decide) (fun q => absurd (show (1 : Int) = (0 : Int) from q) (show ¬ ((1 : Int) = (0 : Int)) from by decide)) (fun _ => ?_)
    refine Own.iload X572 at_339 rfl ?_
    refine Own.iff_ X572 (pc' := 373) at_341 (by decide) (fun q => absurd (show (1 : Int) = (0 : Int) from q) (show ¬ ((1 : Int) = (0 : Int)) from by decide)) (fun _ => ?_)
    refine Own.iload X572 at_344 rfl ?_
    refine Own.iff_ X572 (pc' := 373) at_346 (by decide) (fun q => absurd (show (1 : Int) = (0 : Int) from q) (show ¬ ((1 : Int) = (0 : Int)) from by decide)) (fun _ => ?_)
    refine Own.iload X572 at_349 rfl ?_
    refine Own.iff_ X572 (pc' := 373) at_351 (by decide) (fun q => absurd (show (1 : Int) = (0 : Int) from q) (show ¬ ((1 : Int) = (0 : Int)) from by decide)) (fun _ => ?_)
    refine Own.iload X572 at_354 rfl ?_
    refine Own.iff_ X572 (pc' := 373) at_356 (by decide) (fun q => absurd (show (1 : Int) = (0 : Int) from q) (show ¬ ((1 : Int) = (0 : Int)) from by decide)) (fun _ => ?_)
    refine Own.iload X572 at_359 rfl ?_
    refine Own.iff_ X572 (pc' := 373) at_361 (by decide) (fun q => absurd (show (1 : Int) = (0 : Int) from q) (show ¬ ((1 : Int) = (0 : Int)) from by decide)) (fun _ => ?_)
    refine Own.iload X572 at_364 rfl ?_
    refine Own.iff_ X572 (pc' := 373) at_366 (by decide) (fun q => absurd (show (1 : Int) = (0 : Int) from q) (show ¬ ((1 : Int) = (0 : Int)) from by decide)) (fun _ => ?_)
    refine Own.iconst X572 (v := 1) at_369 rfl ?_
    refine Own.goto_ X572 (pc' := 374) at_370 (by decide) ?_
    exact Own.retB X572 at_374 (by decide) rfl (by decide) (by decide)
  · refine Own.aload X45 at_86 rfl rfl ?_
    refine Own.aload X45 at_88 rfl rfl ?_
    refine Own.iload X45 at_90 rfl ?_
    obtain ⟨d92, e_d92⟩ : ∃ v, FP.i2d v0 = v := ⟨_, rfl⟩
    obtain ⟨f_d92, z_d92⟩ := Own.i2d_v e_d92
    have n_d92 := f_d92.noNaN
    refine Own.i2d X45 at_92 e_d92 ?_
    refine Own.callV_ (y := mn_4) (z := mn_4) (a := pop) X45 at_93 (Own.wd hw 29 rfl) (Own.wd hw 30 rfl) (Own.wd hw 32 rfl) (Own.wd hw 31 rfl) rfl (Own.wd hw 12 rfl) (Own.wd hw 33 rfl) (by decide) F50 (rm5_00000 l Z a0 hw pop sa_30_1 d92 pl_81_45 oa_81_45 na_81_45 x0_81_45 x1_81_45 x2_81_45 k_pl_81_45 c_pl_81_45 k_oa_81_45 k_na_81_45 0 0 0 (0 : Int64) (0 : Int64) (0 : Int64) (0 : Int64) k_sa_30_1 (i1 >>> ((1 : Int32) &&& 31)) ((i1 >>> ((1 : Int32) &&& 31)) + (1073741824 : Int32)) (0 : Int32) (0 : Int32) h45 n0 Z51 F50 G45_0 G45_1 G45_2 G45_3 G45_4 G45_5 G45_6 G45_7 G45_8 G45_11 G45_12 F46 ne56 ne80 ne86 ne62 ne68 ne74 U45_3 U45_4 U45_0 U45_1 U45_2 U45_14 (Ne.symm U45_7) (Ne.symm U45_10) (Ne.symm U45_12) (Ne.symm U45_8) (Ne.symm U45_11) (Ne.symm U45_13) U45_5 U45_6 U45_9 ne28 ne52 ne76 ne82 ne58 ne64 ne70 fr32 fr63 fr69 fr75 fr81 fr87 n_d92 ) (lenOf pd_17 rfl) rfl (argsL := [.ref sa_30_1, .double d92]) (rest := []) rfl (W := 0) (Nat.le_of_eq rfl) (by decide) (by decide) (by decide) (by decide) fun T573 h573 v573 X573 q573 => ?_
    obtain ⟨rfl, K573, G573_0, G573_1, G573_2, G573_3, G573_4, G573_5, G573_6, G573_7, G573_8, G573_9⟩ := q573
    have F574 := F46.keep K573 (ninS ne28 (ninS ne58 (ninS ne76 (ninS ne82 nin0))))
    have F575 := F47.keep K573 (ninS ne29 (ninS ne59 (ninS ne77 (ninS ne83 nin0))))
    have F576 := F48.keep K573 (ninS ne30 (ninS ne60 (ninS ne78 (ninS ne84 nin0))))
    have F577 := F49.keep K573 (ninS ne31 (ninS ne61 (ninS ne79 (ninS ne85 nin0))))
    have F578 := F50.keep K573
    have F579 := G45_7.keep K573 (ninS (Ne.symm ne56) (ninS U45_0 (ninS U45_3 (ninS U45_4 nin0))))
    have F580 := G45_9.keep K573 (ninS (Ne.symm ne68) (ninS (Ne.symm U45_5) (ninS U45_10 (ninS U45_11 nin0))))
    have F581 := G45_10.keep K573 (ninS (Ne.symm ne74) (ninS (Ne.symm U45_6) (ninS U45_12 (ninS U45_13 nin0))))
    have F582 := G45_13.keep K573
    have F583 := G45_14.keep K573
    have F584 := G45_15.keep K573
    have Z585 : n0 ≤ h573.size := Nat.le_trans Z51 K573.1
    show Own.Go p e below s n0 _ _ _ (T573.setTop (mkF m 96 _ []))
    clear F46 F47 F48 F49 F50 G45_0 G45_1 G45_10 G45_11 G45_12 G45_13 G45_14 G45_15 G45_2 G45_3 G45_4 G45_5 G45_6 G45_7 G45_8 G45_9 X45
    refine Own.aload X573 at_96 rfl rfl ?_
    refine Own.aload X573 at_98 rfl rfl ?_
    refine Own.iload X573 at_100 rfl ?_
    obtain ⟨d102, e_d102⟩ : ∃ v, FP.i2d v1 = v := ⟨_, rfl⟩
    obtain ⟨f_d102, z_d102⟩ := Own.i2d_v e_d102
    have n_d102 := f_d102.noNaN
    refine Own.i2d X573 at_102 e_d102 ?_
    refine Own.callV_ (y := mn_4) (z := mn_4) (a := pop) X573 at_103 (Own.wd hw 29 rfl) (Own.wd hw 30 rfl) (Own.wd hw 32 rfl) (Own.wd hw 31 rfl) rfl (Own.wd hw 12 rfl) (Own.wd hw 33 rfl) (by decide) F578 (rm5_10001 l Z a0 hw pop sa_36_4 d102 pl_81_45 oa_81_45 na_81_45 x0_81_45 x1_81_45 x2_81_45 k_pl_81_45 c_pl_81_45 k_oa_81_45 k_na_81_45 d92 0 0 (0 : Int64) (0 : Int64) (0 : Int64) ((0 : Int64) + (1 : Int64)) k_sa_36_4 (i2 >>> ((1 : Int32) &&& 31)) ((i2 >>> ((1 : Int32) &&& 31)) + (1073741824 : Int32)) (0 : Int32) (0 : Int32) h573 n0 Z585 F578 G573_0 G573_1 G573_2 G573_3 G573_4 G573_5 G573_6 F579 F580 G573_8 G573_9 F575 ne56 ne80 ne86 ne62 ne68 ne74 U45_3 U45_4 U45_0 U45_1 U45_2 U45_14 (Ne.symm U45_7) (Ne.symm U45_10) (Ne.symm U45_12) (Ne.symm U45_8) (Ne.symm U45_11) (Ne.symm U45_13) U45_5 U45_6 U45_9 ne29 ne53 ne77 ne83 ne59 ne65 ne71 fr32 fr63 fr69 fr75 fr81 fr87 n_d102 n_d92 (by rw [z_d102, z_d92]; exact Own.U_le.mpr (by omega)) (by rw [z_d102, z_d92]; exact Own.U_lt.mpr (by omega))) (lenOf pd_17 rfl) rfl (argsL := [.ref sa_36_4, .double d102]) (rest := []) rfl (W := 0) (Nat.le_of_eq rfl) (by decide) (by decide) (by decide) (by decide) fun T586 h586 v586 X586 q586 => ?_
    obtain ⟨rfl, K586, G586_0, G586_1, G586_2, G586_3, G586_4, G586_5, G586_6, G586_7, G586_8, G586_9⟩ := q586
    have F587 := F574.keep K586 (ninS ne28 (ninS ne64 (ninS ne76 (ninS ne82 nin0))))
    have F588 := F575.keep K586 (ninS ne29 (ninS ne65 (ninS ne77 (ninS ne83 nin0))))
    have F589 := F576.keep K586 (ninS ne30 (ninS ne66 (ninS ne78 (ninS ne84 nin0))))
    have F590 := F577.keep K586 (ninS ne31 (ninS ne67 (ninS ne79 (ninS ne85 nin0))))
    have F591 := F578.keep K586
    have F592 := F579.keep K586 (ninS (Ne.symm ne56) (ninS U45_1 (ninS U45_3 (ninS U45_4 nin0))))
    have F593 := F581.keep K586 (ninS (Ne.symm ne74) (ninS (Ne.symm U45_9) (ninS U45_12 (ninS U45_13 nin0))))
    have F594 := F582.keep K586
    have F595 := F583.keep K586
    have F596 := F584.keep K586
    have F597 := G573_7.keep K586 (ninS (Ne.symm ne62) (ninS U45_5 (ninS U45_7 (ninS U45_8 nin0))))
    have Z598 : n0 ≤ h586.size := Nat.le_trans Z585 K586.1
    show Own.Go p e below s n0 _ _ _ (T586.setTop (mkF m 106 _ []))
    clear F574 F575 F576 F577 F578 F579 F580 F581 F582 F583 F584 G573_0 G573_1 G573_2 G573_3 G573_4 G573_5 G573_6 G573_7 G573_8 G573_9 X573
    refine Own.aload X586 at_106 rfl rfl ?_
    refine Own.aload X586 at_108 rfl rfl ?_
    refine Own.iload X586 at_110 rfl ?_
    obtain ⟨d112, e_d112⟩ : ∃ v, FP.i2d v2 = v := ⟨_, rfl⟩
    obtain ⟨f_d112, z_d112⟩ := Own.i2d_v e_d112
    have n_d112 := f_d112.noNaN
    refine Own.i2d X586 at_112 e_d112 ?_
    refine Own.callV_ (y := mn_4) (z := mn_4) (a := pop) X586 at_113 (Own.wd hw 29 rfl) (Own.wd hw 30 rfl) (Own.wd hw 32 rfl) (Own.wd hw 31 rfl) rfl (Own.wd hw 12 rfl) (Own.wd hw 33 rfl) (by decide) F591 (rm5_20101 l Z a0 hw pop sa_42_9 d112 pl_81_45 oa_81_45 na_81_45 x0_81_45 x1_81_45 x2_81_45 k_pl_81_45 c_pl_81_45 k_oa_81_45 k_na_81_45 d92 d102 0 (0 : Int64) ((0 : Int64) + (1 : Int64)) (0 : Int64) (((0 : Int64) + (1 : Int64)) + (1 : Int64)) k_sa_42_9 (i3 >>> ((1 : Int32) &&& 31)) ((i3 >>> ((1 : Int32) &&& 31)) + (1073741824 : Int32)) (0 : Int32) (0 : Int32) h586 n0 Z598 F591 G586_0 G586_1 G586_2 G586_3 G586_4 G586_5 G586_6 F592 F593 G586_8 G586_9 F589 ne56 ne80 ne86 ne62 ne68 ne74 U45_3 U45_4 U45_0 U45_1 U45_2 U45_14 (Ne.symm U45_7) (Ne.symm U45_10) (Ne.symm U45_12) (Ne.symm U45_8) (Ne.symm U45_11) (Ne.symm U45_13) U45_5 U45_6 U45_9 ne30 ne54 ne78 ne84 ne60 ne66 ne72 fr32 fr63 fr69 fr75 fr81 fr87 n_d112 n_d92 n_d102 (by rw [z_d112, z_d92]; exact Own.U_le.mpr (by omega)) (by rw [z_d102, z_d112]; exact Own.U_le.mpr (by omega))) (lenOf pd_17 rfl) rfl (argsL := [.ref sa_42_9, .double d112]) (rest := []) rfl (W := 0) (Nat.le_of_eq rfl) (by decide) (by decide) (by decide) (by decide) fun T599 h599 v599 X599 q599 => ?_
    obtain ⟨rfl, K599, G599_0, G599_1, G599_2, G599_3, G599_4, G599_5, G599_6, G599_7, G599_8, G599_9⟩ := q599
    have F600 := F587.keep K599 (ninS ne28 (ninS ne70 (ninS ne76 (ninS ne82 nin0))))
    have F601 := F588.keep K599 (ninS ne29 (ninS ne71 (ninS ne77 (ninS ne83 nin0))))
    have F602 := F589.keep K599 (ninS ne30 (ninS ne72 (ninS ne78 (ninS ne84 nin0))))
    have F603 := F590.keep K599 (ninS ne31 (ninS ne73 (ninS ne79 (ninS ne85 nin0))))
    have F604 := F591.keep K599
    have F605 := F592.keep K599 (ninS (Ne.symm ne56) (ninS U45_2 (ninS U45_3 (ninS U45_4 nin0))))
    have F606 := F594.keep K599
    have F607 := F595.keep K599
    have F608 := F596.keep K599
    have F609 := F597.keep K599 (ninS (Ne.symm ne62) (ninS U45_6 (ninS U45_7 (ninS U45_8 nin0))))
    have F610 := G586_7.keep K599 (ninS (Ne.symm ne68) (ninS U45_9 (ninS U45_10 (ninS U45_11 nin0))))
    have Z611 : n0 ≤ h599.size := Nat.le_trans Z598 K599.1
    show Own.Go p e below s n0 _ _ _ (T599.setTop (mkF m 116 _ []))
    clear F587 F588 F589 F590 F591 F592 F593 F594 F595 F596 F597 G586_0 G586_1 G586_2 G586_3 G586_4 G586_5 G586_6 G586_7 G586_8 G586_9 X586
    refine Own.iconst X599 (v := 0) at_116 rfl ?_
    refine Own.istore X599 at_117 (l' := #[.val (.int i0), .val (.int i1), .val (.int i2), .val (.int i3), .val (.int i4), .val (.int v0), .val (.int v1), .val (.int v2), .val (.ref sa_30_1), .val (.ref sa_36_4), .val (.ref sa_42_9), .val (.ref sa_49_16), .val (.int mn), .val (.double d72), .second, .val (.ref pop), .val (.int (0 : Int32)), .unset, .unset, .unset, .unset, .unset, .unset, .unset, .unset, .unset, .unset, .unset]) rfl ?_
    refine Own.iload X599 at_119 rfl ?_
    refine Own.istore X599 at_121 (l' := #[.val (.int i0), .val (.int i1), .val (.int i2), .val (.int i3), .val (.int i4), .val (.int v0), .val (.int v1), .val (.int v2), .val (.ref sa_30_1), .val (.ref sa_36_4), .val (.ref sa_42_9), .val (.ref sa_49_16), .val (.int mn), .val (.double d72), .second, .val (.ref pop), .val (.int (0 : Int32)), .val (.int v0), .unset, .unset, .unset, .unset, .unset, .unset, .unset, .unset, .unset, .unset]) rfl ?_
    refine Own.iload X599 at_123 rfl ?_
    refine Own.iload X599 at_125 rfl ?_
    refine Own.icmp_ X599 (pc' := 137) at_127 (by decide) (fun q => absurd (show v0.toInt ≤ v1.toInt from q) (show ¬ (v0.toInt ≤ v1.toInt) from by omega)) (fun _ => ?_)
    refine Own.iconst X599 (v := 1) at_130 rfl ?_
    refine Own.istore X599 at_131 (l' := #[.val (.int i0), .val (.int i1), .val (.int i2), .val (.int i3), .val (.int i4), .val (.int v0), .val (.int v1), .val (.int v2), .val (.ref sa_30_1), .val (.ref sa_36_4), .val (.ref sa_42_9), .val (.ref sa_49_16), .val (.int mn), .val (.double d72), .second, .val (.ref pop), .val (.int (1 : Int32)), .val (.int v0), .unset, .unset, .unset, .unset, .unset, .unset, .unset, .unset, .unset, .unset]) rfl ?_
    refine Own.iload X599 at_133 rfl ?_
    refine Own.istore X599 at_135 (l' := #[.val (.int i0), .val (.int i1), .val (.int i2), .val (.int i3), .val (.int i4), .val (.int v0), .val (.int v1), .val (.int v2), .val (.ref sa_30_1), .val (.ref sa_36_4), .val (.ref sa_42_9), .val (.ref sa_49_16), .val (.int mn), .val (.double d72), .second, .val (.ref pop), .val (.int (1 : Int32)), .val (.int v1), .unset, .unset, .unset, .unset, .unset, .unset, .unset, .unset, .unset, .unset]) rfl ?_
    refine Own.iload X599 at_137 rfl ?_
    refine Own.iload X599 at_139 rfl ?_
    refine Own.icmp_ X599 (pc' := 151) at_141 (by decide) (fun _ => ?_) (fun q => absurd (show v1.toInt ≤ v2.toInt from by omega) q)
    refine Own.iconst X599 (v := 0) at_151 rfl ?_
    refine Own.istore X599 at_152 (l' := #[.val (.int i0), .val (.int i1), .val (.int i2), .val (.int i3), .val (.int i4), .val (.int v0), .val (.int v1), .val (.int v2), .val (.ref sa_30_1), .val (.ref sa_36_4), .val (.ref sa_42_9), .val (.ref sa_49_16), .val (.int mn), .val (.double d72), .second, .val (.ref pop), .val (.int (1 : Int32)), .val (.int v1), .val (.int (0 : Int32)), .unset, .unset, .unset, .unset, .unset, .unset, .unset, .unset, .unset]) rfl ?_
    refine Own.iload X599 at_154 rfl ?_
    refine Own.istore X599 at_156 (l' := #[.val (.int i0), .val (.int i1), .val (.int i2), .val (.int i3), .val (.int i4), .val (.int v0), .val (.int v1), .val (.int v2), .val (.ref sa_30_1), .val (.ref sa_36_4), .val (.ref sa_42_9), .val (.ref sa_49_16), .val (.int mn), .val (.double d72), .second, .val (.ref pop), .val (.int (1 : Int32)), .val (.int v1), .val (.int (0 : Int32)), .val (.int v0), .unset, .unset, .unset, .unset, .unset, .unset, .unset, .unset]) rfl ?_
    refine Own.iload X599 at_158 rfl ?_
    refine Own.iload X599 at_160 rfl ?_
    refine Own.icmp_ X599 (pc' := 172) at_162 (by decide) (fun _ => ?_) (fun q => absurd (show v1.toInt ≤ v0.toInt from by omega) q)
    refine Own.iload X599 at_172 rfl ?_
    refine Own.iload X599 at_174 rfl ?_
    refine Own.icmp_ X599 (pc' := 186) at_176 (by decide) (fun _ => ?_) (fun q => absurd (show v2.toInt ≤ v0.toInt from by omega) q)
    refine Own.iload X599 at_186 rfl ?_
    refine Own.iff_ X599 (pc' := 195) at_188 (by decide) (fun _ => ?_) (fun q => absurd (show ¬ ((1 : Int) = (0 : Int)) from by decide) q)
    refine Own.iload X599 at_195 rfl ?_
    refine Own.iconst X599 (v := 1) at_197 rfl ?_
    refine Own.icmp_ X599 (pc' := 205) at_198 (by decide) (fun q => absurd (show ¬ ((1 : Int) = (1 : Int)) from q) (show ¬ (¬ ((1 : Int) = (1 : Int))) from fun z => z (by decide))) (fun _ => ?_)
    refine Own.iloadN X599 at_201 rfl ?_
    refine Own.goto_ X599 (pc' := 206) at_202 (by decide) ?_
    refine Own.istore X599 at_206 (l' := #[.val (.int i0), .val (.int i1), .val (.int i2), .val (.int i3), .val (.int i4), .val (.int v0), .val (.int v1), .val (.int v2), .val (.ref sa_30_1), .val (.ref sa_36_4), .val (.ref sa_42_9), .val (.ref sa_49_16), .val (.int mn), .val (.double d72), .second, .val (.ref pop), .val (.int (1 : Int32)), .val (.int v1), .val (.int (0 : Int32)), .val (.int v0), .val (.int i2), .unset, .unset, .unset, .unset, .unset, .unset, .unset]) rfl ?_
    refine Own.aload X599 at_208 rfl rfl ?_
    refine Own.callV_ (y := mn_5) (z := mn_5) (a := pop) X599 at_210 (Own.wd hw 50 rfl) (Own.wd hw 51 rfl) (Own.wd hw 53 rfl) (Own.wd hw 52 rfl) rfl (Own.wd hw 12 rfl) (Own.wd hw 54 rfl) (by decide) F604 (rm7 l Z a0 hw pop (3 : Int32) h599 n0 Z611 G599_3 ) (lenOf pd_18 rfl) rfl (argsL := []) (rest := []) rfl (W := 0) (Nat.le_of_eq rfl) (by decide) (by decide) (by decide) (by decide) fun T612 h612 v612 X612 q612 => ?_
    obtain ⟨rfl, rfl⟩ := q612
    show Own.Go p e below s n0 _ _ _ (T612.setTop (mkF m 213 _ [.int (3 : Int32)]))
    clear X599
    refine Own.iconst X612 (v := 3) at_213 rfl ?_
    refine Own.icmp_ X612 (pc' := 221) at_214 (by decide) (fun q => absurd (show ¬ ((3 : Int) = (3 : Int)) from q) (show ¬ (¬ ((3 : Int) = (3 : Int))) from fun z => z (by decide))) (fun _ => ?_)
    refine Own.iconst X612 (v := 1) at_217 rfl ?_
    refine Own.goto_ X612 (pc' := 222) at_218 (by decide) ?_
    refine Own.istore X612 at_222 (l' := #[.val (.int i0), .val (.int i1), .val (.int i2), .val (.int i3), .val (.int i4), .val (.int v0), .val (.int v1), .val (.int v2), .val (.ref sa_30_1), .val (.ref sa_36_4), .val (.ref sa_42_9), .val (.ref sa_49_16), .val (.int mn), .val (.double d72), .second, .val (.ref pop), .val (.int (1 : Int32)), .val (.int v1), .val (.int (0 : Int32)), .val (.int v0), .val (.int i2), .val (.int (1 : Int32)), .unset, .unset, .unset, .unset, .unset, .unset]) rfl ?_
    refine Own.aload X612 at_224 rfl rfl ?_
    refine Own.callV_ (y := mn_6) (z := mn_6) (a := pop) X612 at_226 (Own.wd hw 55 rfl) (Own.wd hw 56 rfl) (Own.wd hw 58 rfl) (Own.wd hw 57 rfl) rfl (Own.wd hw 12 rfl) (Own.wd hw 59 rfl) (by decide) F604 (rm8_1 l Z a0 hw pop oa_81_45 k_oa_81_45 d92 d102 d112 h599 n0 Z611 G599_1 G599_6 G599_8 ) (lenOf pd_19 rfl) rfl (argsL := []) (rest := []) rfl (W := 0) (Nat.le_of_eq rfl) (by decide) (by decide) (by decide) (by decide) fun T613 h613 v613 X613 q613 => ?_
    obtain ⟨rfl, rfl⟩ := q613
    show Own.Go p e below s n0 _ _ _ (T613.setTop (mkF m 229 _ [.double d102]))
    clear X612
    refine Own.iload X613 at_229 rfl ?_
    obtain ⟨d231, e_d231⟩ : ∃ v, FP.i2d v1 = v := ⟨_, rfl⟩
    obtain ⟨f_d231, z_d231⟩ := Own.i2d_v e_d231
    have n_d231 := f_d231.noNaN
    refine Own.i2d X613 at_231 e_d231 ?_
    refine Own.dcmpF X613 (pc' := 240) at_232 at_233 (by decide) n_d102 n_d231 (fun q => absurd (show ¬ (Own.dz d102 = Own.dz d231) from q) (show ¬ (¬ (Own.dz d102 = Own.dz d231)) from fun z => z (by rw [z_d102, z_d231]))) (fun _ => ?_)
    refine Own.iconst X613 (v := 1) at_236 rfl ?_
    refine Own.goto_ X613 (pc' := 241) at_237 (by decide) ?_
    refine Own.istore X613 at_241 (l' := #[.val (.int i0), .val (.int i1), .val (.int i2), .val (.int i3), .val (.int i4), .val (.int v0), .val (.int v1), .val (.int v2), .val (.ref sa_30_1), .val (.ref sa_36_4), .val (.ref sa_42_9), .val (.ref sa_49_16), .val (.int mn), .val (.double d72), .second, .val (.ref pop), .val (.int (1 : Int32)), .val (.int v1), .val (.int (0 : Int32)), .val (.int v0), .val (.int i2), .val (.int (1 : Int32)), .val (.int (1 : Int32)), .unset, .unset, .unset, .unset, .unset]) rfl ?_
    refine Own.aload X613 at_243 rfl rfl ?_
    refine Own.callV_ (y := mn_7) (z := mn_7) (a := pop) X613 at_245 (Own.wd hw 60 rfl) (Own.wd hw 61 rfl) (Own.wd hw 63 rfl) (Own.wd hw 62 rfl) rfl (Own.wd hw 12 rfl) (Own.wd hw 64 rfl) (by decide) F604 (rm9_1 l Z a0 hw pop pl_81_45 x0_81_45 x1_81_45 x2_81_45 k_pl_81_45 c_pl_81_45 (i2 >>> ((1 : Int32) &&& 31)) ((i2 >>> ((1 : Int32) &&& 31)) + (1073741824 : Int32)) h599 n0 Z611 G599_0 G599_6 F605 F610 F607 ) (lenOf pd_20 rfl) rfl (argsL := []) (rest := []) rfl (W := 0) (Nat.le_of_eq rfl) (by decide) (by decide) (by decide) (by decide) fun T614 h614 v614 X614 q614 => ?_
    obtain ⟨cl_245_614, rfl, K614, B614_0, G614_0⟩ := q614
    have F615 := F600.keep K614 nin0
    have F616 := F601.keep K614 nin0
    have F617 := F602.keep K614 nin0
    have F618 := F603.keep K614 nin0
    have F619 := F604.keep K614
    have F620 := F605.keep K614 nin0
    have F621 := F606.keep K614
    have F622 := F607.keep K614
    have F623 := F608.keep K614
    have F624 := F609.keep K614 nin0
    have F625 := F610.keep K614 nin0
    have F626 := G599_0.keep K614 nin0
    have F627 := G599_1.keep K614 nin0
    have F628 := G599_2.keep K614 nin0
    have F629 := G599_3.keep K614 nin0
    have F630 := G599_4.keep K614 nin0
    have F631 := G599_5.keep K614 nin0
    have F632 := G599_6.keep K614 nin0
    have F633 := G599_7.keep K614 nin0
    have F634 := G599_8.keep K614 nin0
    have F635 := G599_9.keep K614 nin0
    have Z636 : n0 ≤ h614.size := Nat.le_trans Z611 K614.1
    have ne637 : sa_30_1 ≠ cl_245_614 := Nat.ne_of_lt (Nat.lt_of_lt_of_le F600.lt B614_0)
    have ne638 : sa_36_4 ≠ cl_245_614 := Nat.ne_of_lt (Nat.lt_of_lt_of_le F601.lt B614_0)
    have ne639 : sa_42_9 ≠ cl_245_614 := Nat.ne_of_lt (Nat.lt_of_lt_of_le F602.lt B614_0)
    have ne640 : sa_49_16 ≠ cl_245_614 := Nat.ne_of_lt (Nat.lt_of_lt_of_le F603.lt B614_0)
    have ne641 : pop ≠ cl_245_614 := Nat.ne_of_lt (Nat.lt_of_lt_of_le F604.lt B614_0)
    have ne642 : pl_81_45 ≠ cl_245_614 := Nat.ne_of_lt (Nat.lt_of_lt_of_le F605.lt B614_0)
    have ne643 : x0_81_45 ≠ cl_245_614 := Nat.ne_of_lt (Nat.lt_of_lt_of_le F606.lt B614_0)
    have ne644 : x1_81_45 ≠ cl_245_614 := Nat.ne_of_lt (Nat.lt_of_lt_of_le F607.lt B614_0)
    have ne645 : x2_81_45 ≠ cl_245_614 := Nat.ne_of_lt (Nat.lt_of_lt_of_le F608.lt B614_0)
    have ne646 : oa_81_45 ≠ cl_245_614 := Nat.ne_of_lt (Nat.lt_of_lt_of_le G599_8.lt B614_0)
    have ne647 : na_81_45 ≠ cl_245_614 := Nat.ne_of_lt (Nat.lt_of_lt_of_le G599_9.lt B614_0)
    have fr648 : n0 ≤ cl_245_614 := Nat.le_trans Z611 B614_0
    show Own.Go p e below s n0 _ _ _ (T614.setTop (mkF m 248 _ [.ref cl_245_614]))
    clear F600 F601 F602 F603 F604 F605 F606 F607 F608 F609 F610 G599_0 G599_1 G599_2 G599_3 G599_4 G599_5 G599_6 G599_7 G599_8 G599_9 X613
    refine Own.iload X614 at_248 rfl ?_
    refine Own.callS_ (y := mn_13) X614 at_250 (Own.wd hw 74 rfl) (Own.wd hw 75 rfl) (Own.wd hw 2 rfl) (Own.wd hw 76 rfl) (by decide) (rm10 l Z a0 hw cl_245_614 i2 c_pl_81_45 (i2 >>> ((1 : Int32) &&& 31)) ((i2 >>> ((1 : Int32) &&& 31)) + (1073741824 : Int32)) h614 n0 Z636 G614_0 rfl rfl) (lenOf pd_21 rfl) rfl (argsL := [.ref cl_245_614, .int i2]) (rest := []) rfl (W := 0) (Nat.le_of_eq rfl) (by decide) (by decide) (by decide) (by decide) fun T649 h649 v649 X649 q649 => ?_
    obtain ⟨rfl, rfl⟩ := q649
    show Own.Go p e below s n0 _ _ _ (T649.setTop (mkF m 253 _ [.int (1 : Int32)]))
    clear X614
    refine Own.istore X649 at_253 (l' := #[.val (.int i0), .val (.int i1), .val (.int i2), .val (.int i3), .val (.int i4), .val (.int v0), .val (.int v1), .val (.int v2), .val (.ref sa_30_1), .val (.ref sa_36_4), .val (.ref sa_42_9), .val (.ref sa_49_16), .val (.int mn), .val (.double d72), .second, .val (.ref pop), .val (.int (1 : Int32)), .val (.int v1), .val (.int (0 : Int32)), .val (.int v0), .val (.int i2), .val (.int (1 : Int32)), .val (.int (1 : Int32)), .val (.int (1 : Int32)), .unset, .unset, .unset, .unset]) rfl ?_
    refine Own.aload X649 at_255 rfl rfl ?_
    refine Own.aload X649 at_257 rfl rfl ?_
    refine Own.dload X649 at_259 rfl ?_
    refine Own.callV_ (y := mn_11) (z := mn_11) (a := pop) X649 at_261 (Own.wd hw 77 rfl) (Own.wd hw 78 rfl) (Own.wd hw 80 rfl) (Own.wd hw 79 rfl) rfl (Own.wd hw 12 rfl) (Own.wd hw 81 rfl) (by decide) F619 (rm11_0N l Z a0 hw pop sa_49_16 d72 pl_81_45 oa_81_45 na_81_45 x0_81_45 x1_81_45 x2_81_45 k_pl_81_45 c_pl_81_45 k_oa_81_45 k_na_81_45 d92 d102 d112 (0 : Int64) ((0 : Int64) + (1 : Int64)) (((0 : Int64) + (1 : Int64)) + (1 : Int64)) ((((0 : Int64) + (1 : Int64)) + (1 : Int64)) + (1 : Int64)) k_sa_49_16 (i4 >>> ((1 : Int32) &&& 31)) ((i4 >>> ((1 : Int32) &&& 31)) + (1073741824 : Int32)) (1 : Int32) (i1 >>> ((1 : Int32) &&& 31)) ((i1 >>> ((1 : Int32) &&& 31)) + (1073741824 : Int32)) h614 n0 Z636 F619 F626 F627 F628 F629 F630 F631 F632 F620 F624 F634 F635 F618 ne56 ne80 ne86 ne62 ne68 ne74 U45_3 U45_4 U45_0 U45_1 U45_2 U45_14 (Ne.symm U45_7) (Ne.symm U45_10) (Ne.symm U45_12) (Ne.symm U45_8) (Ne.symm U45_11) (Ne.symm U45_13) U45_5 U45_6 U45_9 ne31 ne55 ne79 ne85 ne61 ne67 ne73 fr32 fr63 fr69 fr75 fr81 fr87 n_d72 n_d92 n_d102 n_d112 (by rw [z_d72, z_d92]; exact Own.U_lt.mpr (by omega)) (by rw [z_d72, z_d102]; exact Own.U_lt.mpr (by omega)) (by rw [z_d72, z_d112]; exact Own.U_lt.mpr (by omega)) d102 (by decide) rfl n_d102 (by rw [z_d72, z_d102]; exact Own.U_lt.mpr (by omega))) (lenOf pd_10 rfl) rfl (argsL := [.ref sa_49_16, .double d72]) (rest := []) rfl (W := 0) (Nat.le_of_eq rfl) (by decide) (by decide) (by decide) (by decide) fun T650 h650 v650 X650 q650 => ?_
    obtain ⟨rfl, K650, G650_0, G650_1, G650_2⟩ := q650
    have F651 := F615.keep K650 (ninS ne28 (ninS ne58 (ninS ne76 (ninS ne82 nin0))))
    have F652 := F616.keep K650 (ninS ne29 (ninS ne59 (ninS ne77 (ninS ne83 nin0))))
    have F653 := F617.keep K650 (ninS ne30 (ninS ne60 (ninS ne78 (ninS ne84 nin0))))
    have F654 := F618.keep K650 (ninS ne31 (ninS ne61 (ninS ne79 (ninS ne85 nin0))))
    have F655 := F619.keep K650
    have F656 := F620.keep K650 (ninS (Ne.symm ne56) (ninS U45_0 (ninS U45_3 (ninS U45_4 nin0))))
    have F657 := F621.keep K650
    have F658 := F622.keep K650
    have F659 := F623.keep K650
    have F660 := F625.keep K650 (ninS (Ne.symm ne68) (ninS (Ne.symm U45_5) (ninS U45_10 (ninS U45_11 nin0))))
    have F661 := F633.keep K650 (ninS (Ne.symm ne74) (ninS (Ne.symm U45_6) (ninS U45_12 (ninS U45_13 nin0))))
    have F662 := G614_0.keep K650 (ninS (Ne.symm ne641) (ninS (Ne.symm ne643) (ninS (Ne.symm ne646) (ninS (Ne.symm ne647) nin0))))
    have Z663 : n0 ≤ h650.size := Nat.le_trans Z636 K650.1
    show Own.Go p e below s n0 _ _ _ (T650.setTop (mkF m 264 _ [.int (1 : Int32)]))
    clear F615 F616 F617 F618 F619 F620 F621 F622 F623 F624 F625 F626 F627 F628 F629 F630 F631 F632 F633 F634 F635 G614_0 X649
    refine Own.istore X650 at_264 (l' := #[.val (.int i0), .val (.int i1), .val (.int i2), .val (.int i3), .val (.int i4), .val (.int v0), .val (.int v1), .val (.int v2), .val (.ref sa_30_1), .val (.ref sa_36_4), .val (.ref sa_42_9), .val (.ref sa_49_16), .val (.int mn), .val (.double d72), .second, .val (.ref pop), .val (.int (1 : Int32)), .val (.int v1), .val (.int (0 : Int32)), .val (.int v0), .val (.int i2), .val (.int (1 : Int32)), .val (.int (1 : Int32)), .val (.int (1 : Int32)), .val (.int (1 : Int32)), .unset, .unset, .unset]) rfl ?_
    refine Own.aload X650 at_266 rfl rfl ?_
    refine Own.iconst X650 (v := 0) at_268 rfl ?_
    refine Own.callV_ (y := mn_8) (z := mn_8) (a := pop) X650 at_269 (Own.wd hw 86 rfl) (Own.wd hw 87 rfl) (Own.wd hw 89 rfl) (Own.wd hw 88 rfl) rfl (Own.wd hw 12 rfl) (Own.wd hw 90 rfl) (by decide) F655 (rm13_0 l Z a0 hw pop pl_81_45 x0_81_45 x1_81_45 x2_81_45 k_pl_81_45 h650 n0 Z663 G650_0 F656 ) (lenOf pd_14 rfl) rfl (argsL := [.int (0 : Int32)]) (rest := []) rfl (W := 0) (Nat.le_of_eq rfl) (by decide) (by decide) (by decide) (by decide) fun T664 h664 v664 X664 q664 => ?_
    obtain ⟨rfl, rfl⟩ := q664
    show Own.Go p e below s n0 _ _ _ (T664.setTop (mkF m 272 _ [.ref x0_81_45]))
    clear X650
    refine Own.iload X664 at_272 rfl ?_
    refine Own.iff_ X664 (pc' := 282) at_274 (by decide) (fun q => absurd (show ¬ ((0 : Int) = (0 : Int)) from q) (show ¬ (¬ ((0 : Int) = (0 : Int))) from fun z => z (by decide))) (fun _ => ?_)
    refine Own.iload X664 at_277 rfl ?_
    refine Own.goto_ X664 (pc' := 283) at_279 (by decide) ?_
    refine Own.callS_ (y := mn_13) X664 at_283 (Own.wd hw 74 rfl) (Own.wd hw 75 rfl) (Own.wd hw 2 rfl) (Own.wd hw 76 rfl) (by decide) (rm10 l Z a0 hw x0_81_45 i4 c_pl_81_45 (i4 >>> ((1 : Int32) &&& 31)) ((i4 >>> ((1 : Int32) &&& 31)) + (1073741824 : Int32)) h650 n0 Z663 G650_2 rfl rfl) (lenOf pd_21 rfl) rfl (argsL := [.ref x0_81_45, .int i4]) (rest := []) rfl (W := 0) (Nat.le_of_eq rfl) (by decide) (by decide) (by decide) (by decide) fun T665 h665 v665 X665 q665 => ?_
    obtain ⟨rfl, rfl⟩ := q665
    show Own.Go p e below s n0 _ _ _ (T665.setTop (mkF m 286 _ [.int (1 : Int32)]))
    clear X664
    refine Own.istore X665 at_286 (l' := #[.val (.int i0), .val (.int i1), .val (.int i2), .val (.int i3), .val (.int i4), .val (.int v0), .val (.int v1), .val (.int v2), .val (.ref sa_30_1), .val (.ref sa_36_4), .val (.ref sa_42_9), .val (.ref sa_49_16), .val (.int mn), .val (.double d72), .second, .val (.ref pop), .val (.int (1 : Int32)), .val (.int v1), .val (.int (0 : Int32)), .val (.int v0), .val (.int i2), .val (.int (1 : Int32)), .val (.int (1 : Int32)), .val (.int (1 : Int32)), .val (.int (1 : Int32)), .val (.int (1 : Int32)), .unset, .unset]) rfl ?_
    refine Own.aload X665 at_288 rfl rfl ?_
    refine Own.iconst X665 (v := 1) at_290 rfl ?_
    refine Own.callV_ (y := mn_8) (z := mn_8) (a := pop) X665 at_291 (Own.wd hw 86 rfl) (Own.wd hw 87 rfl) (Own.wd hw 89 rfl) (Own.wd hw 88 rfl) rfl (Own.wd hw 12 rfl) (Own.wd hw 90 rfl) (by decide) F655 (rm13_1 l Z a0 hw pop pl_81_45 x0_81_45 x1_81_45 x2_81_45 k_pl_81_45 h650 n0 Z663 G650_0 F656 ) (lenOf pd_14 rfl) rfl (argsL := [.int (1 : Int32)]) (rest := []) rfl (W := 0) (Nat.le_of_eq rfl) (by decide) (by decide) (by decide) (by decide) fun T666 h666 v666 X666 q666 => ?_
    obtain ⟨rfl, rfl⟩ := q666
    show Own.Go p e below s n0 _ _ _ (T666.setTop (mkF m 294 _ [.ref x1_81_45]))
    clear X665
    refine Own.iload X666 at_294 rfl ?_
    refine Own.iconst X666 (v := 1) at_296 rfl ?_
    refine Own.icmp_ X666 (pc' := 305) at_297 (by decide) (fun _ => ?_) (fun q => absurd (show ¬ ((0 : Int) = (1 : Int)) from by decide) q)
    refine Own.iloadN X666 at_305 rfl ?_
    refine Own.callS_ (y := mn_13) X666 at_306 (Own.wd hw 74 rfl) (Own.wd hw 75 rfl) (Own.wd hw 2 rfl) (Own.wd hw 76 rfl) (by decide) (rm10 l Z a0 hw x1_81_45 i2 c_pl_81_45 (i2 >>> ((1 : Int32) &&& 31)) ((i2 >>> ((1 : Int32) &&& 31)) + (1073741824 : Int32)) h650 n0 Z663 F660 rfl rfl) (lenOf pd_21 rfl) rfl (argsL := [.ref x1_81_45, .int i2]) (rest := []) rfl (W := 0) (Nat.le_of_eq rfl) (by decide) (by decide) (by decide) (by decide) fun T667 h667 v667 X667 q667 => ?_
    obtain ⟨rfl, rfl⟩ := q667
    show Own.Go p e below s n0 _ _ _ (T667.setTop (mkF m 309 _ [.int (1 : Int32)]))
    clear X666
    refine Own.istore X667 at_309 (l' := #[.val (.int i0), .val (.int i1), .val (.int i2), .val (.int i3), .val (.int i4), .val (.int v0), .val (.int v1), .val (.int v2), .val (.ref sa_30_1), .val (.ref sa_36_4), .val (.ref sa_42_9), .val (.ref sa_49_16), .val (.int mn), .val (.double d72), .second, .val (.ref pop), .val (.int (1 : Int32)), .val (.int v1), .val (.int (0 : Int32)), .val (.int v0), .val (.int i2), .val (.int (1 : Int32)), .val (.int (1 : Int32)), .val (.int (1 : Int32)), .val (.int (1 : Int32)), .val (.int (1 : Int32)), .val (.int (1 : Int32)), .unset]) rfl ?_
    refine Own.aload X667 at_311 rfl rfl ?_
    refine Own.iconst X667 (v := 2) at_313 rfl ?_
    refine Own.callV_ (y := mn_8) (z := mn_8) (a := pop) X667 at_314 (Own.wd hw 86 rfl) (Own.wd hw 87 rfl) (Own.wd hw 89 rfl) (Own.wd hw 88 rfl) rfl (Own.wd hw 12 rfl) (Own.wd hw 90 rfl) (by decide) F655 (rm13_2 l Z a0 hw pop pl_81_45 x0_81_45 x1_81_45 x2_81_45 k_pl_81_45 h650 n0 Z663 G650_0 F656 ) (lenOf pd_14 rfl) rfl (argsL := [.int (2 : Int32)]) (rest := []) rfl (W := 0) (Nat.le_of_eq rfl) (by decide) (by decide) (by decide) (by decide) fun T668 h668 v668 X668 q668 => ?_
    obtain ⟨rfl, rfl⟩ := q668
    show Own.Go p e below s n0 _ _ _ (T668.setTop (mkF m 317 _ [.ref x2_81_45]))
    clear X667
    refine Own.iload X668 at_317 rfl ?_
    refine Own.iconst X668 (v := 2) at_319 rfl ?_
    refine Own.icmp_ X668 (pc' := 328) at_320 (by decide) (fun _ => ?_) (fun q => absurd (show ¬ ((0 : Int) = (2 : Int)) from by decide) q)
    refine Own.iloadN X668 at_328 rfl ?_
    refine Own.callS_ (y := mn_13) X668 at_329 (Own.wd hw 74 rfl) (Own.wd hw 75 rfl) (Own.wd hw 2 rfl) (Own.wd hw 76 rfl) (by decide) (rm10 l Z a0 hw x2_81_45 i3 c_pl_81_45 (i3 >>> ((1 : Int32) &&& 31)) ((i3 >>> ((1 : Int32) &&& 31)) + (1073741824 : Int32)) h650 n0 Z663 F661 rfl rfl) (lenOf pd_21 rfl) rfl (argsL := [.ref x2_81_45, .int i3]) (rest := []) rfl (W := 0) (Nat.le_of_eq rfl) (by decide) (by decide) (by decide) (by decide) fun T669 h669 v669 X669 q669 => ?_
    obtain ⟨rfl, rfl⟩ := q669
    show Own.Go p e below s n0 _ _ _ (T669.setTop (mkF m 332 _ [.int (1 : Int32)]))
    clear X668
    refine Own.istore X669 at_332 (l' := #[.val (.int i0), .val (.int i1), .val (.int i2), .val (.int i3), .val (.int i4), .val (.int v0), .val (.int v1), .val (.int v2), .val (.ref sa_30_1), .val (.ref sa_36_4), .val (.ref sa_42_9), .val (.ref sa_49_16), .val (.int mn), .val (.double d72), .second, .val (.ref pop), .val (.int (1 : Int32)), .val (.int v1), .val (.int (0 : Int32)), .val (.int v0), .val (.int i2), .val (.int (1 : Int32)), .val (.int (1 : Int32)), .val (.int (1 : Int32)), .val (.int (1 : Int32)), .val (.int (1 : Int32)), .val (.int (1 : Int32)), .val (.int (1 : Int32))]) rfl ?_
    refine Own.iload X669 at_334 rfl ?_
    refine Own.iff_ X669 (pc' := 373) at_336 (by decide) (fun q => absurd (show (1 : Int) = (0 : Int) from q) (show ¬ ((1 : Int) = (0 : Int)) from by decide)) (fun _ => ?_)
    refine Own.iload X669 at_339 rfl ?_
    refine Own.iff_ X669 (pc' := 373) at_341 (by decide) (fun q => absurd (show (1 : Int) = (0 : Int) from q) (show ¬ ((1 : Int) = (0 : Int)) from by decide)) (fun _ => ?_)
    refine Own.iload X669 at_344 rfl ?_
    refine Own.iff_ X669 (pc' := 373) at_346 (by decide) (fun q => absurd (show (1 : Int) = (0 : Int) from q) (show ¬ ((1 : Int) = (0 : Int)) from by decide)) (fun _ => ?_)
    refine Own.iload X669 at_349 rfl ?_
    refine Own.iff_ X669 (pc' := 373) at_351 (by decide) (fun q => absurd (show (1 : Int) = (0 : Int) from q) (show ¬ ((1 : Int) = (0 : Int)) from by decide)) (fun _ => ?_)
    refine Own.iload X669 at_354 rfl ?_
    refine Own.iff_ X669 (pc' := 373) at_356 (by decide) (fun q => absurd (show (1 : Int) = (0 : Int) from q) (show ¬ ((1 : Int) = (0 : Int)) from by decide)) (fun _ => ?_)
    refine Own.iload X669 at_359 rfl ?_
    refine Own.iff_ X669 (pc' := 373) at_361 (by decide) (fun q => absurd (show (1 : Int) = (0 : Int) from q) (show ¬ ((1 : Int) = (0 : Int)) from by decide)) (fun _ => ?_)
    refine Own.iload X669 at_364 rfl ?_
    refine Own.iff_ X669 (pc' := 373) at_366 (by decide) (fun q => absurd (show (1 : Int) = (0 : Int) from q) (show ¬ ((1 : Int) = (0 : Int)) from by decide)) (fun _ => ?_)
    refine Own.iconst X669 (v := 1) at_369 rfl ?_
    refine Own.goto_ X669 (pc' := 374) at_370 (by decide) ?_
    exact Own.retB X669 at_374 (by decide) rfl (by decide) (by decide)
  · refine Own.aload X45 at_86 rfl rfl ?_
    refine Own.aload X45 at_88 rfl rfl ?_
    refine Own.iload X45 at_90 rfl ?_
    obtain ⟨d92, e_d92⟩ : ∃ v, FP.i2d v0 = v := ⟨_, rfl⟩
    obtain ⟨f_d92, z_d92⟩ := Own.i2d_v e_d92
    have n_d92 := f_d92.noNaN
    refine Own.i2d X45 at_92 e_d92 ?_
    refine Own.callV_ (y := mn_4) (z := mn_4) (a := pop) X45 at_93 (Own.wd hw 29 rfl) (Own.wd hw 30 rfl) (Own.wd hw 32 rfl) (Own.wd hw 31 rfl) rfl (Own.wd hw 12 rfl) (Own.wd hw 33 rfl) (by decide) F50 (rm5_00000 l Z a0 hw pop sa_30_1 d92 pl_81_45 oa_81_45 na_81_45 x0_81_45 x1_81_45 x2_81_45 k_pl_81_45 c_pl_81_45 k_oa_81_45 k_na_81_45 0 0 0 (0 : Int64) (0 : Int64) (0 : Int64) (0 : Int64) k_sa_30_1 (i1 >>> ((1 : Int32) &&& 31)) ((i1 >>> ((1 : Int32) &&& 31)) + (1073741824 : Int32)) (0 : Int32) (0 : Int32) h45 n0 Z51 F50 G45_0 G45_1 G45_2 G45_3 G45_4 G45_5 G45_6 G45_7 G45_8 G45_11 G45_12 F46 ne56 ne80 ne86 ne62 ne68 ne74 U45_3 U45_4 U45_0 U45_1 U45_2 U45_14 (Ne.symm U45_7) (Ne.symm U45_10) (Ne.symm U45_12) (Ne.symm U45_8) (Ne.symm U45_11) (Ne.symm U45_13) U45_5 U45_6 U45_9 ne28 ne52 ne76 ne82 ne58 ne64 ne70 fr32 fr63 fr69 fr75 fr81 fr87 n_d92 ) (lenOf pd_17 rfl) rfl (argsL := [.ref sa_30_1, .double d92]) (rest := []) rfl (W := 0) (Nat.le_of_eq rfl) (by decide) (by decide) (by decide) (by decide) fun T670 h670 v670 X670 q670 => ?_
    obtain ⟨rfl, K670, G670_0, G670_1, G670_2, G670_3, G670_4, G670_5, G670_6, G670_7, G670_8, G670_9⟩ := q670
    have F671 := F46.keep K670 (ninS ne28 (ninS ne58 (ninS ne76 (ninS ne82 nin0))))
    have F672 := F47.keep K670 (ninS ne29 (ninS ne59 (ninS ne77 (ninS ne83 nin0))))
    have F673 := F48.keep K670 (ninS ne30 (ninS ne60 (ninS ne78 (ninS ne84 nin0))))
    have F674 := F49.keep K670 (ninS ne31 (ninS ne61 (ninS ne79 (ninS ne85 nin0))))
    have F675 := F50.keep K670
    have F676 := G45_7.keep K670 (ninS (Ne.symm ne56) (ninS U45_0 (ninS U45_3 (ninS U45_4 nin0))))
    have F677 := G45_9.keep K670 (ninS (Ne.symm ne68) (ninS (Ne.symm U45_5) (ninS U45_10 (ninS U45_11 nin0))))
    have F678 := G45_10.keep K670 (ninS (Ne.symm ne74) (ninS (Ne.symm U45_6) (ninS U45_12 (ninS U45_13 nin0))))
    have F679 := G45_13.keep K670
    have F680 := G45_14.keep K670
    have F681 := G45_15.keep K670
    have Z682 : n0 ≤ h670.size := Nat.le_trans Z51 K670.1
    show Own.Go p e below s n0 _ _ _ (T670.setTop (mkF m 96 _ []))
    clear F46 F47 F48 F49 F50 G45_0 G45_1 G45_10 G45_11 G45_12 G45_13 G45_14 G45_15 G45_2 G45_3 G45_4 G45_5 G45_6 G45_7 G45_8 G45_9 X45
    refine Own.aload X670 at_96 rfl rfl ?_
    refine Own.aload X670 at_98 rfl rfl ?_
    refine Own.iload X670 at_100 rfl ?_
    obtain ⟨d102, e_d102⟩ : ∃ v, FP.i2d v1 = v := ⟨_, rfl⟩
    obtain ⟨f_d102, z_d102⟩ := Own.i2d_v e_d102
    have n_d102 := f_d102.noNaN
    refine Own.i2d X670 at_102 e_d102 ?_
    refine Own.callV_ (y := mn_4) (z := mn_4) (a := pop) X670 at_103 (Own.wd hw 29 rfl) (Own.wd hw 30 rfl) (Own.wd hw 32 rfl) (Own.wd hw 31 rfl) rfl (Own.wd hw 12 rfl) (Own.wd hw 33 rfl) (by decide) F675 (rm5_10000 l Z a0 hw pop sa_36_4 d102 pl_81_45 oa_81_45 na_81_45 x0_81_45 x1_81_45 x2_81_45 k_pl_81_45 c_pl_81_45 k_oa_81_45 k_na_81_45 d92 0 0 (0 : Int64) (0 : Int64) (0 : Int64) ((0 : Int64) + (1 : Int64)) k_sa_36_4 (i2 >>> ((1 : Int32) &&& 31)) ((i2 >>> ((1 : Int32) &&& 31)) + (1073741824 : Int32)) (0 : Int32) (0 : Int32) h670 n0 Z682 F675 G670_0 G670_1 G670_2 G670_3 G670_4 G670_5 G670_6 F676 F677 G670_8 G670_9 F672 ne56 ne80 ne86 ne62 ne68 ne74 U45_3 U45_4 U45_0 U45_1 U45_2 U45_14 (Ne.symm U45_7) (Ne.symm U45_10) (Ne.symm U45_12) (Ne.symm U45_8) (Ne.symm U45_11) (Ne.symm U45_13) U45_5 U45_6 U45_9 ne29 ne53 ne77 ne83 ne59 ne65 ne71 fr32 fr63 fr69 fr75 fr81 fr87 n_d102 n_d92 (by rw [z_d102, z_d92]; exact Own.U_le.mpr (by omega)) (by rw [z_d92, z_d102]; exact Own.U_le.mpr (by omega))) (lenOf pd_17 rfl) rfl (argsL := [.ref sa_36_4, .double d102]) (rest := []) rfl (W := 0) (Nat.le_of_eq rfl) (by decide) (by decide) (by decide) (by decide) fun T683 h683 v683 X683 q683 => ?_
    obtain ⟨rfl, K683, G683_0, G683_1, G683_2, G683_3, G683_4, G683_5, G683_6, G683_7, G683_8, G683_9⟩ := q683
    have F684 := F671.keep K683 (ninS ne28 (ninS ne64 (ninS ne76 (ninS ne82 nin0))))
    have F685 := F672.keep K683 (ninS ne29 (ninS ne65 (ninS ne77 (ninS ne83 nin0))))
    have F686 := F673.keep K683 (ninS ne30 (ninS ne66 (ninS ne78 (ninS ne84 nin0))))
    have F687 := F674.keep K683 (ninS ne31 (ninS ne67 (ninS ne79 (ninS ne85 nin0))))
    have F688 := F675.keep K683
    have F689 := F676.keep K683 (ninS (Ne.symm ne56) (ninS U45_1 (ninS U45_3 (ninS U45_4 nin0))))
    have F690 := F678.keep K683 (ninS (Ne.symm ne74) (ninS (Ne.symm U45_9) (ninS U45_12 (ninS U45_13 nin0))))
    have F691 := F679.keep K683
    have F692 := F680.keep K683
    have F693 := F681.keep K683
    have F694 := G670_7.keep K683 (ninS (Ne.symm ne62) (ninS U45_5 (ninS U45_7 (ninS U45_8 nin0))))
    have Z695 : n0 ≤ h683.size := Nat.le_trans Z682 K683.1
    show Own.Go p e below s n0 _ _ _ (T683.setTop (mkF m 106 _ []))
    clear F671 F672 F673 F674 F675 F676 F677 F678 F679 F680 F681 G670_0 G670_1 G670_2 G670_3 G670_4 G670_5 G670_6 G670_7 G670_8 G670_9 X670
    refine Own.aload X683 at_106 rfl rfl ?_
    refine Own.aload X683 at_108 rfl rfl ?_
    refine Own.iload X683 at_110 rfl ?_
    obtain ⟨d112, e_d112⟩ : ∃ v, FP.i2d v2 = v := ⟨_, rfl⟩
    obtain ⟨f_d112, z_d112⟩ := Own.i2d_v e_d112
    have n_d112 := f_d112.noNaN
    refine Own.i2d X683 at_112 e_d112 ?_
    refine Own.callV_ (y := mn_4) (z := mn_4) (a := pop) X683 at_113 (Own.wd hw 29 rfl) (Own.wd hw 30 rfl) (Own.wd hw 32 rfl) (Own.wd hw 31 rfl) rfl (Own.wd hw 12 rfl) (Own.wd hw 33 rfl) (by decide) F688 (rm5_20020 l Z a0 hw pop sa_42_9 d112 pl_81_45 oa_81_45 na_81_45 x0_81_45 x1_81_45 x2_81_45 k_pl_81_45 c_pl_81_45 k_oa_81_45 k_na_81_45 d92 d102 0 (0 : Int64) ((0 : Int64) + (1 : Int64)) (0 : Int64) (((0 : Int64) + (1 : Int64)) + (1 : Int64)) k_sa_42_9 (i3 >>> ((1 : Int32) &&& 31)) ((i3 >>> ((1 : Int32) &&& 31)) + (1073741824 : Int32)) (0 : Int32) (0 : Int32) h683 n0 Z695 F688 G683_0 G683_1 G683_2 G683_3 G683_4 G683_5 G683_6 F689 F690 G683_8 G683_9 F686 ne56 ne80 ne86 ne62 ne68 ne74 U45_3 U45_4 U45_0 U45_1 U45_2 U45_14 (Ne.symm U45_7) (Ne.symm U45_10) (Ne.symm U45_12) (Ne.symm U45_8) (Ne.symm U45_11) (Ne.symm U45_13) U45_5 U45_6 U45_9 ne30 ne54 ne78 ne84 ne60 ne66 ne72 fr32 fr63 fr69 fr75 fr81 fr87 n_d112 n_d92 (by rw [z_d92, z_d112]; exact Own.U_lt.mpr (by omega)) (by rw [z_d92, z_d112]; exact Own.U_le.mpr (by omega))) (lenOf pd_17 rfl) rfl (argsL := [.ref sa_42_9, .double d112]) (rest := []) rfl (W := 0) (Nat.le_of_eq rfl) (by decide) (by decide) (by decide) (by decide) fun T696 h696 v696 X696 q696 => ?_
    obtain ⟨rfl, K696, G696_0, G696_1, G696_2, G696_3, G696_4, G696_5, G696_6, G696_7, G696_8, G696_9⟩ := q696
    have F697 := F684.keep K696 (ninS ne28 (ninS ne70 (ninS ne76 (ninS ne82 nin0))))
    have F698 := F685.keep K696 (ninS ne29 (ninS ne71 (ninS ne77 (ninS ne83 nin0))))
    have F699 := F686.keep K696 (ninS ne30 (ninS ne72 (ninS ne78 (ninS ne84 nin0))))
    have F700 := F687.keep K696 (ninS ne31 (ninS ne73 (ninS ne79 (ninS ne85 nin0))))
    have F701 := F688.keep K696
    have F702 := F689.keep K696 (ninS (Ne.symm ne56) (ninS U45_2 (ninS U45_3 (ninS U45_4 nin0))))
    have F703 := F691.keep K696
    have F704 := F692.keep K696
    have F705 := F693.keep K696
    have F706 := F694.keep K696 (ninS (Ne.symm ne62) (ninS U45_6 (ninS U45_7 (ninS U45_8 nin0))))
    have F707 := G683_7.keep K696 (ninS (Ne.symm ne68) (ninS U45_9 (ninS U45_10 (ninS U45_11 nin0))))
    have Z708 : n0 ≤ h696.size := Nat.le_trans Z695 K696.1
    show Own.Go p e below s n0 _ _ _ (T696.setTop (mkF m 116 _ []))
    clear F684 F685 F686 F687 F688 F689 F690 F691 F692 F693 F694 G683_0 G683_1 G683_2 G683_3 G683_4 G683_5 G683_6 G683_7 G683_8 G683_9 X683
    refine Own.iconst X696 (v := 0) at_116 rfl ?_
    refine Own.istore X696 at_117 (l' := #[.val (.int i0), .val (.int i1), .val (.int i2), .val (.int i3), .val (.int i4), .val (.int v0), .val (.int v1), .val (.int v2), .val (.ref sa_30_1), .val (.ref sa_36_4), .val (.ref sa_42_9), .val (.ref sa_49_16), .val (.int mn), .val (.double d72), .second, .val (.ref pop), .val (.int (0 : Int32)), .unset, .unset, .unset, .unset, .unset, .unset, .unset, .unset, .unset, .unset, .unset]) rfl ?_
    refine Own.iload X696 at_119 rfl ?_
    refine Own.istore X696 at_121 (l' := #[.val (.int i0), .val (.int i1), .val (.int i2), .val (.int i3), .val (.int i4), .val (.int v0), .val (.int v1), .val (.int v2), .val (.ref sa_30_1), .val (.ref sa_36_4), .val (.ref sa_42_9), .val (.ref sa_49_16), .val (.int mn), .val (.double d72), .second, .val (.ref pop), .val (.int (0 : Int32)), .val (.int v0), .unset, .unset, .unset, .unset, .unset, .unset, .unset, .unset, .unset, .unset]) rfl ?_
    refine Own.iload X696 at_123 rfl ?_
    refine Own.iload X696 at_125 rfl ?_
    refine Own.icmp_ X696 (pc' := 137) at_127 (by decide) (fun _ => ?_) (fun q => absurd (show v0.toInt ≤ v1.toInt from by omega) q)
    refine Own.iload X696 at_137 rfl ?_
    refine Own.iload X696 at_139 rfl ?_
    refine Own.icmp_ X696 (pc' := 151) at_141 (by decide) (fun _ => ?_) (fun q => absurd (show v0.toInt ≤ v2.toInt from by omega) q)
    refine Own.iconst X696 (v := 0) at_151 rfl ?_
    refine Own.istore X696 at_152 (l' := #[.val (.int i0), .val (.int i1), .val (.int i2), .val (.int i3), .val (.int i4), .val (.int v0), .val (.int v1), .val (.int v2), .val (.ref sa_30_1), .val (.ref sa_36_4), .val (.ref sa_42_9), .val (.ref sa_49_16), .val (.int mn), .val (.double d72), .second, .val (.ref pop), .val (.int (0 : Int32)), .val (.int v0), .val (.int (0 : Int32)), .unset, .unset, .unset, .unset, .unset, .unset, .unset, .unset, .unset]) rfl ?_
    refine Own.iload X696 at_154 rfl ?_
    refine Own.istore X696 at_156 (l' := #[.val (.int i0), .val (.int i1), .val (.int i2), .val (.int i3), .val (.int i4), .val (.int v0), .val (.int v1), .val (.int v2), .val (.ref sa_30_1), .val (.ref sa_36_4), .val (.ref sa_42_9), .val (.ref sa_49_16), .val (.int mn), .val (.double d72), .second, .val (.ref pop), .val (.int (0 : Int32)), .val (.int v0), .val (.int (0 : Int32)), .val (.int v0), .unset, .unset, .unset, .unset, .unset, .unset, .unset, .unset]) rfl ?_
    refine Own.iload X696 at_158 rfl ?_
    refine Own.iload X696 at_160 rfl ?_
    refine Own.icmp_ X696 (pc' := 172) at_162 (by decide) (fun _ => ?_) (fun q => absurd (show v1.toInt ≤ v0.toInt from by omega) q)
    refine Own.iload X696 at_172 rfl ?_
    refine Own.iload X696 at_174 rfl ?_
    refine Own.icmp_ X696 (pc' := 186) at_176 (by decide) (fun q => absurd (show v2.toInt ≤ v0.toInt from q) (show ¬ (v2.toInt ≤ v0.toInt) from by omega)) (fun _ => ?_)
    refine Own.iconst X696 (v := 2) at_179 rfl ?_
    refine Own.istore X696 at_180 (l' := #[.val (.int i0), .val (.int i1), .val (.int i2), .val (.int i3), .val (.int i4), .val (.int v0), .val (.int v1), .val (.int v2), .val (.ref sa_30_1), .val (.ref sa_36_4), .val (.ref sa_42_9), .val (.ref sa_49_16), .val (.int mn), .val (.double d72), .second, .val (.ref pop), .val (.int (0 : Int32)), .val (.int v0), .val (.int (2 : Int32)), .val (.int v0), .unset, .unset, .unset, .unset, .unset, .unset, .unset, .unset]) rfl ?_
    refine Own.iload X696 at_182 rfl ?_
    refine Own.istore X696 at_184 (l' := #[.val (.int i0), .val (.int i1), .val (.int i2), .val (.int i3), .val (.int i4), .val (.int v0), .val (.int v1), .val (.int v2), .val (.ref sa_30_1), .val (.ref sa_36_4), .val (.ref sa_42_9), .val (.ref sa_49_16), .val (.int mn), .val (.double d72), .second, .val (.ref pop), .val (.int (0 : Int32)), .val (.int v0), .val (.int (2 : Int32)), .val (.int v2), .unset, .unset, .unset, .unset, .unset, .unset, .unset, .unset]) rfl ?_
    refine Own.iload X696 at_186 rfl ?_
    refine Own.iff_ X696 (pc' := 195) at_188 (by decide) (fun q => absurd (show ¬ ((0 : Int) = (0 : Int)) from q) (show ¬ (¬ ((0 : Int) = (0 : Int))) from fun z => z (by decide))) (fun _ => ?_)
    refine Own.iloadN X696 at_191 rfl ?_
    refine Own.goto_ X696 (pc' := 206) at_192 (by decide) ?_
    refine Own.istore X696 at_206 (l' := #[.val (.int i0), .val (.int i1), .val (.int i2), .val (.int i3), .val (.int i4), .val (.int v0), .val (.int v1), .val (.int v2), .val (.ref sa_30_1), .val (.ref sa_36_4), .val (.ref sa_42_9), .val (.ref sa_49_16), .val (.int mn), .val (.double d72), .second, .val (.ref pop), .val (.int (0 : Int32)), .val (.int v0), .val (.int (2 : Int32)), .val (.int v2), .val (.int i1), .unset, .unset, .unset, .unset, .unset, .unset, .unset]) rfl ?_
    refine Own.aload X696 at_208 rfl rfl ?_
    refine Own.callV_ (y := mn_5) (z := mn_5) (a := pop) X696 at_210 (Own.wd hw 50 rfl) (Own.wd hw 51 rfl) (Own.wd hw 53 rfl) (Own.wd hw 52 rfl) rfl (Own.wd hw 12 rfl) (Own.wd hw 54 rfl) (by decide) F701 (rm7 l Z a0 hw pop (3 : Int32) h696 n0 Z708 G696_3 ) (lenOf pd_18 rfl) rfl (argsL := []) (rest := []) rfl (W := 0) (Nat.le_of_eq rfl) (by decide) (by decide) (by decide) (by decide) fun T709 h709 v709 X709 q709 => ?_
    obtain ⟨rfl, rfl⟩ := q709
    show Own.Go p e below s n0 _ _ _ (T709.setTop (mkF m 213 _ [.int (3 : Int32)]))
    clear X696
    refine Own.iconst X709 (v := 3) at_213 rfl ?_
    refine Own.icmp_ X709 (pc' := 221) at_214 (by decide) (fun q => absurd (show ¬ ((3 : Int) = (3 : Int)) from q) (show ¬ (¬ ((3 : Int) = (3 : Int))) from fun z => z (by decide))) (fun _ => ?_)
    refine Own.iconst X709 (v := 1) at_217 rfl ?_
    refine Own.goto_ X709 (pc' := 222) at_218 (by decide) ?_
    refine Own.istore X709 at_222 (l' := #[.val (.int i0), .val (.int i1), .val (.int i2), .val (.int i3), .val (.int i4), .val (.int v0), .val (.int v1), .val (.int v2), .val (.ref sa_30_1), .val (.ref sa_36_4), .val (.ref sa_42_9), .val (.ref sa_49_16), .val (.int mn), .val (.double d72), .second, .val (.ref pop), .val (.int (0 : Int32)), .val (.int v0), .val (.int (2 : Int32)), .val (.int v2), .val (.int i1), .val (.int (1 : Int32)), .unset, .unset, .unset, .unset, .unset, .unset]) rfl ?_
    refine Own.aload X709 at_224 rfl rfl ?_
    refine Own.callV_ (y := mn_6) (z := mn_6) (a := pop) X709 at_226 (Own.wd hw 55 rfl) (Own.wd hw 56 rfl) (Own.wd hw 58 rfl) (Own.wd hw 57 rfl) rfl (Own.wd hw 12 rfl) (Own.wd hw 59 rfl) (by decide) F701 (rm8_0 l Z a0 hw pop oa_81_45 k_oa_81_45 d92 d102 d112 h696 n0 Z708 G696_1 G696_6 G696_8 ) (lenOf pd_19 rfl) rfl (argsL := []) (rest := []) rfl (W := 0) (Nat.le_of_eq rfl) (by decide) (by decide) (by decide) (by decide) fun T710 h710 v710 X710 q710 => ?_
    obtain ⟨rfl, rfl⟩ := q710
    show Own.Go p e below s n0 _ _ _ (T710.setTop (mkF m 229 _ [.double d92]))
    clear X709
    refine Own.iload X710 at_229 rfl ?_
    obtain ⟨d231, e_d231⟩ : ∃ v, FP.i2d v0 = v := ⟨_, rfl⟩
    obtain ⟨f_d231, z_d231⟩ := Own.i2d_v e_d231
    have n_d231 := f_d231.noNaN
    refine Own.i2d X710 at_231 e_d231 ?_
    refine Own.dcmpF X710 (pc' := 240) at_232 at_233 (by decide) n_d92 n_d231 (fun q => absurd (show ¬ (Own.dz d92 = Own.dz d231) from q) (show ¬ (¬ (Own.dz d92 = Own.dz d231)) from fun z => z (by rw [z_d92, z_d231]))) (fun _ => ?_)
    refine Own.iconst X710 (v := 1) at_236 rfl ?_
    refine Own.goto_ X710 (pc' := 241) at_237 (by decide) ?_
    refine Own.istore X710 at_241 (l' := #[.val (.int i0), .val (.int i1), .val (.int i2), .val (.int i3), .val (.int i4), .val (.int v0), .val (.int v1), .val (.int v2), .val (.ref sa_30_1), .val (.ref sa_36_4), .val (.ref sa_42_9), .val (.ref sa_49_16), .val (.int mn), .val (.double d72), .second, .val (.ref pop), .val (.int (0 : Int32)), .val (.int v0), .val (.int (2 : Int32)), .val (.int v2), .val (.int i1), .val (.int (1 : Int32)), .val (.int (1 : Int32)), .unset, .unset, .unset, .unset, .unset]) rfl ?_
    refine Own.aload X710 at_243 rfl rfl ?_
    refine Own.callV_ (y := mn_7) (z := mn_7) (a := pop) X710 at_245 (Own.wd hw 60 rfl) (Own.wd hw 61 rfl) (Own.wd hw 63 rfl) (Own.wd hw 62 rfl) rfl (Own.wd hw 12 rfl) (Own.wd hw 64 rfl) (by decide) F701 (rm9_0 l Z a0 hw pop pl_81_45 x0_81_45 x1_81_45 x2_81_45 k_pl_81_45 c_pl_81_45 (i1 >>> ((1 : Int32) &&& 31)) ((i1 >>> ((1 : Int32) &&& 31)) + (1073741824 : Int32)) h696 n0 Z708 G696_0 G696_6 F702 F706 F703 ) (lenOf pd_20 rfl) rfl (argsL := []) (rest := []) rfl (W := 0) (Nat.le_of_eq rfl) (by decide) (by decide) (by decide) (by decide) fun T711 h711 v711 X711 q711 => ?_
    obtain ⟨cl_245_711, rfl, K711, B711_0, G711_0⟩ := q711
    have F712 := F697.keep K711 nin0
    have F713 := F698.keep K711 nin0
    have F714 := F699.keep K711 nin0
    have F715 := F700.keep K711 nin0
    have F716 := F701.keep K711
    have F717 := F702.keep K711 nin0
    have F718 := F703.keep K711
    have F719 := F704.keep K711
    have F720 := F705.keep K711
    have F721 := F706.keep K711 nin0
    have F722 := F707.keep K711 nin0
    have F723 := G696_0.keep K711 nin0
    have F724 := G696_1.keep K711 nin0
    have F725 := G696_2.keep K711 nin0
    have F726 := G696_3.keep K711 nin0
    have F727 := G696_4.keep K711 nin0
    have F728 := G696_5.keep K711 nin0
    have F729 := G696_6.keep K711 nin0
    have F730 := G696_7.keep K711 nin0
    have F731 := G696_8.keep K711 nin0
    have F732 := G696_9.keep K711 nin0
    have Z733 : n0 ≤ h711.size := Nat.le_trans Z708 K711.1
    have ne734 : sa_30_1 ≠ cl_245_711 := Nat.ne_of_lt (Nat.lt_of_lt_of_le F697.lt B711_0)
    have ne735 : sa_36_4 ≠ cl_245_711 := Nat.ne_of_lt (Nat.lt_of_lt_of_le F698.lt B711_0)
    have ne736 : sa_42_9 ≠ cl_245_711 := Nat.ne_of_lt (Nat.lt_of_lt_of_le F699.lt B711_0)
    have ne737 : sa_49_16 ≠ cl_245_711 := Nat.ne_of_lt (Nat.lt_of_lt_of_le F700.lt B711_0)
    have ne738 : pop ≠ cl_245_711 := Nat.ne_of_lt (Nat.lt_of_lt_of_le F701.lt B711_0)
    have ne739 : pl_81_45 ≠ cl_245_711 := Nat.ne_of_lt (Nat.lt_of_lt_of_le F702.lt B711_0)
    have ne740 : x0_81_45 ≠ cl_245_711 := Nat.ne_of_lt (Nat.lt_of_lt_of_le F703.lt B711_0)
    have ne741 : x1_81_45 ≠ cl_245_711 := Nat.ne_of_lt (Nat.lt_of_lt_of_le F704.lt B711_0)
    have ne742 : x2_81_45 ≠ cl_245_711 := Nat.ne_of_lt (Nat.lt_of_lt_of_le F705.lt B711_0)
    have ne743 : oa_81_45 ≠ cl_245_711 := Nat.ne_of_lt (Nat.lt_of_lt_of_le G696_8.lt B711_0)
    have ne744 : na_81_45 ≠ cl_245_711 := Nat.ne_of_lt (Nat.lt_of_lt_of_le G696_9.lt B711_0)
    have fr745 : n0 ≤ cl_245_711 := Nat.le_trans Z708 B711_0
    show Own.Go p e below s n0 _ _ _ (T711.setTop (mkF m 248 _ [.ref cl_245_711]))
    clear F697 F698 F699 F700 F701 F702 F703 F704 F705 F706 F707 G696_0 G696_1 G696_2 G696_3 G696_4 G696_5 G696_6 G696_7 G696_8 G696_9 X710
    refine Own.iload X711 at_248 rfl ?_
    refine Own.callS_ (y := mn_13) X711 at_250 (Own.wd hw 74 rfl) (Own.wd hw 75 rfl) (Own.wd hw 2 rfl) (Own.wd hw 76 rfl) (by decide) (rm10 l Z a0 hw cl_245_711 i1 c_pl_81_45 (i1 >>> ((1 : Int32) &&& 31)) ((i1 >>> ((1 : Int32) &&& 31)) + (1073741824 : Int32)) h711 n0 Z733 G711_0 rfl rfl) (lenOf pd_21 rfl) rfl (argsL := [.ref cl_245_711, .int i1]) (rest := []) rfl (W := 0) (Nat.le_of_eq rfl) (by decide) (by decide) (by decide) (by decide) fun T746 h746 v746 X746 q746 => ?_
    obtain ⟨rfl, rfl⟩ := q746
    show Own.Go p e below s n0 _ _ _ (T746.setTop (mkF m 253 _ [.int (1 : Int32)]))
    clear X711
    refine Own.istore X746 at_253 (l' := #[.val (.int i0), .val (.int i1), .val (.int i2), .val (.int i3), .val (.int i4), .val (.int v0), .val (.int v1), .val (.int v2), .val (.ref sa_30_1), .val (.ref sa_36_4), .val (.ref sa_42_9), .val (.ref sa_49_16), .val (.int mn), .val (.double d72), .second, .val (.ref pop), .val (.int (0 : Int32)), .val (.int v0), .val (.int (2 : Int32)), .val (.int v2), .val (.int i1), .val (.int (1 : Int32)), .val (.int (1 : Int32)), .val (.int (1 : Int32)), .unset, .unset, .unset, .unset]) rfl ?_
    refine Own.aload X746 at_255 rfl rfl ?_
    refine Own.aload X746 at_257 rfl rfl ?_
    refine Own.dload X746 at_259 rfl ?_
    refine Own.callV_ (y := mn_11) (z := mn_11) (a := pop) X746 at_261 (Own.wd hw 77 rfl) (Own.wd hw 78 rfl) (Own.wd hw 80 rfl) (Own.wd hw 79 rfl) rfl (Own.wd hw 12 rfl) (Own.wd hw 81 rfl) (by decide) F716 (rm11_2N l Z a0 hw pop sa_49_16 d72 pl_81_45 oa_81_45 na_81_45 x0_81_45 x1_81_45 x2_81_45 k_pl_81_45 c_pl_81_45 k_oa_81_45 k_na_81_45 d92 d102 d112 (0 : Int64) ((0 : Int64) + (1 : Int64)) (((0 : Int64) + (1 : Int64)) + (1 : Int64)) ((((0 : Int64) + (1 : Int64)) + (1 : Int64)) + (1 : Int64)) k_sa_49_16 (i4 >>> ((1 : Int32) &&& 31)) ((i4 >>> ((1 : Int32) &&& 31)) + (1073741824 : Int32)) (0 : Int32) (i3 >>> ((1 : Int32) &&& 31)) ((i3 >>> ((1 : Int32) &&& 31)) + (1073741824 : Int32)) h711 n0 Z733 F716 F723 F724 F725 F726 F727 F728 F729 F717 F730 F731 F732 F715 ne56 ne80 ne86 ne62 ne68 ne74 U45_3 U45_4 U45_0 U45_1 U45_2 U45_14 (Ne.symm U45_7) (Ne.symm U45_10) (Ne.symm U45_12) (Ne.symm U45_8) (Ne.symm U45_11) (Ne.symm U45_13) U45_5 U45_6 U45_9 ne31 ne55 ne79 ne85 ne61 ne67 ne73 fr32 fr63 fr69 fr75 fr81 fr87 n_d72 n_d92 n_d102 n_d112 (by rw [z_d72, z_d92]; exact Own.U_lt.mpr (by omega)) (by rw [z_d72, z_d102]; exact Own.U_lt.mpr (by omega)) (by rw [z_d72, z_d112]; exact Own.U_lt.mpr (by omega)) d92 (by decide) rfl n_d92 (by rw [z_d72, z_d92]; exact Own.U_lt.mpr (by omega))) (lenOf pd_10 rfl) rfl (argsL := [.ref sa_49_16, .double d72]) (rest := []) rfl (W := 0) (Nat.le_of_eq rfl) (by decide) (by decide) (by decide) (by decide) fun T747 h747 v747 X747 q747 => ?_
    obtain ⟨rfl, K747, G747_0, G747_1, G747_2⟩ := q747
    have F748 := F712.keep K747 (ninS ne28 (ninS ne70 (ninS ne76 (ninS ne82 nin0))))
    have F749 := F713.keep K747 (ninS ne29 (ninS ne71 (ninS ne77 (ninS ne83 nin0))))
    have F750 := F714.keep K747 (ninS ne30 (ninS ne72 (ninS ne78 (ninS ne84 nin0))))
    have F751 := F715.keep K747 (ninS ne31 (ninS ne73 (ninS ne79 (ninS ne85 nin0))))
    have F752 := F716.keep K747
    have F753 := F717.keep K747 (ninS (Ne.symm ne56) (ninS U45_2 (ninS U45_3 (ninS U45_4 nin0))))
    have F754 := F718.keep K747
    have F755 := F719.keep K747
    have F756 := F720.keep K747
    have F757 := F721.keep K747 (ninS (Ne.symm ne62) (ninS U45_6 (ninS U45_7 (ninS U45_8 nin0))))
    have F758 := F722.keep K747 (ninS (Ne.symm ne68) (ninS U45_9 (ninS U45_10 (ninS U45_11 nin0))))
    have F759 := G711_0.keep K747 (ninS (Ne.symm ne738) (ninS (Ne.symm ne742) (ninS (Ne.symm ne743) (ninS (Ne.symm ne744) nin0))))
    have Z760 : n0 ≤ h747.size := Nat.le_trans Z733 K747.1
    show Own.Go p e below s n0 _ _ _ (T747.setTop (mkF m 264 _ [.int (1 : Int32)]))
    clear F712 F713 F714 F715 F716 F717 F718 F719 F720 F721 F722 F723 F724 F725 F726 F727 F728 F729 F730 F731 F732 G711_0 X746
    refine Own.istore X747 at_264 (l' := #[.val (.int i0), .val (.int i1), .val (.int i2), .val (.int i3), .val (.int i4), .val (.int v0), .val (.int v1), .val (.int v2), .val (.ref sa_30_1), .val (.ref sa_36_4), .val (.ref sa_42_9), .val (.ref sa_49_16), .val (.int mn), .val (.double d72), .second, .val (.ref pop), .val (.int (0 : Int32)), .val (.int v0), .val (.int (2 : Int32)), .val (.int v2), .val (.int i1), .val (.int (1 : Int32)), .val (.int (1 : Int32)), .val (.int (1 : Int32)), .val (.int (1 : Int32)), .unset, .unset, .unset]) rfl ?_
    refine Own.aload X747 at_266 rfl rfl ?_
    refine Own.iconst X747 (v := 0) at_268 rfl ?_
    refine Own.callV_ (y := mn_8) (z := mn_8) (a := pop) X747 at_269 (Own.wd hw 86 rfl) (Own.wd hw 87 rfl) (Own.wd hw 89 rfl) (Own.wd hw 88 rfl) rfl (Own.wd hw 12 rfl) (Own.wd hw 90 rfl) (by decide) F752 (rm13_0 l Z a0 hw pop pl_81_45 x0_81_45 x1_81_45 x2_81_45 k_pl_81_45 h747 n0 Z760 G747_0 F753 ) (lenOf pd_14 rfl) rfl (argsL := [.int (0 : Int32)]) (rest := []) rfl (W := 0) (Nat.le_of_eq rfl) (by decide) (by decide) (by decide) (by decide) fun T761 h761 v761 X761 q761 => ?_
    obtain ⟨rfl, rfl⟩ := q761
    show Own.Go p e below s n0 _ _ _ (T761.setTop (mkF m 272 _ [.ref x0_81_45]))
    clear X747
    refine Own.iload X761 at_272 rfl ?_
    refine Own.iff_ X761 (pc' := 282) at_274 (by decide) (fun _ => ?_) (fun q => absurd (show ¬ ((2 : Int) = (0 : Int)) from by decide) q)
    refine Own.iloadN X761 at_282 rfl ?_
    refine Own.callS_ (y := mn_13) X761 at_283 (Own.wd hw 74 rfl) (Own.wd hw 75 rfl) (Own.wd hw 2 rfl) (Own.wd hw 76 rfl) (by decide) (rm10 l Z a0 hw x0_81_45 i1 c_pl_81_45 (i1 >>> ((1 : Int32) &&& 31)) ((i1 >>> ((1 : Int32) &&& 31)) + (1073741824 : Int32)) h747 n0 Z760 F757 rfl rfl) (lenOf pd_21 rfl) rfl (argsL := [.ref x0_81_45, .int i1]) (rest := []) rfl (W := 0) (Nat.le_of_eq rfl) (by decide) (by decide) (by decide) (by decide) fun T762 h762 v762 X762 q762 => ?_
    obtain ⟨rfl, rfl⟩ := q762
    show Own.Go p e below s n0 _ _ _ (T762.setTop (mkF m 286 _ [.int (1 : Int32)]))
    clear X761
    refine Own.istore X762 at_286 (l' := #[.val (.int i0), .val (.int i1), .val (.int i2), .val (.int i3), .val (.int i4), .val (.int v0), .val (.int v1), .val (.int v2), .val (.ref sa_30_1), .val (.ref sa_36_4), .val (.ref sa_42_9), .val (.ref sa_49_16), .val (.int mn), .val (.double d72), .second, .val (.ref pop), .val (.int (0 : Int32)), .val (.int v0), .val (.int (2 : Int32)), .val (.int v2), .val (.int i1), .val (.int (1 : Int32)), .val (.int (1 : Int32)), .val (.int (1 : Int32)), .val (.int (1 : Int32)), .val (.int (1 : Int32)), .unset, .unset]) rfl ?_
    refine Own.aload X762 at_288 rfl rfl ?_
    refine Own.iconst X762 (v := 1) at_290 rfl ?_
    refine Own.callV_ (y := mn_8) (z := mn_8) (a := pop) X762 at_291 (Own.wd hw 86 rfl) (Own.wd hw 87 rfl) (Own.wd hw 89 rfl) (Own.wd hw 88 rfl) rfl (Own.wd hw 12 rfl) (Own.wd hw 90 rfl) (by decide) F752 (rm13_1 l Z a0 hw pop pl_81_45 x0_81_45 x1_81_45 x2_81_45 k_pl_81_45 h747 n0 Z760 G747_0 F753 ) (lenOf pd_14 rfl) rfl (argsL := [.int (1 : Int32)]) (rest := []) rfl (W := 0) (Nat.le_of_eq rfl) (by decide) (by decide) (by decide) (by decide) fun T763 h763 v763 X763 q763 => ?_
    obtain ⟨rfl, rfl⟩ := q763
    show Own.Go p e below s n0 _ _ _ (T763.setTop (mkF m 294 _ [.ref x1_81_45]))
    clear X762
    refine Own.iload X763 at_294 rfl ?_
    refine Own.iconst X763 (v := 1) at_296 rfl ?_
    refine Own.icmp_ X763 (pc' := 305) at_297 (by decide) (fun _ => ?_) (fun q => absurd (show ¬ ((2 : Int) = (1 : Int)) from by decide) q)
    refine Own.iloadN X763 at_305 rfl ?_
    refine Own.callS_ (y := mn_13) X763 at_306 (Own.wd hw 74 rfl) (Own.wd hw 75 rfl) (Own.wd hw 2 rfl) (Own.wd hw 76 rfl) (by decide) (rm10 l Z a0 hw x1_81_45 i2 c_pl_81_45 (i2 >>> ((1 : Int32) &&& 31)) ((i2 >>> ((1 : Int32) &&& 31)) + (1073741824 : Int32)) h747 n0 Z760 F758 rfl rfl) (lenOf pd_21 rfl) rfl (argsL := [.ref x1_81_45, .int i2]) (rest := []) rfl (W := 0) (Nat.le_of_eq rfl) (by decide) (by decide) (by decide) (by decide) fun T764 h764 v764 X764 q764 => ?_
    obtain ⟨rfl, rfl⟩ := q764
    show Own.Go p e below s n0 _ _ _ (T764.setTop (mkF m 309 _ [.int (1 : Int32)]))
    clear X763
    refine Own.istore X764 at_309 (l' := #[.val (.int i0), .val (.int i1), .val (.int i2), .val (.int i3), .val (.int i4), .val (.int v0), .val (.int v1), .val (.int v2), .val (.ref sa_30_1), .val (.ref sa_36_4), .val (.ref sa_42_9), .val (.ref sa_49_16), .val (.int mn), .val (.double d72), .second, .val (.ref pop), .val (.int (0 : Int32)), .val (.int v0), .val (.int (2 : Int32)), .val (.int v2), .val (.int i1), .val (.int (1 : Int32)), .val (.int (1 : Int32)), .val (.int (1 : Int32)), .val (.int (1 : Int32)), .val (.int (1 : Int32)), .val (.int (1 : Int32)), .unset]) rfl ?_
    refine Own.aload X764 at_311 rfl rfl ?_
    refine Own.iconst X764 (v := 2) at_313 rfl ?_
    refine Own.callV_ (y := mn_8) (z := mn_8) (a := pop) X764 at_314 (Own.wd hw 86 rfl) (Own.wd hw 87 rfl) (Own.wd hw 89 rfl) (Own.wd hw 88 rfl) rfl (Own.wd hw 12 rfl) (Own.wd hw 90 rfl) (by decide) F752 (rm13_2 l Z a0 hw pop pl_81_45 x0_81_45 x1_81_45 x2_81_45 k_pl_81_45 h747 n0 Z760 G747_0 F753 ) (lenOf pd_14 rfl) rfl (argsL := [.int (2 : Int32)]) (rest := []) rfl (W := 0) (Nat.le_of_eq rfl) (by decide) (by decide) (by decide) (by decide) fun T765 h765 v765 X765 q765 => ?_
    obtain ⟨rfl, rfl⟩ := q765
    show Own.Go p e below s n0 _ _ _ (T765.setTop (mkF m 317 _ [.ref x2_81_45]))
    clear X764
    refine Own.iload X765 at_317 rfl ?_
    refine Own.iconst X765 (v := 2) at_319 rfl ?_
    refine Own.icmp_ X765 (pc' := 328) at_320 (by decide) (fun q => absurd (show ¬ ((2 : Int) = (2 : Int)) from q) (show ¬ (¬ ((2 : Int) = (2 : Int))) from fun z => z (by decide))) (fun _ => ?_)
    refine Own.iload X765 at_323 rfl ?_
    refine Own.goto_ X765 (pc' := 329) at_325 (by decide) ?_
    refine Own.callS_ (y := mn_13) X765 at_329 (Own.wd hw 74 rfl) (Own.wd hw 75 rfl) (Own.wd hw 2 rfl) (Own.wd hw 76 rfl) (by decide) (rm10 l Z a0 hw x2_81_45 i4 c_pl_81_45 (i4 >>> ((1 : Int32) &&& 31)) ((i4 >>> ((1 : Int32) &&& 31)) + (1073741824 : Int32)) h747 n0 Z760 G747_2 rfl rfl) (lenOf pd_21 rfl) rfl (argsL := [.ref x2_81_45, .int i4]) (rest := []) rfl (W := 0) (Nat.le_of_eq rfl) (by decide) (by decide) (by decide) (by decide) fun T766 h766 v766 X766 q766 => ?_
    obtain ⟨rfl, rfl⟩ := q766
    show Own.Go p e below s n0 _ _ _ (T766.setTop (mkF m 332 _ [.int (1 : Int32)]))
    clear X765
    refine Own.istore X766 at_332 (l' := #[.val (.int i0), .val (.int i1), .val (.int i2), .val (.int i3), .val (.int i4), .val (.int v0), .val (.int v1), .val (.int v2), .val (.ref sa_30_1), .val (.ref sa_36_4), .val (.ref sa_42_9), .val (.ref sa_49_16), .val (.int mn), .val (.double d72), .second, .val (.ref pop), .val (.int (0 : Int32)), .val (.int v0), .val (.int (2 : Int32)), .val (.int v2), .val (.int i1), .val (.int (1 : Int32)), .val (.int (1 : Int32)), .val (.int (1 : Int32)), .val (.int (1 : Int32)), .val (.int (1 : Int32)), .val (.int (1 : Int32)), .val (.int (1 : Int32))]) rfl ?_
    refine Own.iload X766 at_334 rfl ?_
    refine Own.iff_ X766 (pc' := 373) at_336 (by decide) (fun q => absurd (show (1 : Int) = (0 : Int) from q) (show ¬ ((1 : Int) = (0 : Int)) from by decide)) (fun _ => ?_)
    refine Own.iload X766 at_339 rfl ?_
    refine Own.iff_ X766 (pc' := 373) at_341 (by decide) (fun q => absurd (show (1 : Int) = (0 : Int) from q) (show ¬ ((1 : Int) = (0 : Int)) from by decide)) (fun _ => ?_)
    refine Own.iload X766 at_344 rfl ?_
    refine Own.iff_ X766 (pc' := 373) at_346 (by decide) (fun q => absurd (show (1 : Int) = (0 : Int) from q) (show ¬ ((1 : Int) = (0 : Int)) from by decide)) (fun _ => ?_)
    refine Own.iload X766 at_349 rfl ?_
    refine Own.iff_ X766 (pc' := 373) at_351 (by decide) (fun q => absurd (show (1 : Int) = (0 : Int) from q) (show ¬ ((1 : Int) = (0 : Int)) from by decide)) (fun _ => ?_)
    refine Own.iload X766 at_354 rfl ?_
    refine Own.iff_ X766 (pc' := 373) at_356 (by decide) (fun q => absurd (show (1 : Int) = (0 : Int) from q) (show ¬ ((1 : Int) = (0 : Int)) from by decide)) (fun _ => ?_)
    refine Own.iload X766 at_359 rfl ?_
    refine Own.iff_ X766 (pc' := 373) at_361 (by decide) (fun q => absurd (show (1 : Int) = (0 : Int) from q) (show ¬ ((1 : Int) = (0 : Int)) from by decide)) (fun _ => ?_)
    refine Own.iload X766 at_364 rfl ?_
    refine Own.iff_ X766 (pc' := 373) at_366 (by decide) (fun q => absurd (show (1 : Int) = (0 : Int) from q) (show ¬ ((1 : Int) = (0 : Int)) from by decide)) (fun _ => ?_)
    refine Own.iconst X766 (v := 1) at_369 rfl ?_
    refine Own.goto_ X766 (pc' := 374) at_370 (by decide) ?_
    exact Own.retB X766 at_374 (by decide) rfl (by decide) (by decide)
  · refine Own.aload X45 at_86 rfl rfl ?_
    refine Own.aload X45 at_88 rfl rfl ?_
    refine Own.iload X45 at_90 rfl ?_
    obtain ⟨d92, e_d92⟩ : ∃ v, FP.i2d v0 = v := ⟨_, rfl⟩
    obtain ⟨f_d92, z_d92⟩ := Own.i2d_v e_d92
    have n_d92 := f_d92.noNaN
    refine Own.i2d X45 at_92 e_d92 ?_
    refine Own.callV_ (y := mn_4) (z := mn_4) (a := pop) X45 at_93 (Own.wd hw 29 rfl) (Own.wd hw 30 rfl) (Own.wd hw 32 rfl) (Own.wd hw 31 rfl) rfl (Own.wd hw 12 rfl) (Own.wd hw 33 rfl) (by decide) F50 (rm5_00000 l Z a0 hw pop sa_30_1 d92 pl_81_45 oa_81_45 na_81_45 x0_81_45 x1_81_45 x2_81_45 k_pl_81_45 c_pl_81_45 k_oa_81_45 k_na_81_45 0 0 0 (0 : Int64) (0 : Int64) (0 : Int64) (0 : Int64) k_sa_30_1 (i1 >>> ((1 : Int32) &&& 31)) ((i1 >>> ((1 : Int32) &&& 31)) + (1073741824 : Int32)) (0 : Int32) (0 : Int32) h45 n0 Z51 F50 G45_0 G45_1 G45_2 G45_3 G45_4 G45_5 G45_6 G45_7 G45_8 G45_11 G45_12 F46 ne56 ne80 ne86 ne62 ne68 ne74 U45_3 U45_4 U45_0 U45_1 U45_2 U45_14 (Ne.symm U45_7) (Ne.symm U45_10) (Ne.symm U45_12) (Ne.symm U45_8) (Ne.symm U45_11) (Ne.symm U45_13) U45_5 U45_6 U45_9 ne28 ne52 ne76 ne82 ne58 ne64 ne70 fr32 fr63 fr69 fr75 fr81 fr87 n_d92 ) (lenOf pd_17 rfl) rfl (argsL := [.ref sa_30_1, .double d92]) (rest := []) rfl (W := 0) (Nat.le_of_eq rfl) (by decide) (by decide) (by decide) (by decide) fun T767 h767 v767 X767 q767 => ?_
    obtain ⟨rfl, K767, G767_0, G767_1, G767_2, G767_3, G767_4, G767_5, G767_6, G767_7, G767_8, G767_9⟩ := q767
    have F768 := F46.keep K767 (ninS ne28 (ninS ne58 (ninS ne76 (ninS ne82 nin0))))
    have F769 := F47.keep K767 (ninS ne29 (ninS ne59 (ninS ne77 (ninS ne83 nin0))))
    have F770 := F48.keep K767 (ninS ne30 (ninS ne60 (ninS ne78 (ninS ne84 nin0))))
    have F771 := F49.keep K767 (ninS ne31 (ninS ne61 (ninS ne79 (ninS ne85 nin0))))
    have F772 := F50.keep K767
    have F773 := G45_7.keep K767 (ninS (Ne.symm ne56) (ninS U45_0 (ninS U45_3 (ninS U45_4 nin0))))
    have F774 := G45_9.keep K767 (ninS (Ne.symm ne68) (ninS (Ne.symm U45_5) (ninS U45_10 (ninS U45_11 nin0))))
    have F775 := G45_10.keep K767 (ninS (Ne.symm ne74) (ninS (Ne.symm U45_6) (ninS U45_12 (ninS U45_13 nin0))))
    have F776 := G45_13.keep K767
    have F777 := G45_14.keep K767
    have F778 := G45_15.keep K767
    have Z779 : n0 ≤ h767.size := Nat.le_trans Z51 K767.1
    show Own.Go p e below s n0 _ _ _ (T767.setTop (mkF m 96 _ []))
    clear F46 F47 F48 F49 F50 G45_0 G45_1 G45_10 G45_11 G45_12 G45_13 G45_14 G45_15 G45_2 G45_3 G45_4 G45_5 G45_6 G45_7 G45_8 G45_9 X45
    refine Own.aload X767 at_96 rfl rfl ?_
    refine Own.aload X767 at_98 rfl rfl ?_
    refine Own.iload X767 at_100 rfl ?_
    obtain ⟨d102, e_d102⟩ : ∃ v, FP.i2d v1 = v := ⟨_, rfl⟩
    obtain ⟨f_d102, z_d102⟩ := Own.i2d_v e_d102
    have n_d102 := f_d102.noNaN
    refine Own.i2d X767 at_102 e_d102 ?_
    refine Own.callV_ (y := mn_4) (z := mn_4) (a := pop) X767 at_103 (Own.wd hw 29 rfl) (Own.wd hw 30 rfl) (Own.wd hw 32 rfl) (Own.wd hw 31 rfl) rfl (Own.wd hw 12 rfl) (Own.wd hw 33 rfl) (by decide) F772 (rm5_10000 l Z a0 hw pop sa_36_4 d102 pl_81_45 oa_81_45 na_81_45 x0_81_45 x1_81_45 x2_81_45 k_pl_81_45 c_pl_81_45 k_oa_81_45 k_na_81_45 d92 0 0 (0 : Int64) (0 : Int64) (0 : Int64) ((0 : Int64) + (1 : Int64)) k_sa_36_4 (i2 >>> ((1 : Int32) &&& 31)) ((i2 >>> ((1 : Int32) &&& 31)) + (1073741824 : Int32)) (0 : Int32) (0 : Int32) h767 n0 Z779 F772 G767_0 G767_1 G767_2 G767_3 G767_4 G767_5 G767_6 F773 F774 G767_8 G767_9 F769 ne56 ne80 ne86 ne62 ne68 ne74 U45_3 U45_4 U45_0 U45_1 U45_2 U45_14 (Ne.symm U45_7) (Ne.symm U45_10) (Ne.symm U45_12) (Ne.symm U45_8) (Ne.symm U45_11) (Ne.symm U45_13) U45_5 U45_6 U45_9 ne29 ne53 ne77 ne83 ne59 ne65 ne71 fr32 fr63 fr69 fr75 fr81 fr87 n_d102 n_d92 (by rw [z_d102, z_d92]; exact Own.U_le.mpr (by omega)) (by rw [z_d92, z_d102]; exact Own.U_le.mpr (by omega))) (lenOf pd_17 rfl) rfl (argsL := [.ref sa_36_4, .double d102]) (rest := []) rfl (W := 0) (Nat.le_of_eq rfl) (by decide) (by decide) (by decide) (by decide) fun T780 h780 v780 X780 q780 => ?_
    obtain ⟨rfl, K780, G780_0, G780_1, G780_2, G780_3, G780_4, G780_5, G780_6, G780_7, G780_8, G780_9⟩ := q780
    have F781 := F768.keep K780 (ninS ne28 (ninS ne64 (ninS ne76 (ninS ne82 nin0))))
    have F782 := F769.keep K780 (ninS ne29 (ninS ne65 (ninS ne77 (ninS ne83 nin0))))
    have F783 := F770.keep K780 (ninS ne30 (ninS ne66 (ninS ne78 (ninS ne84 nin0))))
    have F784 := F771.keep K780 (ninS ne31 (ninS ne67 (ninS ne79 (ninS ne85 nin0))))
    have F785 := F772.keep K780
    have F786 := F773.keep K780 (ninS (Ne.symm ne56) (ninS U45_1 (ninS U45_3 (ninS U45_4 nin0))))
    have F787 := F775.keep K780 (ninS (Ne.symm ne74) (ninS (Ne.symm U45_9) (ninS U45_12 (ninS U45_13 nin0))))
    have F788 := F776.keep K780
    have F789 := F777.keep K780
    have F790 := F778.keep K780
    have F791 := G767_7.keep K780 (ninS (Ne.symm ne62) (ninS U45_5 (ninS U45_7 (ninS U45_8 nin0))))
    have Z792 : n0 ≤ h780.size := Nat.le_trans Z779 K780.1
    show Own.Go p e below s n0 _ _ _ (T780.setTop (mkF m 106 _ []))
    clear F768 F769 F770 F771 F772 F773 F774 F775 F776 F777 F778 G767_0 G767_1 G767_2 G767_3 G767_4 G767_5 G767_6 G767_7 G767_8 G767_9 X767
    refine Own.aload X780 at_106 rfl rfl ?_
    refine Own.aload X780 at_108 rfl rfl ?_
    refine Own.iload X780 at_110 rfl ?_
    obtain ⟨d112, e_d112⟩ : ∃ v, FP.i2d v2 = v := ⟨_, rfl⟩
    obtain ⟨f_d112, z_d112⟩ := Own.i2d_v e_d112
    have n_d112 := f_d112.noNaN
    refine Own.i2d X780 at_112 e_d112 ?_
    refine Own.callV_ (y := mn_4) (z := mn_4) (a := pop) X780 at_113 (Own.wd hw 29 rfl) (Own.wd hw 30 rfl) (Own.wd hw 32 rfl) (Own.wd hw 31 rfl) rfl (Own.wd hw 12 rfl) (Own.wd hw 33 rfl) (by decide) F785 (rm5_20002 l Z a0 hw pop sa_42_9 d112 pl_81_45 oa_81_45 na_81_45 x0_81_45 x1_81_45 x2_81_45 k_pl_81_45 c_pl_81_45 k_oa_81_45 k_na_81_45 d92 d102 0 (0 : Int64) ((0 : Int64) + (1 : Int64)) (0 : Int64) (((0 : Int64) + (1 : Int64)) + (1 : Int64)) k_sa_42_9 (i3 >>> ((1 : Int32) &&& 31)) ((i3 >>> ((1 : Int32) &&& 31)) + (1073741824 : Int32)) (0 : Int32) (0 : Int32) h780 n0 Z792 F785 G780_0 G780_1 G780_2 G780_3 G780_4 G780_5 G780_6 F786 F787 G780_8 G780_9 F783 ne56 ne80 ne86 ne62 ne68 ne74 U45_3 U45_4 U45_0 U45_1 U45_2 U45_14 (Ne.symm U45_7) (Ne.symm U45_10) (Ne.symm U45_12) (Ne.symm U45_8) (Ne.symm U45_11) (Ne.symm U45_13) U45_5 U45_6 U45_9 ne30 ne54 ne78 ne84 ne60 ne66 ne72 fr32 fr63 fr69 fr75 fr81 fr87 n_d112 n_d92 (by rw [z_d112, z_d92]; exact Own.U_le.mpr (by omega)) (by rw [z_d112, z_d92]; exact Own.U_lt.mpr (by omega))) (lenOf pd_17 rfl) rfl (argsL := [.ref sa_42_9, .double d112]) (rest := []) rfl (W := 0) (Nat.le_of_eq rfl) (by decide) (by decide) (by decide) (by decide) fun T793 h793 v793 X793 q793 => ?_
    obtain ⟨rfl, K793, G793_0, G793_1, G793_2, G793_3, G793_4, G793_5, G793_6, G793_7, G793_8, G793_9⟩ := q793
    have F794 := F781.keep K793 (ninS ne28 (ninS ne70 (ninS ne76 (ninS ne82 nin0))))
    have F795 := F782.keep K793 (ninS ne29 (ninS ne71 (ninS ne77 (ninS ne83 nin0))))
    have F796 := F783.keep K793 (ninS ne30 (ninS ne72 (ninS ne78 (ninS ne84 nin0))))
    have F797 := F784.keep K793 (ninS ne31 (ninS ne73 (ninS ne79 (ninS ne85 nin0))))
    have F798 := F785.keep K793
    have F799 := F786.keep K793 (ninS (Ne.symm ne56) (ninS U45_2 (ninS U45_3 (ninS U45_4 nin0))))
    have F800 := F788.keep K793
    have F801 := F789.keep K793
    have F802 := F790.keep K793
    have F803 := F791.keep K793 (ninS (Ne.symm ne62) (ninS U45_6 (ninS U45_7 (ninS U45_8 nin0))))
    have F804 := G780_7.keep K793 (ninS (Ne.symm ne68) (ninS U45_9 (ninS U45_10 (ninS U45_11 nin0))))
    have Z805 : n0 ≤ h793.size := Nat.le_trans Z792 K793.1
    show Own.Go p e below s n0 _ _ _ (T793.setTop (mkF m 116 _ []))
    clear F781 F782 F783 F784 F785 F786 F787 F788 F789 F790 F791 G780_0 G780_1 G780_2 G780_3 G780_4 G780_5 G780_6 G780_7 G780_8 G780_9 X780
    refine Own.iconst X793 (v := 0) at_116 rfl ?_
    refine Own.istore X793 at_117 (l' := #[.val (.int i0), .val (.int i1), .val (.int i2), .val (.int i3), .val (.int i4), .val (.int v0), .val (.int v1), .val (.int v2), .val (.ref sa_30_1), .val (.ref sa_36_4), .val (.ref sa_42_9), .val (.ref sa_49_16), .val (.int mn), .val (.double d72), .second, .val (.ref pop), .val (.int (0 : Int32)), .unset, .unset, .unset, .unset, .unset, .unset, .unset, .unset, .unset, .unset, .unset]) rfl ?_
    refine Own.iload X793 at_119 rfl ?_
    refine Own.istore X793 at_121 (l' := #[.val (.int i0), .val (.int i1), .val (.int i2), .val (.int i3), .val (.int i4), .val (.int v0), .val (.int v1), .val (.int v2), .val (.ref sa_30_1), .val (.ref sa_36_4), .val (.ref sa_42_9), .val (.ref sa_49_16), .val (.int mn), .val (.double d72), .second, .val (.ref pop), .val (.int (0 : Int32)), .val (.int v0), .unset, .unset, .unset, .unset, .unset, .unset, .unset, .unset, .unset, .unset]) rfl ?_
    refine Own.iload X793 at_123 rfl ?_
    refine Own.iload X793 at_125 rfl ?_
    refine Own.icmp_ X793 (pc' := 137) at_127 (by decide) (fun _ => ?_) (fun q => absurd (show v0.toInt ≤ v1.toInt from by omega) q)
    refine Own.iload X793 at_137 rfl ?_
    refine Own.iload X793 at_139 rfl ?_
    refine Own.icmp_ X793 (pc' := 151) at_141 (by decide) (fun q => absurd (show v0.toInt ≤ v2.toInt from q) (show ¬ (v0.toInt ≤ v2.toInt) from by omega)) (fun _ => ?_)
    refine Own.iconst X793 (v := 2) at_144 rfl ?_
    refine Own.istore X793 at_145 (l' := #[.val (.int i0), .val (.int i1), .val (.int i2), .val (.int i3), .val (.int i4), .val (.int v0), .val (.int v1), .val (.int v2), .val (.ref sa_30_1), .val (.ref sa_36_4), .val (.ref sa_42_9), .val (.ref sa_49_16), .val (.int mn), .val (.double d72), .second, .val (.ref pop), .val (.int (2 : Int32)), .val (.int v0), .unset, .unset, .unset, .unset, .unset, .unset, .unset, .unset, .unset, .unset]) rfl ?_
    refine Own.iload X793 at_147 rfl ?_
    refine Own.istore X793 at_149 (l' := #[.val (.int i0), .val (.int i1), .val (.int i2), .val (.int i3), .val (.int i4), .val (.int v0), .val (.int v1), .val (.int v2), .val (.ref sa_30_1), .val (.ref sa_36_4), .val (.ref sa_42_9), .val (.ref sa_49_16), .val (.int mn), .val (.double d72), .second, .val (.ref pop), .val (.int (2 : Int32)), .val (.int v2), .unset, .unset, .unset, .unset, .unset, .unset, .unset, .unset, .unset, .unset]) rfl ?_
    refine Own.iconst X793 (v := 0) at_151 rfl ?_
    refine Own.istore X793 at_152 (l' := #[.val (.int i0), .val (.int i1), .val (.int i2), .val (.int i3), .val (.int i4), .val (.int v0), .val (.int v1), .val (.int v2), .val (.ref sa_30_1), .val (.ref sa_36_4), .val (.ref sa_42_9), .val (.ref sa_49_16), .val (.int mn), .val (.double d72), .second, .val (.ref pop), .val (.int (2 : Int32)), .val (.int v2), .val (.int (0 : Int32)), .unset, .unset, .unset, .unset, .unset, .unset, .unset, .unset, .unset]) rfl ?_
    refine Own.iload X793 at_154 rfl ?_
    refine Own.istore X793 at_156 (l' := #[.val (.int i0), .val (.int i1), .val (.int i2), .val (.int i3), .val (.int i4), .val (.int v0), .val (.int v1), .val (.int v2), .val (.ref sa_30_1), .val (.ref sa_36_4), .val (.ref sa_42_9), .val (.ref sa_49_16), .val (.int mn), .val (.double d72), .second, .val (.ref pop), .val (.int (2 : Int32)), .val (.int v2), .val (.int (0 : Int32)), .val (.int v0), .unset, .unset, .unset, .unset, .unset, .unset, .unset, .unset]) rfl ?_
    refine Own.iload X793 at_158 rfl ?_
    refine Own.iload X793 at_160 rfl ?_
    refine Own.icmp_ X793 (pc' := 172) at_162 (by decide) (fun _ => ?_) (fun q => absurd (show v1.toInt ≤ v0.toInt from by omega) q)
    refine Own.iload X793 at_172 rfl ?_
    refine Own.iload X793 at_174 rfl ?_
    refine Own.icmp_ X793 (pc' := 186) at_176 (by decide) (fun _ => ?_) (fun q => absurd (show v2.toInt ≤ v0.toInt from by omega) q)
    refine Own.iload X793 at_186 rfl ?_
    refine Own.iff_ X793 (pc' := 195) at_188 (by decide) (fun _ => ?_) (fun q => absurd (show ¬ ((2 : Int) = (0 : Int)) from by decide) q)
    refine Own.iload X793 at_195 rfl ?_
    refine Own.iconst X793 (v := 1) at_197 rfl ?_
    refine Own.icmp_ X793 (pc' := 205) at_198 (by decide) (fun _ => ?_) (fun q => absurd (show ¬ ((2 : Int) = (1 : Int)) from by decide) q)
    refine Own.iloadN X793 at_205 rfl ?_
    refine Own.istore X793 at_206 (l' := #[.val (.int i0), .val (.int i1), .val (.int i2), .val (.int i3), .val (.int i4), .val (.int v0), .val (.int v1), .val (.int v2), .val (.ref sa_30_1), .val (.ref sa_36_4), .val (.ref sa_42_9), .val (.ref sa_49_16), .val (.int mn), .val (.double d72), .second, .val (.ref pop), .val (.int (2 : Int32)), .val (.int v2), .val (.int (0 : Int32)), .val (.int v0), .val (.int i3), .unset, .unset, .unset, .unset, .unset, .unset, .unset]) rfl ?_
    refine Own.aload X793 at_208 rfl rfl ?_
    refine Own.callV_ (y := mn_5) (z := mn_5) (a := pop) X793 at_210 (Own.wd hw 50 rfl) (Own.wd hw 51 rfl) (Own.wd hw 53 rfl) (Own.wd hw 52 rfl) rfl (Own.wd hw 12 rfl) (Own.wd hw 54 rfl) (by decide) F798 (rm7 l Z a0 hw pop (3 : Int32) h793 n0 Z805 G793_3 ) (lenOf pd_18 rfl) rfl (argsL := []) (rest := []) rfl (W := 0) (Nat.le_of_eq rfl) (by decide) (by decide) (by decide) (by decide) fun T806 h806 v806 X806 q806 => ?_
    obtain ⟨rfl, rfl⟩ := q806
    show Own.Go p e below s n0 _ _ _ (T806.setTop (mkF m 213 _ [.int (3 : Int32)]))
    clear X793
    refine Own.iconst X806 (v := 3) at_213 rfl ?_
    refine Own.icmp_ X806 (pc' := 221) at_214 (by decide) (fun q => absurd (show ¬ ((3 : Int) = (3 : Int)) from q) (show ¬ (¬ ((3 : Int) = (3 : Int))) from fun z => z (by decide))) (fun _ => ?_)
    refine Own.iconst X806 (v := 1) at_217 rfl ?_
    refine Own.goto_ X806 (pc' := 222) at_218 (by decide) ?_
    refine Own.istore X806 at_222 (l' := #[.val (.int i0), .val (.int i1), .val (.int i2), .val (.int i3), .val (.int i4), .val (.int v0), .val (.int v1), .val (.int v2), .val (.ref sa_30_1), .val (.ref sa_36_4), .val (.ref sa_42_9), .val (.ref sa_49_16), .val (.int mn), .val (.double d72), .second, .val (.ref pop), .val (.int (2 : Int32)), .val (.int v2), .val (.int (0 : Int32)), .val (.int v0), .val (.int i3), .val (.int (1 : Int32)), .unset, .unset, .unset, .unset, .unset, .unset]) rfl ?_
    refine Own.aload X806 at_224 rfl rfl ?_
    refine Own.callV_ (y := mn_6) (z := mn_6) (a := pop) X806 at_226 (Own.wd hw 55 rfl) (Own.wd hw 56 rfl) (Own.wd hw 58 rfl) (Own.wd hw 57 rfl) rfl (Own.wd hw 12 rfl) (Own.wd hw 59 rfl) (by decide) F798 (rm8_2 l Z a0 hw pop oa_81_45 k_oa_81_45 d92 d102 d112 h793 n0 Z805 G793_1 G793_6 G793_8 ) (lenOf pd_19 rfl) rfl (argsL := []) (rest := []) rfl (W := 0) (Nat.le_of_eq rfl) (by decide) (by decide) (by decide) (by decide) fun T807 h807 v807 X807 q807 => ?_
    obtain ⟨rfl, rfl⟩ := q807
    show Own.Go p e below s n0 _ _ _ (T807.setTop (mkF m 229 _ [.double d112]))
    clear X806
    refine Own.iload X807 at_229 rfl ?_
    obtain ⟨d231, e_d231⟩ : ∃ v, FP.i2d v2 = v := ⟨_, rfl⟩
    obtain ⟨f_d231, z_d231⟩ := Own.i2d_v e_d231
    have n_d231 := f_d231.noNaN
    refine Own.i2d X807 at_231 e_d231 ?_
    refine Own.dcmpF X807 (pc' := 240) at_232 at_233 (by decide) n_d112 n_d231 (fun q => absurd (show ¬ (Own.dz d112 = Own.dz d231) from q) (show ¬ (¬ (Own.dz d112 = Own.dz d231)) from fun z => z (by rw [z_d112, z_d231]))) (fun _ => ?_)
    refine Own.iconst X807 (v := 1) at_236 rfl ?_
    refine Own.goto_ X807 (pc' := 241) at_237 (by decide) ?_
    refine Own.istore X807 at_241 (l' := #[.val (.int i0), .val (.int i1), .val (.int i2), .val (.int i3), .val (.int i4), .val (.int v0), .val (.int v1), .val (.int v2), .val (.ref sa_30_1), .val (.ref sa_36_4), .val (.ref sa_42_9), .val (.ref sa_49_16), .val (.int mn), .val (.double d72), .second, .val (.ref pop), .val (.int (2 : Int32)), .val (.int v2), .val (.int (0 : Int32)), .val (.int v0), .val (.int i3), .val (.int (1 : Int32)), .val (.int (1 : Int32)), .unset, .unset, .unset, .unset, .unset]) rfl ?_
    refine Own.aload X807 at_243 rfl rfl ?_
    refine Own.callV_ (y := mn_7) (z := mn_7) (a := pop) X807 at_245 (Own.wd hw 60 rfl) (Own.wd hw 61 rfl) (Own.wd hw 63 rfl) (Own.wd hw 62 rfl) rfl (Own.wd hw 12 rfl) (Own.wd hw 64 rfl) (by decide) F798 (rm9_2 l Z a0 hw pop pl_81_45 x0_81_45 x1_81_45 x2_81_45 k_pl_81_45 c_pl_81_45 (i3 >>> ((1 : Int32) &&& 31)) ((i3 >>> ((1 : Int32) &&& 31)) + (1073741824 : Int32)) h793 n0 Z805 G793_0 G793_6 F799 G793_7 F802 ) (lenOf pd_20 rfl) rfl (argsL := []) (rest := []) rfl (W := 0) (Nat.le_of_eq rfl) (by decide) (by decide) (by decide) (by decide) fun T808 h808 v808 X808 q808 => ?_
    obtain ⟨cl_245_808, rfl, K808, B808_0, G808_0⟩ := q808
    have F809 := F794.keep K808 nin0
    have F810 := F795.keep K808 nin0
    have F811 := F796.keep K808 nin0
    have F812 := F797.keep K808 nin0
    have F813 := F798.keep K808
    have F814 := F799.keep K808 nin0
    have F815 := F800.keep K808
    have F816 := F801.keep K808
    have F817 := F802.keep K808
    have F818 := F803.keep K808 nin0
    have F819 := F804.keep K808 nin0
    have F820 := G793_0.keep K808 nin0
    have F821 := G793_1.keep K808 nin0
    have F822 := G793_2.keep K808 nin0
    have F823 := G793_3.keep K808 nin0
    have F824 := G793_4.keep K808 nin0
    have F825 := G793_5.keep K808 nin0
    have F826 := G793_6.keep K808 nin0
    have F827 := G793_7.keep K808 nin0
    have F828 := G793_8.keep K808 nin0
    have F829 := G793_9.keep K808 nin0
    have Z830 : n0 ≤ h808.size := Nat.le_trans Z805 K808.1
    have ne831 : sa_30_1 ≠ cl_245_808 := Nat.ne_of_lt (Nat.lt_of_lt_of_le F794.lt B808_0)
    have ne832 : sa_36_4 ≠ cl_245_808 := Nat.ne_of_lt (Nat.lt_of_lt_of_le F795.lt B808_0)
    have ne833 : sa_42_9 ≠ cl_245_808 := Nat.ne_of_lt (Nat.lt_of_lt_of_le F796.lt B808_0)
    have ne834 : sa_49_16 ≠ cl_245_808 := Nat.ne_of_lt (Nat.lt_of_lt_of_le F797.lt B808_0)
    have ne835 : pop ≠ cl_245_808 := Nat.ne_of_lt (Nat.lt_of_lt_of_le F798.lt B808_0)
    have ne836 : pl_81_45 ≠ cl_245_808 := Nat.ne_of_lt (Nat.lt_of_lt_of_le F799.lt B808_0)
    have ne837 : x0_81_45 ≠ cl_245_808 := Nat.ne_of_lt (Nat.lt_of_lt_of_le F800.lt B808_0)
    have ne838 : x1_81_45 ≠ cl_245_808 := Nat.ne_of_lt (Nat.lt_of_lt_of_le F801.lt B808_0)
    have ne839 : x2_81_45 ≠ cl_245_808 := Nat.ne_of_lt (Nat.lt_of_lt_of_le F802.lt B808_0)
    have ne840 : oa_81_45 ≠ cl_245_808 := Nat.ne_of_lt (Nat.lt_of_lt_of_le G793_8.lt B808_0)
    have ne841 : na_81_45 ≠ cl_245_808 := Nat.ne_of_lt (Nat.lt_of_lt_of_le G793_9.lt B808_0)
    have fr842 : n0 ≤ cl_245_808 := Nat.le_trans Z805 B808_0
    show Own.Go p e below s n0 _ _ _ (T808.setTop (mkF m 248 _ [.ref cl_245_808]))
    clear F794 F795 F796 F797 F798 F799 F800 F801 F802 F803 F804 G793_0 G793_1 G793_2 G793_3 G793_4 G793_5 G793_6 G793_7 G793_8 G793_9 X807
    refine Own.iload X808 at_248 rfl ?_
    refine Own.callS_ (y := mn_13) X808 at_250 (Own.wd hw 74 rfl) (Own.wd hw 75 rfl) (Own.wd hw 2 rfl) (Own.wd hw 76 rfl) (by decide) (rm10 l Z a0 hw cl_245_808 i3 c_pl_81_45 (i3 >>> ((1 : Int32) &&& 31)) ((i3 >>> ((1 : Int32) &&& 31)) + (1073741824 : Int32)) h808 n0 Z830 G808_0 rfl rfl) (lenOf pd_21 rfl) rfl (argsL := [.ref cl_245_808, .int i3]) (rest := []) rfl (W := 0) (Nat.le_of_eq rfl) (by decide) (by decide) (by decide) (by decide) fun T843 h843 v843 X843 q843 => ?_
    obtain ⟨rfl, rfl⟩ := q843
    show Own.Go p e below s n0 _ _ _ (T843.setTop (mkF m 253 _ [.int (1 : Int32)]))
    clear X808
    refine Own.istore X843 at_253 (l' := #[.val (.int i0), .val (.int i1), .val (.int i2), .val (.int i3), .val (.int i4), .val (.int v0), .val (.int v1), .val (.int v2), .val (.ref sa_30_1), .val (.ref sa_36_4), .val (.ref sa_42_9), .val (.ref sa_49_16), .val (.int mn), .val (.double d72), .second, .val (.ref pop), .val (.int (2 : Int32)), .val (.int v2), .val (.int (0 : Int32)), .val (.int v0), .val (.int i3), .val (.int (1 : Int32)), .val (.int (1 : Int32)), .val (.int (1 : Int32)), .unset, .unset, .unset, .unset]) rfl ?_
    refine Own.aload X843 at_255 rfl rfl ?_
    refine Own.aload X843 at_257 rfl rfl ?_
    refine Own.dload X843 at_259 rfl ?_
    refine Own.callV_ (y := mn_11) (z := mn_11) (a := pop) X843 at_261 (Own.wd hw 77 rfl) (Own.wd hw 78 rfl) (Own.wd hw 80 rfl) (Own.wd hw 79 rfl) rfl (Own.wd hw 12 rfl) (Own.wd hw 81 rfl) (by decide) F813 (rm11_0N l Z a0 hw pop sa_49_16 d72 pl_81_45 oa_81_45 na_81_45 x0_81_45 x1_81_45 x2_81_45 k_pl_81_45 c_pl_81_45 k_oa_81_45 k_na_81_45 d92 d102 d112 (0 : Int64) ((0 : Int64) + (1 : Int64)) (((0 : Int64) + (1 : Int64)) + (1 : Int64)) ((((0 : Int64) + (1 : Int64)) + (1 : Int64)) + (1 : Int64)) k_sa_49_16 (i4 >>> ((1 : Int32) &&& 31)) ((i4 >>> ((1 : Int32) &&& 31)) + (1073741824 : Int32)) (2 : Int32) (i1 >>> ((1 : Int32) &&& 31)) ((i1 >>> ((1 : Int32) &&& 31)) + (1073741824 : Int32)) h808 n0 Z830 F813 F820 F821 F822 F823 F824 F825 F826 F814 F818 F828 F829 F812 ne56 ne80 ne86 ne62 ne68 ne74 U45_3 U45_4 U45_0 U45_1 U45_2 U45_14 (Ne.symm U45_7) (Ne.symm U45_10) (Ne.symm U45_12) (Ne.symm U45_8) (Ne.symm U45_11) (Ne.symm U45_13) U45_5 U45_6 U45_9 ne31 ne55 ne79 ne85 ne61 ne67 ne73 fr32 fr63 fr69 fr75 fr81 fr87 n_d72 n_d92 n_d102 n_d112 (by rw [z_d72, z_d92]; exact Own.U_lt.mpr (by omega)) (by rw [z_d72, z_d102]; exact Own.U_lt.mpr (by omega)) (by rw [z_d72, z_d112]; exact Own.U_lt.mpr (by omega)) d112 (by decide) rfl n_d112 (by rw [z_d72, z_d112]; exact Own.U_lt.mpr (by omega))) (lenOf pd_10 rfl) rfl (argsL := [.ref sa_49_16, .double d72]) (rest := []) rfl (W := 0) (Nat.le_of_eq rfl) (by decide) (by decide) (by decide) (by decide) fun T844 h844 v844 X844 q844 => ?_
    obtain ⟨rfl, K844, G844_0, G844_1, G844_2⟩ := q844
    have F845 := F809.keep K844 (ninS ne28 (ninS ne58 (ninS ne76 (ninS ne82 nin0))))
    have F846 := F810.keep K844 (ninS ne29 (ninS ne59 (ninS ne77 (ninS ne83 nin0))))
    have F847 := F811.keep K844 (ninS ne30 (ninS ne60 (ninS ne78 (ninS ne84 nin0))))
    have F848 := F812.keep K844 (ninS ne31 (ninS ne61 (ninS ne79 (ninS ne85 nin0))))
    have F849 := F813.keep K844
    have F850 := F814.keep K844 (ninS (Ne.symm ne56) (ninS U45_0 (ninS U45_3 (ninS U45_4 nin0))))
    have F851 := F815.keep K844
    have F852 := F816.keep K844
    have F853 := F817.keep K844
    have F854 := F819.keep K844 (ninS (Ne.symm ne68) (ninS (Ne.symm U45_5) (ninS U45_10 (ninS U45_11 nin0))))
    have F855 := F827.keep K844 (ninS (Ne.symm ne74) (ninS (Ne.symm U45_6) (ninS U45_12 (ninS U45_13 nin0))))
    have F856 := G808_0.keep K844 (ninS (Ne.symm ne835) (ninS (Ne.symm ne837) (ninS (Ne.symm ne840) (ninS (Ne.symm ne841) nin0))))
    have Z857 : n0 ≤ h844.size := Nat.le_trans Z830 K844.1
    show Own.Go p e below s n0 _ _ _ (T844.setTop (mkF m 264 _ [.int (1 : Int32)]))
    clear F809 F810 F811 F812 F813 F814 F815 F816 F817 F818 F819 F820 F821 F822 F823 F824 F825 F826 F827 F828 F829 G808_0 X843
    refine Own.istore X844 at_264 (l' := #[.val (.int i0), .val (.int i1), .val (.int i2), .val (.int i3), .val (.int i4), .val (.int v0), .val (.int v1), .val (.int v2), .val (.ref sa_30_1), .val (.ref sa_36_4), .val (.ref sa_42_9), .val (.ref sa_49_16), .val (.int mn), .val (.double d72), .second, .val (.ref pop), .val (.int (2 : Int32)), .val (.int v2), .val (.int (0 : Int32)), .val (.int v0), .val (.int i3), .val (.int (1 : Int32)), .val (.int (1 : Int32)), .val (.int (1 : Int32)), .val (.int (1 : Int32)), .unset, .unset, .unset]) rfl ?_
    refine Own.aload X844 at_266 rfl rfl ?_
    refine Own.iconst X844 (v := 0) at_268 rfl ?_
    refine Own.callV_ (y := mn_8) (z := mn_8) (a := pop) X844 at_269 (Own.wd hw 86 rfl) (Own.wd hw 87 rfl) (Own.wd hw 89 rfl) (Own.wd hw 88 rfl) rfl (Own.wd hw 12 rfl) (Own.wd hw 90 rfl) (by decide) F849 (rm13_0 l Z a0 hw pop pl_81_45 x0_81_45 x1_81_45 x2_81_45 k_pl_81_45 h844 n0 Z857 G844_0 F850 ) (lenOf pd_14 rfl) rfl (argsL := [.int (0 : Int32)]) (rest := []) rfl (W := 0) (Nat.le_of_eq rfl) (by decide) (by decide) (by decide) (by decide) fun T858 h858 v858 X858 q858 => ?_
    obtain ⟨rfl, rfl⟩ := q858
    show Own.Go p e below s n0 _ _ _ (T858.setTop (mkF m 272 _ [.ref x0_81_45]))
    clear X844
    refine Own.iload X858 at_272 rfl ?_
    refine Own.iff_ X858 (pc' := 282) at_274 (by decide) (fun q => absurd (show ¬ ((0 : Int) = (0 : Int)) from q) (show ¬ (¬ ((0 : Int) = (0 : Int))) from fun z => z (by decide))) (fun _ => ?_)
    refine Own.iload X858 at_277 rfl ?_
    refine Own.goto_ X858 (pc' := 283) at_279 (by decide) ?_
    refine Own.callS_ (y := mn_13) X858 at_283 (Own.wd hw 74 rfl) (Own.wd hw 75 rfl) (Own.wd hw 2 rfl) (Own.wd hw 76 rfl) (by decide) (rm10 l Z a0 hw x0_81_45 i4 c_pl_81_45 (i4 >>> ((1 : Int32) &&& 31)) ((i4 >>> ((1 : Int32) &&& 31)) + (1073741824 : Int32)) h844 n0 Z857 G844_2 rfl rfl) (lenOf pd_21 rfl) rfl (argsL := [.ref x0_81_45, .int i4]) (rest := []) rfl (W := 0) (Nat.le_of_eq rfl) (by decide) (by decide) (by decide) (by decide) fun T859 h859 v859 X859 q859 => ?_
    obtain ⟨rfl, rfl⟩ := q859
    show Own.Go p e below s n0 _ _ _ (T859.setTop (mkF m 286 _ [.int (1 : Int32)]))
    clear X858
    refine Own.istore X859 at_286 (l' := #[.val (.int i0), .val (.int i1), .val (.int i2), .val (.int i3), .val (.int i4), .val (.int v0), .val (.int v1), .val (.int v2), .val (.ref sa_30_1), .val (.ref sa_36_4), .val (.ref sa_42_9), .val (.ref sa_49_16), .val (.int mn), .val (.double d72), .second, .val (.ref pop), .val (.int (2 : Int32)), .val (.int v2), .val (.int (0 : Int32)), .val (.int v0), .val (.int i3), .val (.int (1 : Int32)), .val (.int (1 : Int32)), .val (.int (1 : Int32)), .val (.int (1 : Int32)), .val (.int (1 : Int32)), .unset, .unset]) rfl ?_
    refine Own.aload X859 at_288 rfl rfl ?_
    refine Own.iconst X859 (v := 1) at_290 rfl ?_
    refine Own.callV_ (y := mn_8) (z := mn_8) (a := pop) X859 at_291 (Own.wd hw 86 rfl) (Own.wd hw 87 rfl) (Own.wd hw 89 rfl) (Own.wd hw 88 rfl) rfl (Own.wd hw 12 rfl) (Own.wd hw 90 rfl) (by decide) F849 (rm13_1 l Z a0 hw pop pl_81_45 x0_81_45 x1_81_45 x2_81_45 k_pl_81_45 h844 n0 Z857 G844_0 F850 ) (lenOf pd_14 rfl) rfl (argsL := [.int (1 : Int32)]) (rest := []) rfl (W := 0) (Nat.le_of_eq rfl) (by decide) (by decide) (by decide) (by decide) fun T860 h860 v860 X860 q860 => ?_
    obtain ⟨rfl, rfl⟩ := q860
    show Own.Go p e below s n0 _ _ _ (T860.setTop (mkF m 294 _ [.ref x1_81_45]))
    clear X859
    refine Own.iload X860 at_294 rfl ?_
    refine Own.iconst X860 (v := 1) at_296 rfl ?_
    refine Own.icmp_ X860 (pc' := 305) at_297 (by decide) (fun _ => ?_) (fun q => absurd (show ¬ ((0 : Int) = (1 : Int)) from by decide) q)
    refine Own.iloadN X860 at_305 rfl ?_
    refine Own.callS_ (y := mn_13) X860 at_306 (Own.wd hw 74 rfl) (Own.wd hw 75 rfl) (Own.wd hw 2 rfl) (Own.wd hw 76 rfl) (by decide) (rm10 l Z a0 hw x1_81_45 i2 c_pl_81_45 (i2 >>> ((1 : Int32) &&& 31)) ((i2 >>> ((1 : Int32) &&& 31)) + (1073741824 : Int32)) h844 n0 Z857 F854 rfl rfl) (lenOf pd_21 rfl) rfl (argsL := [.ref x1_81_45, .int i2]) (rest := []) rfl (W := 0) (Nat.le_of_eq rfl) (by decide) (by decide) (by decide) (by decide) fun T861 h861 v861 X861 q861 => ?_
    obtain ⟨rfl, rfl⟩ := q861
    show Own.Go p e below s n0 _ _ _ (T861.setTop (mkF m 309 _ [.int (1 : Int32)]))
    clear X860
    refine Own.istore X861 at_309 (l' := #[.val (.int i0), .val (.int i1), .val (.int i2), .val (.int i3), .val (.int i4), .val (.int v0), .val (.int v1), .val (.int v2), .val (.ref sa_30_1), .val (.ref sa_36_4), .val (.ref sa_42_9), .val (.ref sa_49_16), .val (.int mn), .val (.double d72), .second, .val (.ref pop), .val (.int (2 : Int32)), .val (.int v2), .val (.int (0 : Int32)), .val (.int v0), .val (.int i3), .val (.int (1 : Int32)), .val (.int (1 : Int32)), .val (.int (1 : Int32)), .val (.int (1 : Int32)), .val (.int (1 : Int32)), .val (.int (1 : Int32)), .unset]) rfl ?_
    refine Own.aload X861 at_311 rfl rfl ?_
    refine Own.iconst X861 (v := 2) at_313 rfl ?_
    refine Own.callV_ (y := mn_8) (z := mn_8) (a := pop) X861 at_314 (Own.wd hw 86 rfl) (Own.wd hw 87 rfl) (Own.wd hw 89 rfl) (Own.wd hw 88 rfl) rfl (Own.wd hw 12 rfl) (Own.wd hw 90 rfl) (by decide) F849 (rm13_2 l Z a0 hw pop pl_81_45 x0_81_45 x1_81_45 x2_81_45 k_pl_81_45 h844 n0 Z857 G844_0 F850 ) (lenOf pd_14 rfl) rfl (argsL := [.int (2 : Int32)]) (rest := []) rfl (W := 0) (Nat.le_of_eq rfl) (by decide) (by decide) (by decide) (by decide) fun T862 h862 v862 X862 q862 => ?_
    obtain ⟨rfl, rfl⟩ := q862
    show Own.Go p e below s n0 _ _ _ (T862.setTop (mkF m 317 _ [.ref x2_81_45]))
    clear X861
    refine Own.iload X862 at_317 rfl ?_
    refine Own.iconst X862 (v := 2) at_319 rfl ?_
    refine Own.icmp_ X862 (pc' := 328) at_320 (by decide) (fun _ => ?_) (fun q => absurd (show ¬ ((0 : Int) = (2 : Int)) from by decide) q)
    refine Own.iloadN X862 at_328 rfl ?_
    refine Own.callS_ (y := mn_13) X862 at_329 (Own.wd hw 74 rfl) (Own.wd hw 75 rfl) (Own.wd hw 2 rfl) (Own.wd hw 76 rfl) (by decide) (rm10 l Z a0 hw x2_81_45 i3 c_pl_81_45 (i3 >>> ((1 : Int32) &&& 31)) ((i3 >>> ((1 : Int32) &&& 31)) + (1073741824 : Int32)) h844 n0 Z857 F855 rfl rfl) (lenOf pd_21 rfl) rfl (argsL := [.ref x2_81_45, .int i3]) (rest := []) rfl (W := 0) (Nat.le_of_eq rfl) (by decide) (by decide) (by decide) (by decide) fun T863 h863 v863 X863 q863 => ?_
    obtain ⟨rfl, rfl⟩ := q863
    show Own.Go p e below s n0 _ _ _ (T863.setTop (mkF m 332 _ [.int (1 : Int32)]))
    clear X862
    refine Own.istore X863 at_332 (l' := #[.val (.int i0), .val (.int i1), .val (.int i2), .val (.int i3), .val (.int i4), .val (.int v0), .val (.int v1), .val (.int v2), .val (.ref sa_30_1), .val (.ref sa_36_4), .val (.ref sa_42_9), .val (.ref sa_49_16), .val (.int mn), .val (.double d72), .second, .val (.ref pop), .val (.int (2 : Int32)), .val (.int v2), .val (.int (0 : Int32)), .val (.int v0), .val (.int i3), .val (.int (1 : Int32)), .val (.int (1 : Int32)), .val (.int (1 : Int32)), .val (.int (1 : Int32)), .val (.int (1 : Int32)), .val (.int (1 : Int32)), .val (.int (1 : Int32))]) rfl ?_
    refine Own.iload X863 at_334 rfl ?_
    refine Own.iff_ X863 (pc' := 373) at_336 (by decide) (fun q => absurd (show (1 : Int) = (0 : Int) from q) (show ¬ ((1 : Int) = (0 : Int)) from by decide)) (fun _ => ?_)
    refine Own.iload X863 at_339 rfl ?_
    refine Own.iff_ X863 (pc' := 373) at_341 (by decide) (fun q => absurd (show (1 : Int) = (0 : Int) from q) (show ¬ ((1 : Int) = (0 : Int)) from by decide)) (fun _ => ?_)
    refine Own.iload X863 at_344 rfl ?_
    refine Own.iff_ X863 (pc' := 373) at_346 (by decide) (fun q => absurd (show (1 : Int) = (0 : Int) from q) (show ¬ ((1 : Int) = (0 : Int)) from by decide)) (fun _ => ?_)
    refine Own.iload X863 at_349 rfl ?_
    refine Own.iff_ X863 (pc' := 373) at_351 (by decide) (fun q => absurd (show (1 : Int) = (0 : Int) from q) (show ¬ ((1 : Int) = (0 : Int)) from by decide)) (fun _ => ?_)
    refine Own.iload X863 at_354 rfl ?_
    refine Own.iff_ X863 (pc' := 373) at_356 (by decide) (fun q => absurd (show (1 : Int) = (0 : Int) from q) (show ¬ ((1 : Int) = (0 : Int)) from by decide)) (fun _ => ?_)
    refine Own.iload X863 at_359 rfl ?_
    refine Own.iff_ X863 (pc' := 373) at_361 (by decide) (fun q => absurd (show (1 : Int) = (0 : Int) from q) (show ¬ ((1 : Int) = (0 : Int)) from by decide)) (fun _ => ?_)
    refine Own.iload X863 at_364 rfl ?_
    refine Own.iff_ X863 (pc' := 373) at_366 (by decide) (fun q => absurd (show (1 : Int) = (0 : Int) from q) (show ¬ ((1 : Int) = (0 : Int)) from by decide)) (fun _ => ?_)
    refine Own.iconst X863 (v := 1) at_369 rfl ?_
    refine Own.goto_ X863 (pc' := 374) at_370 (by decide) ?_
    exact Own.retB X863 at_374 (by decide) rfl (by decide) (by decide)
  · refine Own.aload X45 at_86 rfl rfl ?_
    refine Own.aload X45 at_88 rfl rfl ?_
    refine Own.iload X45 at_90 rfl ?_
    obtain ⟨d92, e_d92⟩ : ∃ v, FP.i2d v0 = v := ⟨_, rfl⟩
    obtain ⟨f_d92, z_d92⟩ := Own.i2d_v e_d92
    have n_d92 := f_d92.noNaN
    refine Own.i2d X45 at_92 e_d92 ?_
    refine Own.callV_ (y := mn_4) (z := mn_4) (a := pop) X45 at_93 (Own.wd hw 29 rfl) (Own.wd hw 30 rfl) (Own.wd hw 32 rfl) (Own.wd hw 31 rfl) rfl (Own.wd hw 12 rfl) (Own.wd hw 33 rfl) (by decide) F50 (rm5_00000 l Z a0 hw pop sa_30_1 d92 pl_81_45 oa_81_45 na_81_45 x0_81_45 x1_81_45 x2_81_45 k_pl_81_45 c_pl_81_45 k_oa_81_45 k_na_81_45 0 0 0 (0 : Int64) (0 : Int64) (0 : Int64) (0 : Int64) k_sa_30_1 (i1 >>> ((1 : Int32) &&& 31)) ((i1 >>> ((1 : Int32) &&& 31)) + (1073741824 : Int32)) (0 : Int32) (0 : Int32) h45 n0 Z51 F50 G45_0 G45_1 G45_2 G45_3 G45_4 G45_5 G45_6 G45_7 G45_8 G45_11 G45_12 F46 ne56 ne80 ne86 ne62 ne68 ne74 U45_3 U45_4 U45_0 U45_1 U45_2 U45_14 (Ne.symm U45_7) (Ne.symm U45_10) (Ne.symm U45_12) (Ne.symm U45_8) (Ne.symm U45_11) (Ne.symm U45_13) U45_5 U45_6 U45_9 ne28 ne52 ne76 ne82 ne58 ne64 ne70 fr32 fr63 fr69 fr75 fr81 fr87 n_d92 ) (lenOf pd_17 rfl) rfl (argsL := [.ref sa_30_1, .double d92]) (rest := []) rfl (W := 0) (Nat.le_of_eq rfl) (by decide) (by decide) (by decide) (by decide) fun T864 h864 v864 X864 q864 => ?_
    obtain ⟨rfl, K864, G864_0, G864_1, G864_2, G864_3, G864_4, G864_5, G864_6, G864_7, G864_8, G864_9⟩ := q864
    have F865 := F46.keep K864 (ninS ne28 (ninS ne58 (ninS ne76 (ninS ne82 nin0))))
    have F866 := F47.keep K864 (ninS ne29 (ninS ne59 (ninS ne77 (ninS ne83 nin0))))
    have F867 := F48.keep K864 (ninS ne30 (ninS ne60 (ninS ne78 (ninS ne84 nin0))))
    have F868 := F49.keep K864 (ninS ne31 (ninS ne61 (ninS ne79 (ninS ne85 nin0))))
    have F869 := F50.keep K864
    have F870 := G45_7.keep K864 (ninS (Ne.symm ne56) (ninS U45_0 (ninS U45_3 (ninS U45_4 nin0))))
    have F871 := G45_9.keep K864 (ninS (Ne.symm ne68) (ninS (Ne.symm U45_5) (ninS U45_10 (ninS U45_11 nin0))))
    have F872 := G45_10.keep K864 (ninS (Ne.symm ne74) (ninS (Ne.symm U45_6) (ninS U45_12 (ninS U45_13 nin0))))
    have F873 := G45_13.keep K864
    have F874 := G45_14.keep K864
    have F875 := G45_15.keep K864
    have Z876 : n0 ≤ h864.size := Nat.le_trans Z51 K864.1
    show Own.Go p e below s n0 _ _ _ (T864.setTop (mkF m 96 _ []))
    clear F46 F47 F48 F49 F50 G45_0 G45_1 G45_10 G45_11 G45_12 G45_13 G45_14 G45_15 G45_2 G45_3 G45_4 G45_5 G45_6 G45_7 G45_8 G45_9 X45
    refine Own.aload X864 at_96 rfl rfl ?_
    refine Own.aload X864 at_98 rfl rfl ?_
    refine Own.iload X864 at_100 rfl ?_
    obtain ⟨d102, e_d102⟩ : ∃ v, FP.i2d v1 = v := ⟨_, rfl⟩
    obtain ⟨f_d102, z_d102⟩ := Own.i2d_v e_d102
    have n_d102 := f_d102.noNaN
    refine Own.i2d X864 at_102 e_d102 ?_
    refine Own.callV_ (y := mn_4) (z := mn_4) (a := pop) X864 at_103 (Own.wd hw 29 rfl) (Own.wd hw 30 rfl) (Own.wd hw 32 rfl) (Own.wd hw 31 rfl) rfl (Own.wd hw 12 rfl) (Own.wd hw 33 rfl) (by decide) F869 (rm5_10000 l Z a0 hw pop sa_36_4 d102 pl_81_45 oa_81_45 na_81_45 x0_81_45 x1_81_45 x2_81_45 k_pl_81_45 c_pl_81_45 k_oa_81_45 k_na_81_45 d92 0 0 (0 : Int64) (0 : Int64) (0 : Int64) ((0 : Int64) + (1 : Int64)) k_sa_36_4 (i2 >>> ((1 : Int32) &&& 31)) ((i2 >>> ((1 : Int32) &&& 31)) + (1073741824 : Int32)) (0 : Int32) (0 : Int32) h864 n0 Z876 F869 G864_0 G864_1 G864_2 G864_3 G864_4 G864_5 G864_6 F870 F871 G864_8 G864_9 F866 ne56 ne80 ne86 ne62 ne68 ne74 U45_3 U45_4 U45_0 U45_1 U45_2 U45_14 (Ne.symm U45_7) (Ne.symm U45_10) (Ne.symm U45_12) (Ne.symm U45_8) (Ne.symm U45_11) (Ne.symm U45_13) U45_5 U45_6 U45_9 ne29 ne53 ne77 ne83 ne59 ne65 ne71 fr32 fr63 fr69 fr75 fr81 fr87 n_d102 n_d92 (by rw [z_d102, z_d92]; exact Own.U_le.mpr (by omega)) (by rw [z_d92, z_d102]; exact Own.U_le.mpr (by omega))) (lenOf pd_17 rfl) rfl (argsL := [.ref sa_36_4, .double d102]) (rest := []) rfl (W := 0) (Nat.le_of_eq rfl) (by decide) (by decide) (by decide) (by decide) fun T877 h877 v877 X877 q877 => ?_
    obtain ⟨rfl, K877, G877_0, G877_1, G877_2, G877_3, G877_4, G877_5, G877_6, G877_7, G877_8, G877_9⟩ := q877
    have F878 := F865.keep K877 (ninS ne28 (ninS ne64 (ninS ne76 (ninS ne82 nin0))))
    have F879 := F866.keep K877 (ninS ne29 (ninS ne65 (ninS ne77 (ninS ne83 nin0))))
    have F880 := F867.keep K877 (ninS ne30 (ninS ne66 (ninS ne78 (ninS ne84 nin0))))
    have F881 := F868.keep K877 (ninS ne31 (ninS ne67 (ninS ne79 (ninS ne85 nin0))))
    have F882 := F869.keep K877
    have F883 := F870.keep K877 (ninS (Ne.symm ne56) (ninS U45_1 (ninS U45_3 (ninS U45_4 nin0))))
    have F884 := F872.keep K877 (ninS (Ne.symm ne74) (ninS (Ne.symm U45_9) (ninS U45_12 (ninS U45_13 nin0))))
    have F885 := F873.keep K877
    have F886 := F874.keep K877
    have F887 := F875.keep K877
    have F888 := G864_7.keep K877 (ninS (Ne.symm ne62) (ninS U45_5 (ninS U45_7 (ninS U45_8 nin0))))
    have Z889 : n0 ≤ h877.size := Nat.le_trans Z876 K877.1
    show Own.Go p e below s n0 _ _ _ (T877.setTop (mkF m 106 _ []))
    clear F865 F866 F867 F868 F869 F870 F871 F872 F873 F874 F875 G864_0 G864_1 G864_2 G864_3 G864_4 G864_5 G864_6 G864_7 G864_8 G864_9 X864
    refine Own.aload X877 at_106 rfl rfl ?_
    refine Own.aload X877 at_108 rfl rfl ?_
    refine Own.iload X877 at_110 rfl ?_
    obtain ⟨d112, e_d112⟩ : ∃ v, FP.i2d v2 = v := ⟨_, rfl⟩
    obtain ⟨f_d112, z_d112⟩ := Own.i2d_v e_d112
    have n_d112 := f_d112.noNaN
    refine Own.i2d X877 at_112 e_d112 ?_
    refine Own.callV_ (y := mn_4) (z := mn_4) (a := pop) X877 at_113 (Own.wd hw 29 rfl) (Own.wd hw 30 rfl) (Own.wd hw 32 rfl) (Own.wd hw 31 rfl) rfl (Own.wd hw 12 rfl) (Own.wd hw 33 rfl) (by decide) F882 (rm5_20000 l Z a0 hw pop sa_42_9 d112 pl_81_45 oa_81_45 na_81_45 x0_81_45 x1_81_45 x2_81_45 k_pl_81_45 c_pl_81_45 k_oa_81_45 k_na_81_45 d92 d102 0 (0 : Int64) ((0 : Int64) + (1 : Int64)) (0 : Int64) (((0 : Int64) + (1 : Int64)) + (1 : Int64)) k_sa_42_9 (i3 >>> ((1 : Int32) &&& 31)) ((i3 >>> ((1 : Int32) &&& 31)) + (1073741824 : Int32)) (0 : Int32) (0 : Int32) h877 n0 Z889 F882 G877_0 G877_1 G877_2 G877_3 G877_4 G877_5 G877_6 F883 F884 G877_8 G877_9 F880 ne56 ne80 ne86 ne62 ne68 ne74 U45_3 U45_4 U45_0 U45_1 U45_2 U45_14 (Ne.symm U45_7) (Ne.symm U45_10) (Ne.symm U45_12) (Ne.symm U45_8) (Ne.symm U45_11) (Ne.symm U45_13) U45_5 U45_6 U45_9 ne30 ne54 ne78 ne84 ne60 ne66 ne72 fr32 fr63 fr69 fr75 fr81 fr87 n_d112 n_d92 (by rw [z_d112, z_d92]; exact Own.U_le.mpr (by omega)) (by rw [z_d92, z_d112]; exact Own.U_le.mpr (by omega))) (lenOf pd_17 rfl) rfl (argsL := [.ref sa_42_9, .double d112]) (rest := []) rfl (W := 0) (Nat.le_of_eq rfl) (by decide) (by decide) (by decide) (by decide) fun T890 h890 v890 X890 q890 => ?_
    obtain ⟨rfl, K890, G890_0, G890_1, G890_2, G890_3, G890_4, G890_5, G890_6, G890_7, G890_8, G890_9⟩ := q890
    have F891 := F878.keep K890 (ninS ne28 (ninS ne70 (ninS ne76 (ninS ne82 nin0))))
    have F892 := F879.keep K890 (ninS ne29 (ninS ne71 (ninS ne77 (ninS ne83 nin0))))
    have F893 := F880.keep K890 (ninS ne30 (ninS ne72 (ninS ne78 (ninS ne84 nin0))))
    have F894 := F881.keep K890 (ninS ne31 (ninS ne73 (ninS ne79 (ninS ne85 nin0))))
    have F895 := F882.keep K890
    have F896 := F883.keep K890 (ninS (Ne.symm ne56) (ninS U45_2 (ninS U45_3 (ninS U45_4 nin0))))
    have F897 := F885.keep K890
    have F898 := F886.keep K890
    have F899 := F887.keep K890
    have F900 := F888.keep K890 (ninS (Ne.symm ne62) (ninS U45_6 (ninS U45_7 (ninS U45_8 nin0))))
    have F901 := G877_7.keep K890 (ninS (Ne.symm ne68) (ninS U45_9 (ninS U45_10 (ninS U45_11 nin0))))
    have Z902 : n0 ≤ h890.size := Nat.le_trans Z889 K890.1
    show Own.Go p e below s n0 _ _ _ (T890.setTop (mkF m 116 _ []))
    clear F878 F879 F880 F881 F882 F883 F884 F885 F886 F887 F888 G877_0 G877_1 G877_2 G877_3 G877_4 G877_5 G877_6 G877_7 G877_8 G877_9 X877
    refine Own.iconst X890 (v := 0) at_116 rfl ?_
    refine Own.istore X890 at_117 (l' := #[.val (.int i0), .val (.int i1), .val (.int i2), .val (.int i3), .val (.int i4), .val (.int v0), .val (.int v1), .val (.int v2), .val (.ref sa_30_1), .val (.ref sa_36_4), .val (.ref sa_42_9), .val (.ref sa_49_16), .val (.int mn), .val (.double d72), .second, .val (.ref pop), .val (.int (0 : Int32)), .unset, .unset, .unset, .unset, .unset, .unset, .unset, .unset, .unset, .unset, .unset]) rfl ?_
    refine Own.iload X890 at_119 rfl ?_
    refine Own.istore X890 at_121 (l' := #[.val (.int i0), .val (.int i1), .val (.int i2), .val (.int i3), .val (.int i4), .val (.int v0), .val (.int v1), .val (.int v2), .val (.ref sa_30_1), .val (.ref sa_36_4), .val (.ref sa_42_9), .val (.ref sa_49_16), .val (.int mn), .val (.double d72), .second, .val (.ref pop), .val (.int (0 : Int32)), .val (.int v0), .unset, .unset, .unset, .unset, .unset, .unset, .unset, .unset, .unset, .unset]) rfl ?_
    refine Own.iload X890 at_123 rfl ?_
    refine Own.iload X890 at_125 rfl ?_
    refine Own.icmp_ X890 (pc' := 137) at_127 (by decide) (fun _ => ?_) (fun q => absurd (show v0.toInt ≤ v1.toInt from by omega) q)
    refine Own.iload X890 at_137 rfl ?_
    refine Own.iload X890 at_139 rfl ?_
    refine Own.icmp_ X890 (pc' := 151) at_141 (by decide) (fun _ => ?_) (fun q => absurd (show v0.toInt ≤ v2.toInt from by omega) q)
    refine Own.iconst X890 (v := 0) at_151 rfl ?_
    refine Own.istore X890 at_152 (l' := #[.val (.int i0), .val (.int i1), .val (.int i2), .val (.int i3), .val (.int i4), .val (.int v0), .val (.int v1), .val (.int v2), .val (.ref sa_30_1), .val (.ref sa_36_4), .val (.ref sa_42_9), .val (.ref sa_49_16), .val (.int mn), .val (.double d72), .second, .val (.ref pop), .val (.int (0 : Int32)), .val (.int v0), .val (.int (0 : Int32)), .unset, .unset, .unset, .unset, .unset, .unset, .unset, .unset, .unset]) rfl ?_
    refine Own.iload X890 at_154 rfl ?_
    refine Own.istore X890 at_156 (l' := #[.val (.int i0), .val (.int i1), .val (.int i2), .val (.int i3), .val (.int i4), .val (.int v0), .val (.int v1), .val (.int v2), .val (.ref sa_30_1), .val (.ref sa_36_4), .val (.ref sa_42_9), .val (.ref sa_49_16), .val (.int mn), .val (.double d72), .second, .val (.ref pop), .val (.int (0 : Int32)), .val (.int v0), .val (.int (0 : Int32)), .val (.int v0), .unset, .unset, .unset, .unset, .unset, .unset, .unset, .unset]) rfl ?_
    refine Own.iload X890 at_158 rfl ?_
    refine Own.iload X890 at_160 rfl ?_
    refine Own.icmp_ X890 (pc' := 172) at_162 (by decide) (fun _ => ?_) (fun q => absurd (show v1.toInt ≤ v0.toInt from by omega) q)
    refine Own.iload X890 at_172 rfl ?_
    refine Own.iload X890 at_174 rfl ?_
    refine Own.icmp_ X890 (pc' := 186) at_176 (by decide) (fun _ => ?_) (fun q => absurd (show v2.toInt ≤ v0.toInt from by omega) q)
    refine Own.iload X890 at_186 rfl ?_
    refine Own.iff_ X890 (pc' := 195) at_188 (by decide) (fun q => absurd (show ¬ ((0 : Int) = (0 : Int)) from q) (show ¬ (¬ ((0 : Int) = (0 : Int))) from fun z => z (by decide))) (fun _ => ?_)
    refine Own.iloadN X890 at_191 rfl ?_
    refine Own.goto_ X890 (pc' := 206) at_192 (by decide) ?_
    refine Own.istore X890 at_206 (l' := #[.val (.int i0), .val (.int i1), .val (.int i2), .val (.int i3), .val (.int i4), .val (.int v0), .val (.int v1), .val (.int v2), .val (.ref sa_30_1), .val (.ref sa_36_4), .val (.ref sa_42_9), .val (.ref sa_49_16), .val (.int mn), .val (.double d72), .second, .val (.ref pop), .val (.int (0 : Int32)), .val (.int v0), .val (.int (0 : Int32)), .val (.int v0), .val (.int i1), .unset, .unset, .unset, .unset, .unset, .unset, .unset]) rfl ?_
    refine Own.aload X890 at_208 rfl rfl ?_
    refine Own.callV_ (y := mn_5) (z := mn_5) (a := pop) X890 at_210 (Own.wd hw 50 rfl) (Own.wd hw 51 rfl) (Own.wd hw 53 rfl) (Own.wd hw 52 rfl) rfl (Own.wd hw 12 rfl) (Own.wd hw 54 rfl) (by decide) F895 (rm7 l Z a0 hw pop (3 : Int32) h890 n0 Z902 G890_3 ) (lenOf pd_18 rfl) rfl (argsL := []) (rest := []) rfl (W := 0) (Nat.le_of_eq rfl) (by decide) (by decide) (by decide) (by decide) fun T903 h903 v903 X903 q903 => ?_
    obtain ⟨rfl, rfl⟩ := q903
    show Own.Go p e below s n0 _ _ _ (T903.setTop (mkF m 213 _ [.int (3 : Int32)]))
    clear X890
    refine Own.iconst X903 (v := 3) at_213 rfl ?_
    refine Own.icmp_ X903 (pc' := 221) at_214 (by decide) (fun q => absurd (show ¬ ((3 : Int) = (3 : Int)) from q) (show ¬ (¬ ((3 : Int) = (3 : Int))) from fun z => z (by decide))) (fun _ => ?_)
    refine Own.iconst X903 (v := 1) at_217 rfl ?_
    refine Own.goto_ X903 (pc' := 222) at_218 (by decide) ?_
    refine Own.istore X903 at_222 (l' := #[.val (.int i0), .val (.int i1), .val (.int i2), .val (.int i3), .val (.int i4), .val (.int v0), .val (.int v1), .val (.int v2), .val (.ref sa_30_1), .val (.ref sa_36_4), .val (.ref sa_42_9), .val (.ref sa_49_16), .val (.int mn), .val (.double d72), .second, .val (.ref pop), .val (.int (0 : Int32)), .val (.int v0), .val (.int (0 : Int32)), .val (.int v0), .val (.int i1), .val (.int (1 : Int32)), .unset, .unset, .unset, .unset, .unset, .unset]) rfl ?_
    refine Own.aload X903 at_224 rfl rfl ?_
    refine Own.callV_ (y := mn_6) (z := mn_6) (a := pop) X903 at_226 (Own.wd hw 55 rfl) (Own.wd hw 56 rfl) (Own.wd hw 58 rfl) (Own.wd hw 57 rfl) rfl (Own.wd hw 12 rfl) (Own.wd hw 59 rfl) (by decide) F895 (rm8_0 l Z a0 hw pop oa_81_45 k_oa_81_45 d92 d102 d112 h890 n0 Z902 G890_1 G890_6 G890_8 ) (lenOf pd_19 rfl) rfl (argsL := []) (rest := []) rfl (W := 0) (Nat.le_of_eq rfl) (by decide) (by decide) (by decide) (by decide) fun T904 h904 v904 X904 q904 => ?_
    obtain ⟨rfl, rfl⟩ := q904
    show Own.Go p e below s n0 _ _ _ (T904.setTop (mkF m 229 _ [.double d92]))
    clear X903
    refine Own.iload X904 at_229 rfl ?_
    obtain ⟨d231, e_d231⟩ : ∃ v, FP.i2d v0 = v := ⟨_, rfl⟩
    obtain ⟨f_d231, z_d231⟩ := Own.i2d_v e_d231
    have n_d231 := f_d231.noNaN
    refine Own.i2d X904 at_231 e_d231 ?_
    refine Own.dcmpF X904 (pc' := 240) at_232 at_233 (by decide) n_d92 n_d231 (fun q => absurd (show ¬ (Own.dz d92 = Own.dz d231) from q) (show ¬ (¬ (Own.dz d92 = Own.dz d231)) from fun z => z (by rw [z_d92, z_d231]))) (fun _ => ?_)
    refine Own.iconst X904 (v := 1) at_236 rfl ?_
    refine Own.goto_ X904 (pc' := 241) at_237 (by decide) ?_
    refine Own.istore X904 at_241 (l' := #[.val (.int i0), .val (.int i1), .val (.int i2), .val (.int i3), .val (.int i4), .val (.int v0), .val (.int v1), .val (.int v2), .val (.ref sa_30_1), .val (.ref sa_36_4), .val (.ref sa_42_9), .val (.ref sa_49_16), .val (.int mn), .val (.double d72), .second, .val (.ref pop), .val (.int (0 : Int32)), .val (.int v0), .val (.int (0 : Int32)), .val (.int v0), .val (.int i1), .val (.int (1 : Int32)), .val (.int (1 : Int32)), .unset, .unset, .unset, .unset, .unset]) rfl ?_
    refine Own.aload X904 at_243 rfl rfl ?_
    refine Own.callV_ (y := mn_7) (z := mn_7) (a := pop) X904 at_245 (Own.wd hw 60 rfl) (Own.wd hw 61 rfl) (Own.wd hw 63 rfl) (Own.wd hw 62 rfl) rfl (Own.wd hw 12 rfl) (Own.wd hw 64 rfl) (by decide) F895 (rm9_0 l Z a0 hw pop pl_81_45 x0_81_45 x1_81_45 x2_81_45 k_pl_81_45 c_pl_81_45 (i1 >>> ((1 : Int32) &&& 31)) ((i1 >>> ((1 : Int32) &&& 31)) + (1073741824 : Int32)) h890 n0 Z902 G890_0 G890_6 F896 F900 F897 ) (lenOf pd_20 rfl) rfl (argsL := []) (rest := []) rfl (W := 0) (Nat.le_of_eq rfl) (by decide) (by decide) (by decide) (by decide) fun T905 h905 v905 X905 q905 => ?_
    obtain ⟨cl_245_905, rfl, K905, B905_0, G905_0⟩ := q905
    have F906 := F891.keep K905 nin0
    have F907 := F892.keep K905 nin0
    have F908 := F893.keep K905 nin0
    have F909 := F894.keep K905 nin0
    have F910 := F895.keep K905
    have F911 := F896.keep K905 nin0
    have F912 := F897.keep K905
    have F913 := F898.keep K905
    have F914 := F899.keep K905
    have F915 := F900.keep K905 nin0
    have F916 := F901.keep K905 nin0
    have F917 := G890_0.keep K905 nin0
    have F918 := G890_1.keep K905 nin0
    have F919 := G890_2.keep K905 nin0
    have F920 := G890_3.keep K905 nin0
    have F921 := G890_4.keep K905 nin0
    have F922 := G890_5.keep K905 nin0
    have F923 := G890_6.keep K905 nin0
    have F924 := G890_7.keep K905 nin0
    have F925 := G890_8.keep K905 nin0
    have F926 := G890_9.keep K905 nin0
    have Z927 : n0 ≤ h905.size := Nat.le_trans Z902 K905.1
    have ne928 : sa_30_1 ≠ cl_245_905 := Nat.ne_of_lt (Nat.lt_of_lt_of_le F891.lt B905_0)
    have ne929 : sa_36_4 ≠ cl_245_905 := Nat.ne_of_lt (Nat.lt_of_lt_of_le F892.lt B905_0)
    have ne930 : sa_42_9 ≠ cl_245_905 := Nat.ne_of_lt (Nat.lt_of_lt_of_le F893.lt B905_0)
    have ne931 : sa_49_16 ≠ cl_245_905 := Nat.ne_of_lt (Nat.lt_of_lt_of_le F894.lt B905_0)
    have ne932 : pop ≠ cl_245_905 := Nat.ne_of_lt (Nat.lt_of_lt_of_le F895.lt B905_0)
    have ne933 : pl_81_45 ≠ cl_245_905 := Nat.ne_of_lt (Nat.lt_of_lt_of_le F896.lt B905_0)
    have ne934 : x0_81_45 ≠ cl_245_905 := Nat.ne_of_lt (Nat.lt_of_lt_of_le F897.lt B905_0)
    have ne935 : x1_81_45 ≠ cl_245_905 := Nat.ne_of_lt (Nat.lt_of_lt_of_le F898.lt B905_0)
    have ne936 : x2_81_45 ≠ cl_245_905 := Nat.ne_of_lt (Nat.lt_of_lt_of_le F899.lt B905_0)
    have ne937 : oa_81_45 ≠ cl_245_905 := Nat.ne_of_lt (Nat.lt_of_lt_of_le G890_8.lt B905_0)
    have ne938 : na_81_45 ≠ cl_245_905 := Nat.ne_of_lt (Nat.lt_of_lt_of_le G890_9.lt B905_0)
    have fr939 : n0 ≤ cl_245_905 := Nat.le_trans Z902 B905_0
    show Own.Go p e below s n0 _ _ _ (T905.setTop (mkF m 248 _ [.ref cl_245_905]))
    clear F891 F892 F893 F894 F895 F896 F897 F898 F899 F900 F901 G890_0 G890_1 G890_2 G890_3 G890_4 G890_5 G890_6 G890_7 G890_8 G890_9 X904
    refine Own.iload X905 at_248 rfl ?_
    refine Own.callS_ (y := mn_13) X905 at_250 (Own.wd hw 74 rfl) (Own.wd hw 75 rfl) (Own.wd hw 2 rfl) (Own.wd hw 76 rfl) (by decide) (rm10 l Z a0 hw cl_245_905 i1 c_pl_81_45 (i1 >>> ((1 : Int32) &&& 31)) ((i1 >>> ((1 : Int32) &&& 31)) + (1073741824 : Int32)) h905 n0 Z927 G905_0 rfl rfl) (lenOf pd_21 rfl) rfl (argsL := [.ref cl_245_905, .int i1]) (rest := []) rfl (W := 0) (Nat.le_of_eq rfl) (by decide) (by decide) (by decide) (by decide) fun T940 h940 v940 X940 q940 => ?_
    obtain ⟨rfl, rfl⟩ := q940
    show Own.Go p e below s n0 _ _ _ (T940.setTop (mkF m 253 _ [.int (1 : Int32)]))
    clear X905
    refine Own.istore X940 at_253 (l' := #[.val (.int i0), .val (.int i1), .val (.int i2), .val (.int i3), .val (.int i4), .val (.int v0), .val (.int v1), .val (.int v2), .val (.ref sa_30_1), .val (.ref sa_36_4), .val (.ref sa_42_9), .val (.ref sa_49_16), .val (.int mn), .val (.double d72), .second, .val (.ref pop), .val (.int (0 : Int32)), .val (.int v0), .val (.int (0 : Int32)), .val (.int v0), .val (.int i1), .val (.int (1 : Int32)), .val (.int (1 : Int32)), .val (.int (1 : Int32)), .unset, .unset, .unset, .unset]) rfl ?_
    refine Own.aload X940 at_255 rfl rfl ?_
    refine Own.aload X940 at_257 rfl rfl ?_
    refine Own.dload X940 at_259 rfl ?_
    refine Own.callV_ (y := mn_11) (z := mn_11) (a := pop) X940 at_261 (Own.wd hw 77 rfl) (Own.wd hw 78 rfl) (Own.wd hw 80 rfl) (Own.wd hw 79 rfl) rfl (Own.wd hw 12 rfl) (Own.wd hw 81 rfl) (by decide) F910 (rm11_0N l Z a0 hw pop sa_49_16 d72 pl_81_45 oa_81_45 na_81_45 x0_81_45 x1_81_45 x2_81_45 k_pl_81_45 c_pl_81_45 k_oa_81_45 k_na_81_45 d92 d102 d112 (0 : Int64) ((0 : Int64) + (1 : Int64)) (((0 : Int64) + (1 : Int64)) + (1 : Int64)) ((((0 : Int64) + (1 : Int64)) + (1 : Int64)) + (1 : Int64)) k_sa_49_16 (i4 >>> ((1 : Int32) &&& 31)) ((i4 >>> ((1 : Int32) &&& 31)) + (1073741824 : Int32)) (0 : Int32) (i1 >>> ((1 : Int32) &&& 31)) ((i1 >>> ((1 : Int32) &&& 31)) + (1073741824 : Int32)) h905 n0 Z927 F910 F917 F918 F919 F920 F921 F922 F923 F911 F915 F925 F926 F909 ne56 ne80 ne86 ne62 ne68 ne74 U45_3 U45_4 U45_0 U45_1 U45_2 U45_14 (Ne.symm U45_7) (Ne.symm U45_10) (Ne.symm U45_12) (Ne.symm U45_8) (Ne.symm U45_11) (Ne.symm U45_13) U45_5 U45_6 U45_9 ne31 ne55 ne79 ne85 ne61 ne67 ne73 fr32 fr63 fr69 fr75 fr81 fr87 n_d72 n_d92 n_d102 n_d112 (by rw [z_d72, z_d92]; exact Own.U_lt.mpr (by omega)) (by rw [z_d72, z_d102]; exact Own.U_lt.mpr (by omega)) (by rw [z_d72, z_d112]; exact Own.U_lt.mpr (by omega)) d92 (by decide) rfl n_d92 (by rw [z_d72, z_d92]; exact Own.U_lt.mpr (by omega))) (lenOf pd_10 rfl) rfl (argsL := [.ref sa_49_16, .double d72]) (rest := []) rfl (W := 0) (Nat.le_of_eq rfl) (by decide) (by decide) (by decide) (by decide) fun T941 h941 v941 X941 q941 => ?_
    obtain ⟨rfl, K941, G941_0, G941_1, G941_2⟩ := q941
    have F942 := F906.keep K941 (ninS ne28 (ninS ne58 (ninS ne76 (ninS ne82 nin0))))
    have F943 := F907.keep K941 (ninS ne29 (ninS ne59 (ninS ne77 (ninS ne83 nin0))))
    have F944 := F908.keep K941 (ninS ne30 (ninS ne60 (ninS ne78 (ninS ne84 nin0))))
    have F945 := F909.keep K941 (ninS ne31 (ninS ne61 (ninS ne79 (ninS ne85 nin0))))
    have F946 := F910.keep K941
    have F947 := F911.keep K941 (ninS (Ne.symm ne56) (ninS U45_0 (ninS U45_3 (ninS U45_4 nin0))))
    have F948 := F912.keep K941
    have F949 := F913.keep K941
    have F950 := F914.keep K941
    have F951 := F916.keep K941 (ninS (Ne.symm ne68) (ninS (Ne.symm U45_5) (ninS U45_10 (ninS U45_11 nin0))))
    have F952 := F924.keep K941 (ninS (Ne.symm ne74) (ninS (Ne.symm U45_6) (ninS U45_12 (ninS U45_13 nin0))))
    have F953 := G905_0.keep K941 (ninS (Ne.symm ne932) (ninS (Ne.symm ne934) (ninS (Ne.symm ne937) (ninS (Ne.symm ne938) nin0))))
    have Z954 : n0 ≤ h941.size := Nat.le_trans Z927 K941.1
    show Own.Go p e below s n0 _ _ _ (T941.setTop (mkF m 264 _ [.int (1 : Int32)]))
    clear F906 F907 F908 F909 F910 F911 F912 F913 F914 F915 F916 F917 F918 F919 F920 F921 F922 F923 F924 F925 F926 G905_0 X940
    refine Own.istore X941 at_264 (l' := #[.val (.int i0), .val (.int i1), .val (.int i2), .val (.int i3), .val (.int i4), .val (.int v0), .val (.int v1), .val (.int v2), .val (.ref sa_30_1), .val (.ref sa_36_4), .val (.ref sa_42_9), .val (.ref sa_49_16), .val (.int mn), .val (.double d72), .second, .val (.ref pop), .val (.int (0 : Int32)), .val (.int v0), .val (.int (0 : Int32)), .val (.int v0), .val (.int i1), .val (.int (1 : Int32)), .val (.int (1 : Int32)), .val (.int (1 : Int32)), .val (.int (1 : Int32)), .unset, .unset, .unset]) rfl ?_
    refine Own.aload X941 at_266 rfl rfl ?_
    refine Own.iconst X941 (v := 0) at_268 rfl ?_
    refine Own.callV_ (y := mn_8) (z := mn_8) (a := pop) X941 at_269 (Own.wd hw 86 rfl) (Own.wd hw 87 rfl) (Own.wd hw 89 rfl) (Own.wd hw 88 rfl) rfl (Own.wd hw 12 rfl) (Own.wd hw 90 rfl) (by decide) F946 (rm13_0 l Z a0 hw pop pl_81_45 x0_81_45 x1_81_45 x2_81_45 k_pl_81_45 h941 n0 Z954 G941_0 F947 ) (lenOf pd_14 rfl) rfl (argsL := [.int (0 : Int32)]) (rest := []) rfl (W := 0) (Nat.le_of_eq rfl) (by decide) (by decide) (by decide) (by decide) fun T955 h955 v955 X955 q955 => ?_
    obtain ⟨rfl, rfl⟩ := q955
    show Own.Go p e below s n0 _ _ _ (T955.setTop (mkF m 272 _ [.ref x0_81_45]))
    clear X941
    refine Own.iload X955 at_272 rfl ?_
    refine Own.iff_ X955 (pc' := 282) at_274 (by decide) (fun q => absurd (show ¬ ((0 : Int) = (0 : Int)) from q) (show ¬ (¬ ((0 : Int) = (0 : Int))) from fun z => z (by decide))) (fun _ => ?_)
    refine Own.iload X955 at_277 rfl ?_
    refine Own.goto_ X955 (pc' := 283) at_279 (by decide) ?_
    refine Own.callS_ (y := mn_13) X955 at_283 (Own.wd hw 74 rfl) (Own.wd hw 75 rfl) (Own.wd hw 2 rfl) (Own.wd hw 76 rfl) (by decide) (rm10 l Z a0 hw x0_81_45 i4 c_pl_81_45 (i4 >>> ((1 : Int32) &&& 31)) ((i4 >>> ((1 : Int32) &&& 31)) + (1073741824 : Int32)) h941 n0 Z954 G941_2 rfl rfl) (lenOf pd_21 rfl) rfl (argsL := [.ref x0_81_45, .int i4]) (rest := []) rfl (W := 0) (Nat.le_of_eq rfl) (by decide) (by decide) (by decide) (by decide) fun T956 h956 v956 X956 q956 => ?_
    obtain ⟨rfl, rfl⟩ := q956
    show Own.Go p e below s n0 _ _ _ (T956.setTop (mkF m 286 _ [.int (1 : Int32)]))
    clear X955
    refine Own.istore X956 at_286 (l' := #[.val (.int i0), .val (.int i1), .val (.int i2), .val (.int i3), .val (.int i4), .val (.int v0), .val (.int v1), .val (.int v2), .val (.ref sa_30_1), .val (.ref sa_36_4), .val (.ref sa_42_9), .val (.ref sa_49_16), .val (.int mn), .val (.double d72), .second, .val (.ref pop), .val (.int (0 : Int32)), .val (.int v0), .val (.int (0 : Int32)), .val (.int v0), .val (.int i1), .val (.int (1 : Int32)), .val (.int (1 : Int32)), .val (.int (1 : Int32)), .val (.int (1 : Int32)), .val (.int (1 : Int32)), .unset, .unset]) rfl ?_
    refine Own.aload X956 at_288 rfl rfl ?_
    refine Own.iconst X956 (v := 1) at_290 rfl ?_
    refine Own.callV_ (y := mn_8) (z := mn_8) (a := pop) X956 at_291 (Own.wd hw 86 rfl) (Own.wd hw 87 rfl) (Own.wd hw 89 rfl) (Own.wd hw 88 rfl) rfl (Own.wd hw 12 rfl) (Own.wd hw 90 rfl) (by decide) F946 (rm13_1 l Z a0 hw pop pl_81_45 x0_81_45 x1_81_45 x2_81_45 k_pl_81_45 h941 n0 Z954 G941_0 F947 ) (lenOf pd_14 rfl) rfl (argsL := [.int (1 : Int32)]) (rest := []) rfl (W := 0) (Nat.le_of_eq rfl) (by decide) (by decide) (by decide) (by decide) fun T957 h957 v957 X957 q957 => ?_
    obtain ⟨rfl, rfl⟩ := q957
    show Own.Go p e below s n0 _ _ _ (T957.setTop (mkF m 294 _ [.ref x1_81_45]))
    clear X956
    refine Own.iload X957 at_294 rfl ?_
    refine Own.iconst X957 (v := 1) at_296 rfl ?_
    refine Own.icmp_ X957 (pc' := 305) at_297 (by decide) (fun _ => ?_) (fun q => absurd (show ¬ ((0 : Int) = (1 : Int)) from by decide) q)
    refine Own.iloadN X957 at_305 rfl ?_
    refine Own.callS_ (y := mn_13) X957 at_306 (Own.wd hw 74 rfl) (Own.wd hw 75 rfl) (Own.wd hw 2 rfl) (Own.wd hw 76 rfl) (by decide) (rm10 l Z a0 hw x1_81_45 i2 c_pl_81_45 (i2 >>> ((1 : Int32) &&& 31)) ((i2 >>> ((1 : Int32) &&& 31)) + (1073741824 : Int32)) h941 n0 Z954 F951 rfl rfl) (lenOf pd_21 rfl) rfl (argsL := [.ref x1_81_45, .int i2]) (rest := []) rfl (W := 0) (Nat.le_of_eq rfl) (by decide) (by decide) (by decide) (by decide) fun T958 h958 v958 X958 q958 => ?_
    obtain ⟨rfl, rfl⟩ := q958
    show Own.Go p e below s n0 _ _ _ (T958.setTop (mkF m 309 _ [.int (1 : Int32)]))
    clear X957
    refine Own.istore X958 at_309 (l' := #[.val (.int i0), .val (.int i1), .val (.int i2), .val (.int i3), .val (.int i4), .val (.int v0), .val (.int v1), .val (.int v2), .val (.ref sa_30_1), .val (.ref sa_36_4), .val (.ref sa_42_9), .val (.ref sa_49_16), .val (.int mn), .val (.double d72), .second, .val (.ref pop), .val (.int (0 : Int32)), .val (.int v0), .val (.int (0 : Int32)), .val (.int v0), .val (.int i1), .val (.int (1 : Int32)), .val (.int (1 : Int32)), .val (.int (1 : Int32)), .val (.int (1 : Int32)), .val (.int (1 : Int32)), .val (.int (1 : Int32)), .unset]) rfl ?_
    refine Own.aload X958 at_311 rfl rfl ?_
    refine Own.iconst X958 (v := 2) at_313 rfl ?_
    refine Own.callV_ (y := mn_8) (z := mn_8) (a := pop) X958 at_314 (Own.wd hw 86 rfl) (Own.wd hw 87 rfl) (Own.wd hw 89 rfl) (Own.wd hw 88 rfl) rfl (Own.wd hw 12 rfl) (Own.wd hw 90 rfl) (by decide) F946 (rm13_2 l Z a0 hw pop pl_81_45 x0_81_45 x1_81_45 x2_81_45 k_pl_81_45 h941 n0 Z954 G941_0 F947 ) (lenOf pd_14 rfl) rfl (argsL := [.int (2 : Int32)]) (rest := []) rfl (W := 0) (Nat.le_of_eq rfl) (by decide) (by decide) (by decide) (by decide) fun T959 h959 v959 X959 q959 => ?_
    obtain ⟨rfl, rfl⟩ := q959
    show Own.Go p e below s n0 _ _ _ (T959.setTop (mkF m 317 _ [.ref x2_81_45]))
    clear X958
    refine Own.iload X959 at_317 rfl ?_
    refine Own.iconst X959 (v := 2) at_319 rfl ?_
    refine Own.icmp_ X959 (pc' := 328) at_320 (by decide) (fun _ => ?_) (fun q => absurd (show ¬ ((0 : Int) = (2 : Int)) from by decide) q)
    refine Own.iloadN X959 at_328 rfl ?_
    refine Own.callS_ (y := mn_13) X959 at_329 (Own.wd hw 74 rfl) (Own.wd hw 75 rfl) (Own.wd hw 2 rfl) (Own.wd hw 76 rfl) (by decide) (rm10 l Z a0 hw x2_81_45 i3 c_pl_81_45 (i3 >>> ((1 : Int32) &&& 31)) ((i3 >>> ((1 : Int32) &&& 31)) + (1073741824 : Int32)) h941 n0 Z954 F952 rfl rfl) (lenOf pd_21 rfl) rfl (argsL := [.ref x2_81_45, .int i3]) (rest := []) rfl (W := 0) (Nat.le_of_eq rfl) (by decide) (by decide) (by decide) (by decide) fun T960 h960 v960 X960 q960 => ?_
    obtain ⟨rfl, rfl⟩ := q960
    show Own.Go p e below s n0 _ _ _ (T960.setTop (mkF m 332 _ [.int (1 : Int32)]))
    clear X959
    refine Own.istore X960 at_332 (l' := #[.val (.int i0), .val (.int i1), .val (.int i2), .val (.int i3), .val (.int i4), .val (.int v0), .val (.int v1), .val (.int v2), .val (.ref sa_30_1), .val (.ref sa_36_4), .val (.ref sa_42_9), .val (.ref sa_49_16), .val (.int mn), .val (.double d72), .second, .val (.ref pop), .val (.int (0 : Int32)), .val (.int v0), .val (.int (0 : Int32)), .val (.int v0), .val (.int i1), .val (.int (1 : Int32)), .val (.int (1 : Int32)), .val (.int (1 : Int32)), .val (.int (1 : Int32)), .val (.int (1 : Int32)), .val (.int (1 : Int32)), .val (.int (1 : Int32))]) rfl ?_
    refine Own.iload X960 at_334 rfl ?_
    refine Own.iff_ X960 (pc' := 373) at_336 (by decide) (fun q => absurd (show (1 : Int) = (0 : Int) from q) (show ¬ ((1 : Int) = (0 : Int)) from by decide)) (fun _ => ?_)
    refine Own.iload X960 at_339 rfl ?_
    refine Own.iff_ X960 (pc' := 373) at_341 (by decide) (fun q => absurd (show (1 : Int) = (0 : Int) from q) (show ¬ ((1 : Int) = (0 : Int)) from by decide)) (fun _ => ?_)
    refine Own.iload X960 at_344 rfl ?_
    refine Own.iff_ X960 (pc' := 373) at_346 (by decide) (fun q => absurd (show (1 : Int) = (0 : Int) from q) (show ¬ ((1 : Int) = (0 : Int)) from by decide)) (fun _ => ?_)
    refine Own.iload X960 at_349 rfl ?_
    refine Own.iff_ X960 (pc' := 373) at_351 (by decide) (fun q => absurd (show (1 : Int) = (0 : Int) from q) (show ¬ ((1 : Int) = (0 : Int)) from by decide)) (fun _ => ?_)
    refine Own.iload X960 at_354 rfl ?_
    refine Own.iff_ X960 (pc' := 373) at_356 (by decide) (fun q => absurd (show (1 : Int) = (0 : Int) from q) (show ¬ ((1 : Int) = (0 : Int)) from by decide)) (fun _ => ?_)
    refine Own.iload X960 at_359 rfl ?_
    refine Own.iff_ X960 (pc' := 373) at_361 (by decide) (fun q => absurd (show (1 : Int) = (0 : Int) from q) (show ¬ ((1 : Int) = (0 : Int)) from by decide)) (fun _ => ?_)
    refine Own.iload X960 at_364 rfl ?_
    refine Own.iff_ X960 (pc' := 373) at_366 (by decide) (fun q => absurd (show (1 : Int) = (0 : Int) from q) (show ¬ ((1 : Int) = (0 : Int)) from by decide)) (fun _ => ?_)
    refine Own.iconst X960 (v := 1) at_369 rfl ?_
    refine Own.goto_ X960 (pc' := 374) at_370 (by decide) ?_
    exact Own.retB X960 at_374 (by decide) rfl (by decide) (by decide)
set_option maxRecDepth 65536 in
set_option maxHeartbeats 40000000 in
theorem comes_1 {Post : Tables → Env → Array Value → State → Outcome → State → Prop} (hpost : ∀ tb e args s v u, (limb_1_1.after args s (.returned v) u = true ∧ limb_1_2.after args s (.returned v) u = true ∧ True) → FrameEnd s (.returned v) u (Jvm.fieldLocs frame_1_writes args s ++ Jvm.arrayLocs frame_1_arrays args s ++ Jvm.staticLocs frame_1_statics s) 32 128 → Post tb e args s (.returned v) u) :
    ArmFor flags0 classFile x code maxLocals ret World_1 tables_1 room_1 Calls_1 rest_1 Pre_1 Post := by
  intro l hfl _ _ p e ha hc hk s m args below hf hA hF happ hP
  obtain ⟨hcalls, hrest, hpre⟩ := hP
  obtain ⟨-, -, -, hnamed, -, -, -, hat⟩ := (Spec.applies_iff hf).mp happ
  obtain ⟨hg, hn⟩ := and_e (Cond.before_iff.mp (show (Jvm.Cond.and given_1 narrow_1).before args s = true from hpre))
  obtain ⟨g0, gs1⟩ := and_e hg
  obtain ⟨g1, gs2⟩ := and_e gs1
  obtain ⟨g2, gs3⟩ := and_e gs2
  obtain ⟨g3, gs4⟩ := and_e gs3
  obtain ⟨g4, gs5⟩ := and_e gs4
  have g5 := gs5
  obtain ⟨w0, w1, w2, w3, w4, rfl⟩ : ∃ w0 w1 w2 w3 w4 : Value, args = #[w0, w1, w2, w3, w4] := by
    have hs : args.size = 5 := by simpa [Cond.value, given_1] using g0
    obtain ⟨L⟩ := args
    match L, hs with
    | [w0, w1, w2, w3, w4], _ => exact ⟨w0, w1, w2, w3, w4, rfl⟩
  have hw := fun d (hd : d ∈ tables_1) => atoms_spec (ws := Jvm.Cond.code x code maxLocals ret :: tables_1) hat d (List.mem_cons_of_mem _ hd)
  obtain ⟨i0, ei0⟩ := is_v g1
  obtain rfl : w0 = (.int i0) := Option.some.inj ei0
  obtain ⟨i1, ei1⟩ := is_v g2
  obtain rfl : w1 = (.int i1) := Option.some.inj ei1
  obtain ⟨i2, ei2⟩ := is_v g3
  obtain rfl : w2 = (.int i2) := Option.some.inj ei2
  obtain ⟨i3, ei3⟩ := is_v g4
  obtain rfl : w3 = (.int i3) := Option.some.inj ei3
  obtain ⟨i4, ei4⟩ := is_v g5
  obtain rfl : w4 = (.int i4) := Option.some.inj ei4
  obtain ⟨n, o, h1, h2, h3, v, L, rfl, ⟨hQ, N⟩, hq⟩ := rm0 l s _ hw i0 i1 i2 i3 i4 s.heap s.heap.size (Nat.le_refl _)  p e ha hc hk s m _ below hf ((Spec.applies_iff_loose hf).mp happ).1 ⟨rfl, State.Warmed39.refl s, rfl⟩ trivial
  obtain rfl := hQ
  refine ⟨n, _, h1, h2, h3, hpost _ _ _ _ _ _ ⟨Cond.after_iff.mpr rfl, Cond.after_iff.mpr (eq_i res_at (Term.int_eval (1)) rfl), trivial⟩ ⟨hq.1, hq.2.1, (hq.2.2.sift fun y hy => Or.inr (N y hy)).mono (by decide) (by decide)⟩⟩
theorem main_1_1 : Claimed_1_1 := comes_1 fun _ _ _ _ _ _ h hF => ⟨h.1, hF⟩
theorem main_1_2 : Claimed_1_2 := comes_1 fun _ _ _ _ _ _ h hF => ⟨h.2.1, hF⟩

end Jvm.Pilot.@@N@@
namespace Jvm.Pilot.@@N@@
open Jvm Jvm.ClassFile Sem Op Lib Jvm.Free Jvm.Stand Jvm.Pilot.@@N@@.Jvm.D
/-! MADE BY PROGRAM (witnessworld.py) out of the Statement's table words and the real class files: 16 classes; the members and pool entries that the words name. The judged class is class 1, her method 3. -/
namespace start1
open Jvm.ClassFile
def u (s : String) : CpInfo := .utf8 (stringToUtf16 s)
/-- a pool by its gaps: so many unusable entries, then the entry; so many at the end -/
def gap : Nat → List CpInfo → List CpInfo
  | 0, r => r
  | n + 1, r => .unusable :: gap n r
def poolList (es : List (Nat × CpInfo)) (last : Nat) : List CpInfo := es.foldr (fun e r => gap e.1 (e.2 :: r)) (gap last [])
def pool (es : List (Nat × CpInfo)) (last : Nat) : Array CpInfo := ⟨poolList es last⟩
def fileOf (pool : Array CpInfo) (this : Nat) (attrs : Array Attribute := #[]) (ms : Array MethodInfo := #[]) (fl : Nat := 33) (sup : Nat := 0) (ifs : Array Nat := #[]) (fds : Array FieldInfo := #[]) : ClassFile where
  minorVersion := 0
  majorVersion := 65
  constantPool := pool
  accessFlags := fl
  thisClass := this
  superClass := sup
  interfaces := ifs
  fields := fds
  methods := ms
  attributes := attrs
def plain (name : String) (sup : Option ClassId) : Class where
  name := name
  kind := .ordinary
  loader := none
  accessFlags := 33
  super := sup
  interfaces := #[]
  cf := none
  fields := #[]
  methods := #[]
  instanceTypes := #[]
  staticTypes := #[]
  resolved := #[]
  callSites := []
  init := .initialized
  statics := none
  mirror := none

def pool0 : Array CpInfo := pool [(5, u "<init>"), (0, u "()V"), (1, .class_ 10), (1, u "java/lang/Object"), (85, u "clone"), (0, u "()Ljava/lang/Object;")] 26

def k0c0 : Code := { maxStack := 0, maxLocals := 1, code := object_method_1_code, exceptionTable := #[], attributes := #[] }
def k0m0 : Method := { name := "<init>", desc := "()V", sig := { parameters := [], returnType := none }, accessFlags := 1, code := some k0c0 }
def k0m1 : Method := { name := "clone", desc := "()Ljava/lang/Object;", sig := { parameters := [], returnType := some (.object "java/lang/Object") }, accessFlags := 260, code := none }
/-- java/lang/Object -/
def k0 : Class := { plain "java/lang/Object" none with
  accessFlags := 33
  interfaces := #[]
  cf := some (fileOf pool0 8 #[] #[{ accessFlags := 1, nameIndex := 5, descriptorIndex := 6, attributes := #[] }, { accessFlags := 260, nameIndex := 96, descriptorIndex := 97, attributes := #[] }] 33 0 #[] #[])
  fields := #[]
  methods := #[k0m0, k0m1]
  instanceTypes := #[]
  staticTypes := #[]
  resolved := Array.replicate 124 none
  statics := none }

def pool1 : Array CpInfo := pool [(2, .class_ 4), (1, u "java/lang/Object"), (0, u "<init>"), (0, u "()V"), (0, .integer 1073741824), (0, .methodref 9 10), (0, .class_ 11), (0, .nameAndType 12 13), (0, u "com/example/allocus/allocus/method/PopulationAddPinLaw"), (0, u "sites"), (0, u "(I)[I"), (0, .methodref 15 16), (0, .class_ 17), (0, .nameAndType 18 19), (0, u "java/lang/Math"), (0, u "min"), (0, u "(II)I"), (0, .class_ 21), (0, u "com/example/allocus/allocus/method/Population"), (0, .methodref 20 23), (0, .nameAndType 5 24), (0, u "(II)V"), (0, .methodref 20 26), (0, .nameAndType 27 28), (0, u "add"), (0, u "([ID)V"), (0, .methodref 20 30), (0, .nameAndType 31 32), (0, u "count"), (0, u "()I"), (0, .methodref 20 34), (0, .nameAndType 35 36), (0, u "bestObjective"), (0, u "()D"), (0, .methodref 20 38), (0, .nameAndType 39 40), (0, u "best"), (0, u "()[I"), (0, .methodref 9 42), (0, .nameAndType 43 44), (0, u "holds"), (0, u "([II)Z"), (0, .methodref 20 46), (0, .nameAndType 47 48), (0, u "offer"), (0, u "([ID)Z"), (0, .methodref 20 50), (0, .nameAndType 51 13), (0, u "plan"), (3, u "law"), (0, u "(IIIII)Z")] 4

def k1m0 : Method := { name := "<init>", desc := "()V", sig := { parameters := [], returnType := none }, accessFlags := 1, code := none }
def k1c1 : Code := { maxStack := 5, maxLocals := 1, code := method_2_code, exceptionTable := #[], attributes := #[] }
def k1m1 : Method := { name := "sites", desc := "(I)[I", sig := { parameters := [.int], returnType := some (.array .int) }, accessFlags := 10, code := some k1c1 }
def k1c2 : Code := { maxStack := 3, maxLocals := 2, code := method_3_code, exceptionTable := #[], attributes := #[] }
def k1m2 : Method := { name := "holds", desc := "([II)Z", sig := { parameters := [(.array .int), .int], returnType := some .boolean }, accessFlags := 10, code := some k1c2 }
def k1c3 : Code := { maxStack := 4, maxLocals := 28, code := code, exceptionTable := #[], attributes := #[] }
def k1m3 : Method := { name := "law", desc := "(IIIII)Z", sig := { parameters := [.int, .int, .int, .int, .int], returnType := some .boolean }, accessFlags := 9, code := some k1c3 }
/-- com/example/allocus/allocus/method/PopulationAddPinLaw -/
def k1 : Class := { plain "com/example/allocus/allocus/method/PopulationAddPinLaw" (some 0) with
  accessFlags := 49
  interfaces := #[]
  cf := some (fileOf pool1 9 #[] #[{ accessFlags := 1, nameIndex := 5, descriptorIndex := 6, attributes := #[] }, { accessFlags := 10, nameIndex := 12, descriptorIndex := 13, attributes := #[] }, { accessFlags := 10, nameIndex := 43, descriptorIndex := 44, attributes := #[] }, { accessFlags := 9, nameIndex := 55, descriptorIndex := 56, attributes := #[] }] 49 2 #[] #[])
  fields := #[]
  methods := #[k1m0, k1m1, k1m2, k1m3]
  instanceTypes := #[]
  staticTypes := #[]
  resolved := Array.replicate 61 none
  statics := none }

def pool2 : Array CpInfo := pool [(1, .class_ 2), (0, u "java/lang/Math"), (1, .class_ 6), (1, u "java/lang/Object"), (0, u "<init>"), (0, u "()V"), (89, .class_ 100), (1, u "java/lang/Math$RandomNumberGeneratorHolder"), (71, u "negativeZeroFloatBits"), (0, u "J"), (2, u "negativeZeroDoubleBits"), (24, u "min"), (43, u "$assertionsDisabled"), (0, u "Z"), (88, u "(II)I"), (2, u "twoToTheDoubleScaleDown"), (0, u "D"), (4, u "twoToTheDoubleScaleUp"), (9, u "E"), (3, u "PI"), (2, u "TAU"), (2, u "DEGREES_TO_RADIANS"), (0, u "RADIANS_TO_DEGREES")] 94

def k2m0 : Method := { name := "<init>", desc := "()V", sig := { parameters := [], returnType := none }, accessFlags := 2, code := none }
def k2c1 : Code := { maxStack := 2, maxLocals := 2, code := jdk_29_method_69_code, exceptionTable := #[], attributes := #[] }
def k2m1 : Method := { name := "min", desc := "(II)I", sig := { parameters := [.int, .int], returnType := some .int }, accessFlags := 9, code := some k2c1 }
/-- java/lang/Math -/
def k2 : Class := { plain "java/lang/Math" (some 0) with
  accessFlags := 49
  interfaces := #[]
  cf := some (fileOf pool2 1 #[.nestMembers #[98]] #[{ accessFlags := 2, nameIndex := 7, descriptorIndex := 8, attributes := #[] }, { accessFlags := 9, nameIndex := 201, descriptorIndex := 335, attributes := #[] }] 49 4 #[] #[{ accessFlags := 25, nameIndex := 354, descriptorIndex := 339, attributes := #[] }, { accessFlags := 25, nameIndex := 358, descriptorIndex := 339, attributes := #[] }, { accessFlags := 25, nameIndex := 361, descriptorIndex := 339, attributes := #[] }, { accessFlags := 26, nameIndex := 364, descriptorIndex := 339, attributes := #[] }, { accessFlags := 26, nameIndex := 365, descriptorIndex := 339, attributes := #[] }, { accessFlags := 26, nameIndex := 172, descriptorIndex := 173, attributes := #[] }, { accessFlags := 26, nameIndex := 176, descriptorIndex := 173, attributes := #[] }, { accessFlags := 8, nameIndex := 344, descriptorIndex := 339, attributes := #[] }, { accessFlags := 8, nameIndex := 338, descriptorIndex := 339, attributes := #[] }, { accessFlags := 4120, nameIndex := 245, descriptorIndex := 246, attributes := #[] }])
  fields := #[{ name := "E", type := .double, accessFlags := 25, slot := 0, constantValue := 0 }, { name := "PI", type := .double, accessFlags := 25, slot := 1, constantValue := 0 }, { name := "TAU", type := .double, accessFlags := 25, slot := 2, constantValue := 0 }, { name := "DEGREES_TO_RADIANS", type := .double, accessFlags := 26, slot := 3, constantValue := 0 }, { name := "RADIANS_TO_DEGREES", type := .double, accessFlags := 26, slot := 4, constantValue := 0 }, { name := "negativeZeroFloatBits", type := .long, accessFlags := 26, slot := 5, constantValue := 0 }, { name := "negativeZeroDoubleBits", type := .long, accessFlags := 26, slot := 6, constantValue := 0 }, { name := "twoToTheDoubleScaleUp", type := .double, accessFlags := 8, slot := 7, constantValue := 0 }, { name := "twoToTheDoubleScaleDown", type := .double, accessFlags := 8, slot := 8, constantValue := 0 }, { name := "$assertionsDisabled", type := .boolean, accessFlags := 4120, slot := 9, constantValue := 0 }]
  methods := #[k2m0, k2m1]
  instanceTypes := #[]
  staticTypes := #[.double, .double, .double, .double, .double, .long, .long, .double, .double, .boolean]
  resolved := Array.replicate 460 none
  statics := none }

def pool3 : Array CpInfo := pool [(1, .methodref 2 3), (0, .class_ 4), (0, .nameAndType 5 6), (0, u "java/lang/Object"), (0, u "<init>"), (0, u "()V"), (0, .class_ 8), (0, u "[[I"), (0, .fieldref 10 11), (0, .class_ 12), (0, .nameAndType 13 8), (0, u "com/example/allocus/allocus/method/Population"), (0, u "plans"), (0, .fieldref 10 15), (0, .nameAndType 16 17), (0, u "objectives"), (0, u "[D"), (0, .fieldref 10 19), (0, .nameAndType 20 21), (0, u "entered"), (0, u "[J"), (0, .fieldref 10 23), (0, .nameAndType 24 25), (0, u "count"), (0, u "I"), (0, .methodref 10 27), (0, .nameAndType 28 29), (0, u "put"), (0, u "(I[ID)V"), (0, .fieldref 10 31), (0, .nameAndType 32 25), (0, u "worst"), (0, .fieldref 10 34), (0, .nameAndType 35 25), (0, u "best"), (0, .methodref 10 37), (0, .nameAndType 38 39), (0, u "isMember"), (0, u "([ID)Z"), (0, .methodref 41 42), (0, .class_ 43), (0, .nameAndType 44 45), (0, u "[I"), (0, u "clone"), (0, u "()Ljava/lang/Object;"), (0, .methodref 47 48), (0, .class_ 49), (0, .nameAndType 50 51), (0, u "java/lang/System"), (0, u "arraycopy"), (0, u "(Ljava/lang/Object;ILjava/lang/Object;II)V"), (0, .fieldref 10 53), (0, .nameAndType 54 55), (0, u "entries"), (0, u "J"), (6, u "(II)V"), (4, u "()I"), (0, u "add"), (0, u "([ID)V"), (1, u "offer"), (0, u "plan"), (0, u "(I)[I"), (0, u "()[I"), (0, u "bestObjective"), (0, u "()D")] 2

def k3c0 : Code := { maxStack := 3, maxLocals := 3, code := prog_48_method_1_code, exceptionTable := #[], attributes := #[] }
def k3m0 : Method := { name := "<init>", desc := "(II)V", sig := { parameters := [.int, .int], returnType := none }, accessFlags := 0, code := some k3c0 }
def k3c1 : Code := { maxStack := 1, maxLocals := 1, code := prog_48_method_4_code, exceptionTable := #[], attributes := #[] }
def k3m1 : Method := { name := "count", desc := "()I", sig := { parameters := [], returnType := some .int }, accessFlags := 0, code := some k3c1 }
def k3c2 : Code := { maxStack := 5, maxLocals := 5, code := prog_48_method_5_code, exceptionTable := #[], attributes := #[] }
def k3m2 : Method := { name := "add", desc := "([ID)V", sig := { parameters := [(.array .int), .double], returnType := none }, accessFlags := 0, code := some k3c2 }
def k3c3 : Code := { maxStack := 5, maxLocals := 7, code := prog_48_method_6_code, exceptionTable := #[], attributes := #[] }
def k3m3 : Method := { name := "offer", desc := "([ID)Z", sig := { parameters := [(.array .int), .double], returnType := some .boolean }, accessFlags := 0, code := some k3c3 }
def k3c4 : Code := { maxStack := 2, maxLocals := 2, code := prog_48_method_7_code, exceptionTable := #[], attributes := #[] }
def k3m4 : Method := { name := "plan", desc := "(I)[I", sig := { parameters := [.int], returnType := some (.array .int) }, accessFlags := 0, code := some k3c4 }
def k3c5 : Code := { maxStack := 2, maxLocals := 1, code := prog_48_method_8_code, exceptionTable := #[], attributes := #[] }
def k3m5 : Method := { name := "best", desc := "()[I", sig := { parameters := [], returnType := some (.array .int) }, accessFlags := 0, code := some k3c5 }
def k3c6 : Code := { maxStack := 2, maxLocals := 1, code := prog_48_method_9_code, exceptionTable := #[], attributes := #[] }
def k3m6 : Method := { name := "bestObjective", desc := "()D", sig := { parameters := [], returnType := some .double }, accessFlags := 0, code := some k3c6 }
def k3c7 : Code := { maxStack := 5, maxLocals := 5, code := prog_48_method_10_code, exceptionTable := #[], attributes := #[] }
def k3m7 : Method := { name := "put", desc := "(I[ID)V", sig := { parameters := [.int, (.array .int), .double], returnType := none }, accessFlags := 2, code := some k3c7 }
def k3c8 : Code := { maxStack := 4, maxLocals := 5, code := prog_48_method_11_code, exceptionTable := #[], attributes := #[] }
def k3m8 : Method := { name := "isMember", desc := "([ID)Z", sig := { parameters := [(.array .int), .double], returnType := some .boolean }, accessFlags := 2, code := some k3c8 }
/-- com/example/allocus/allocus/method/Population -/
def k3 : Class := { plain "com/example/allocus/allocus/method/Population" (some 0) with
  accessFlags := 48
  interfaces := #[]
  cf := some (fileOf pool3 10 #[] #[{ accessFlags := 0, nameIndex := 5, descriptorIndex := 62, attributes := #[] }, { accessFlags := 0, nameIndex := 24, descriptorIndex := 67, attributes := #[] }, { accessFlags := 0, nameIndex := 68, descriptorIndex := 69, attributes := #[] }, { accessFlags := 0, nameIndex := 71, descriptorIndex := 39, attributes := #[] }, { accessFlags := 0, nameIndex := 72, descriptorIndex := 73, attributes := #[] }, { accessFlags := 0, nameIndex := 35, descriptorIndex := 74, attributes := #[] }, { accessFlags := 0, nameIndex := 75, descriptorIndex := 76, attributes := #[] }, { accessFlags := 2, nameIndex := 28, descriptorIndex := 29, attributes := #[] }, { accessFlags := 2, nameIndex := 38, descriptorIndex := 39, attributes := #[] }] 48 2 #[] #[{ accessFlags := 18, nameIndex := 13, descriptorIndex := 8, attributes := #[] }, { accessFlags := 18, nameIndex := 16, descriptorIndex := 17, attributes := #[] }, { accessFlags := 18, nameIndex := 20, descriptorIndex := 21, attributes := #[] }, { accessFlags := 2, nameIndex := 24, descriptorIndex := 25, attributes := #[] }, { accessFlags := 2, nameIndex := 54, descriptorIndex := 55, attributes := #[] }, { accessFlags := 2, nameIndex := 32, descriptorIndex := 25, attributes := #[] }, { accessFlags := 2, nameIndex := 35, descriptorIndex := 25, attributes := #[] }])
  fields := #[{ name := "plans", type := (.array (.array .int)), accessFlags := 18, slot := 0, constantValue := 0 }, { name := "objectives", type := (.array .double), accessFlags := 18, slot := 1, constantValue := 0 }, { name := "entered", type := (.array .long), accessFlags := 18, slot := 2, constantValue := 0 }, { name := "count", type := .int, accessFlags := 2, slot := 3, constantValue := 0 }, { name := "entries", type := .long, accessFlags := 2, slot := 4, constantValue := 0 }, { name := "worst", type := .int, accessFlags := 2, slot := 5, constantValue := 0 }, { name := "best", type := .int, accessFlags := 2, slot := 6, constantValue := 0 }]
  methods := #[k3m0, k3m1, k3m2, k3m3, k3m4, k3m5, k3m6, k3m7, k3m8]
  instanceTypes := #[(.array (.array .int)), (.array .double), (.array .long), .int, .long, .int, .int]
  staticTypes := #[]
  resolved := Array.replicate 79 none
  statics := none }

def pool4 : Array CpInfo := pool [(2, .class_ 4), (1, u "java/lang/Object"), (0, u "<init>"), (0, u "()V"), (1, .class_ 10), (1, u "java/lang/System"), (0, u "allowSecurityManager"), (0, u "I"), (16, u "cons"), (0, u "Ljava/io/Console;"), (77, .class_ 110), (1, u "java/lang/System$CallersHolder"), (43, u "initialErrStream"), (0, u "Ljava/io/PrintStream;"), (19, u "security"), (0, u "Ljava/lang/SecurityManager;"), (31, .class_ 209), (0, u "java/lang/System$1"), (7, u "props"), (0, u "Ljava/util/Properties;"), (2, u "lineSeparator"), (0, u "Ljava/lang/String;"), (96, .class_ 321), (1, u "java/lang/System$LoggerFinder"), (5, .class_ 328), (0, u "java/lang/System$Logger"), (67, u "err"), (2, u "out"), (91, u "notSupportedJnuEncoding"), (15, u "in"), (17, u "initialIn"), (0, u "Ljava/io/InputStream;"), (35, u "bootLayer"), (0, u "Ljava/lang/ModuleLayer;"), (99, .class_ 664), (0, u "java/lang/System$2"), (9, u "NEVER"), (2, u "MAYBE"), (49, u "arraycopy"), (0, u "(Ljava/lang/Object;ILjava/lang/Object;II)V"), (72, .class_ 802), (0, u "java/lang/System$Logger$Level")] 31

def k4m0 : Method := { name := "<init>", desc := "()V", sig := { parameters := [], returnType := none }, accessFlags := 2, code := none }
def k4m1 : Method := { name := "arraycopy", desc := "(Ljava/lang/Object;ILjava/lang/Object;II)V", sig := { parameters := [(.object "java/lang/Object"), .int, (.object "java/lang/Object"), .int, .int], returnType := none }, accessFlags := 265, code := none }
/-- java/lang/System -/
def k4 : Class := { plain "java/lang/System" (some 0) with
  accessFlags := 49
  interfaces := #[]
  cf := some (fileOf pool4 8 #[.nestMembers #[319, 327, 801, 108, 663, 208]] #[{ accessFlags := 2, nameIndex := 5, descriptorIndex := 6, attributes := #[] }, { accessFlags := 265, nameIndex := 727, descriptorIndex := 728, attributes := #[] }] 49 2 #[] #[{ accessFlags := 25, nameIndex := 507, descriptorIndex := 526, attributes := #[] }, { accessFlags := 25, nameIndex := 399, descriptorIndex := 155, attributes := #[] }, { accessFlags := 25, nameIndex := 396, descriptorIndex := 155, attributes := #[] }, { accessFlags := 10, nameIndex := 525, descriptorIndex := 526, attributes := #[] }, { accessFlags := 26, nameIndex := 674, descriptorIndex := 12, attributes := #[] }, { accessFlags := 26, nameIndex := 677, descriptorIndex := 12, attributes := #[] }, { accessFlags := 10, nameIndex := 11, descriptorIndex := 12, attributes := #[] }, { accessFlags := 74, nameIndex := 175, descriptorIndex := 176, attributes := #[] }, { accessFlags := 10, nameIndex := 491, descriptorIndex := 222, attributes := #[] }, { accessFlags := 74, nameIndex := 29, descriptorIndex := 30, attributes := #[] }, { accessFlags := 74, nameIndex := 154, descriptorIndex := 155, attributes := #[] }, { accessFlags := 10, nameIndex := 217, descriptorIndex := 218, attributes := #[] }, { accessFlags := 10, nameIndex := 221, descriptorIndex := 222, attributes := #[] }, { accessFlags := 8, nameIndex := 562, descriptorIndex := 563, attributes := #[] }])
  fields := #[{ name := "in", type := (.object "java/io/InputStream"), accessFlags := 25, slot := 0, constantValue := 0 }, { name := "out", type := (.object "java/io/PrintStream"), accessFlags := 25, slot := 1, constantValue := 0 }, { name := "err", type := (.object "java/io/PrintStream"), accessFlags := 25, slot := 2, constantValue := 0 }, { name := "initialIn", type := (.object "java/io/InputStream"), accessFlags := 10, slot := 3, constantValue := 0 }, { name := "NEVER", type := .int, accessFlags := 26, slot := 4, constantValue := 0 }, { name := "MAYBE", type := .int, accessFlags := 26, slot := 5, constantValue := 0 }, { name := "allowSecurityManager", type := .int, accessFlags := 10, slot := 6, constantValue := 0 }, { name := "security", type := (.object "java/lang/SecurityManager"), accessFlags := 74, slot := 7, constantValue := 0 }, { name := "notSupportedJnuEncoding", type := (.object "java/lang/String"), accessFlags := 10, slot := 8, constantValue := 0 }, { name := "cons", type := (.object "java/io/Console"), accessFlags := 74, slot := 9, constantValue := 0 }, { name := "initialErrStream", type := (.object "java/io/PrintStream"), accessFlags := 74, slot := 10, constantValue := 0 }, { name := "props", type := (.object "java/util/Properties"), accessFlags := 10, slot := 11, constantValue := 0 }, { name := "lineSeparator", type := (.object "java/lang/String"), accessFlags := 10, slot := 12, constantValue := 0 }, { name := "bootLayer", type := (.object "java/lang/ModuleLayer"), accessFlags := 8, slot := 13, constantValue := 0 }]
  methods := #[k4m0, k4m1]
  instanceTypes := #[]
  staticTypes := #[(.object "java/io/InputStream"), (.object "java/io/PrintStream"), (.object "java/io/PrintStream"), (.object "java/io/InputStream"), .int, .int, .int, (.object "java/lang/SecurityManager"), (.object "java/lang/String"), (.object "java/io/Console"), (.object "java/io/PrintStream"), (.object "java/util/Properties"), (.object "java/lang/String"), (.object "java/lang/ModuleLayer")]
  resolved := Array.replicate 834 none
  statics := none }

def pool5 : Array CpInfo := pool [(1, .class_ 2), (0, u "java/lang/Cloneable"), (0, .class_ 4), (0, u "java/lang/Object")] 2

/-- java/lang/Cloneable -/
def k5 : Class := { plain "java/lang/Cloneable" (some 0) with
  accessFlags := 1537
  interfaces := #[]
  cf := some (fileOf pool5 1 #[] #[] 1537 3 #[] #[])
  fields := #[]
  methods := #[]
  instanceTypes := #[]
  staticTypes := #[]
  resolved := Array.replicate 7 none
  statics := none }

def pool6 : Array CpInfo := pool [(1, u "java/io/Serializable"), (0, .class_ 1), (0, u "java/lang/Object"), (0, .class_ 3)] 3

/-- java/io/Serializable -/
def k6 : Class := { plain "java/io/Serializable" (some 0) with
  accessFlags := 1537
  interfaces := #[]
  cf := some (fileOf pool6 2 #[] #[] 1537 4 #[] #[])
  fields := #[]
  methods := #[]
  instanceTypes := #[]
  staticTypes := #[]
  resolved := Array.replicate 8 none
  statics := none }

/-- the primitive byte -/
def k7 : Class := { plain "byte" none with kind := .primitive 'B', accessFlags := 0x411 }
/-- [B -/
def k8 : Class := { plain "[B" (some 0) with kind := .array 7 .byte, interfaces := #[5, 6], accessFlags := 1041 }

/-- the primitive double -/
def k9 : Class := { plain "double" none with kind := .primitive 'D', accessFlags := 0x411 }
/-- [D -/
def k10 : Class := { plain "[D" (some 0) with kind := .array 9 .double, interfaces := #[5, 6], accessFlags := 1041 }

/-- the primitive int -/
def k11 : Class := { plain "int" none with kind := .primitive 'I', accessFlags := 0x411 }
/-- [I -/
def k12 : Class := { plain "[I" (some 0) with kind := .array 11 .int, interfaces := #[5, 6], accessFlags := 1041 }

/-- the primitive long -/
def k13 : Class := { plain "long" none with kind := .primitive 'J', accessFlags := 0x411 }
/-- [J -/
def k14 : Class := { plain "[J" (some 0) with kind := .array 13 .long, interfaces := #[5, 6], accessFlags := 1041 }

/-- [[I -/
def k15 : Class := { plain "[[I" (some 0) with kind := .array 12 (.array .int), interfaces := #[5, 6], accessFlags := 1041 }

def heap : Heap := #[]
def classes : Array Class := #[k0, k1, k2, k3, k4, k5, k6, k7, k8, k9, k10, k11, k12, k13, k14, k15]
def interned : List (Array UInt16 × Addr) := []
def slotsUsed : Nat := 0
def theMethod : MethodId := ⟨1, 3⟩
def args0 : Array Value := #[.int 5, .int 7, .int 0, .int 3, .int 2]
def aboutOver (below : List Frame) : State where
  vm := { classes := classes, interned := interned.toArray }
  heap := heap
  slotsUsed := slotsUsed
  threads := #[{ frames := .invoking theMethod args0 :: below }]
def below0 : List Frame := [.native { method := ⟨0, 0⟩, args := #[] }]
def about1 : State := aboutOver below0
def p0 : Program := .bare "" "" ""
def e0 : Env := launch0.env 0 0 0
theorem w_frames : about1.frames = Frame.invoking theMethod args0 :: below0 := rfl
set_option maxRecDepth 65536 in
theorem w_args : argsFit about1.vm theMethod args0 = true := by decide +kernel
set_option maxRecDepth 65536 in
theorem w_heap : heapFits about1 = true := by decide +kernel
set_option maxRecDepth 65536 in
theorem w_runnable : about1.curStatus? = some .runnable := by decide +kernel
set_option maxRecDepth 65536 in
theorem w_alone : about1.alone = true := by decide +kernel
set_option maxRecDepth 65536 in
theorem w_named : about1.methodNamed? x = some theMethod := by decide +kernel
set_option maxRecDepth 65536 in
theorem w_hears : about1.hears theMethod below0 = true := by decide +kernel
set_option maxRecDepth 65536 in
theorem w_ripe : about1.ripe theMethod args0 below0 = true := by decide +kernel
theorem w_running : about1.status = .running := rfl
set_option maxRecDepth 65536 in
theorem w_room : about1.hasRoom e0.platform room_1 = true :=
  launch0.hasRoom_least _ room_1 (by decide +kernel) (by decide +kernel) (by decide +kernel) (by decide +kernel) (by decide +kernel) (by decide +kernel)
theorem allAtoms_all (ts : List Jvm.Cond) (a : Array Jvm.Value) (st : Jvm.State) : (allAtoms ts).before a st = ts.all (fun c => c.before a st) := by
  induction ts with
  | nil => rfl
  | cons c t ih =>
    show (Jvm.Cond.and c (allAtoms t)).before a st = _
    rw [Jvm.Cond.before_and, ih, List.all_cons]
def words1 : List Jvm.Cond := Jvm.Cond.code x code maxLocals ret :: tables_1
/-- a 'code' word, met by the world's own term for the bytes: nothing is compared byte by byte -/
theorem code_word {y : MethodName} {bytes : ByteArray} {mx : Nat} {rt : Option FieldType} {a : Array Value} {s : State} {m : MethodId} {meth : Method} {c : Code} (h1 : s.methodNamed? y = some m) (h2 : s.vm.method? m = some meth) (h3 : meth.code = some c) (h4 : c.code = bytes)
    (h5 : (c.maxLocals == mx && c.exceptionTable.isEmpty && decide (c.maxStack ≤ mostOperands) && decide (meth.sig.returnType = rt) && !meth.locks && decide (parseMethodDescriptor y.desc = some meth.sig)) = true) : (Jvm.Cond.code y bytes mx rt).before a s = true := by
  simp only [Bool.and_eq_true, beq_iff_eq, Bool.not_eq_true', decide_eq_true_eq] at h5
  obtain ⟨⟨⟨⟨⟨g1, g2⟩, g3⟩, g4⟩, g5⟩, g6⟩ := h5
  simp [Cond.before, Cond.holds, Cond.value, h1, h2, h3, h4, g1, g2, g3, g4, g5, g6]
def isCode : Jvm.Cond → Bool
  | .code _ _ _ _ => true
  | _ => false
theorem all_split {L : List Jvm.Cond} {P : Jvm.Cond → Bool} (h1 : L.all (fun c => isCode c || P c) = true) (h2 : ∀ c ∈ L.filter isCode, P c = true) : L.all P = true := by
  refine List.all_eq_true.mpr fun c hc => ?_
  have h := List.all_eq_true.mp h1 c hc
  rcases Bool.eq_false_or_eq_true (isCode c) with hi | hi
  · exact h2 c (List.mem_filter.mpr ⟨hc, hi⟩)
  · simpa [hi] using h
set_option maxRecDepth 65536 in
theorem w_c0 : (Jvm.Cond.code x code maxLocals ret).before args0 about1 = true := code_word (m := ⟨1, 3⟩) (meth := k1m3) (c := k1c3) (by decide +kernel) rfl rfl rfl (by decide +kernel)
set_option maxRecDepth 65536 in
theorem w_c1 : (Jvm.Cond.code ({ cls := "com/example/allocus/allocus/method/PopulationAddPinLaw", name := "sites", desc := "(I)[I" } : Jvm.MethodName) method_2_code (1 : Nat) (Option.some (Jvm.ClassFile.FieldType.array Jvm.ClassFile.FieldType.int))).before args0 about1 = true := code_word (m := ⟨1, 1⟩) (meth := k1m1) (c := k1c1) (by decide +kernel) rfl rfl rfl (by decide +kernel)
set_option maxRecDepth 65536 in
theorem w_c2 : (Jvm.Cond.code ({ cls := "java/lang/Math", name := "min", desc := "(II)I" } : Jvm.MethodName) jdk_29_method_69_code (2 : Nat) (Option.some Jvm.ClassFile.FieldType.int)).before args0 about1 = true := code_word (m := ⟨2, 1⟩) (meth := k2m1) (c := k2c1) (by decide +kernel) rfl rfl rfl (by decide +kernel)
set_option maxRecDepth 65536 in
theorem w_c3 : (Jvm.Cond.code ({ cls := "com/example/allocus/allocus/method/Population", name := "<init>", desc := "(II)V" } : Jvm.MethodName) prog_48_method_1_code (3 : Nat) (Option.none : Option Jvm.ClassFile.FieldType)).before args0 about1 = true := code_word (m := ⟨3, 0⟩) (meth := k3m0) (c := k3c0) (by decide +kernel) rfl rfl rfl (by decide +kernel)
set_option maxRecDepth 65536 in
theorem w_c4 : (Jvm.Cond.code ({ cls := "java/lang/Object", name := "<init>", desc := "()V" } : Jvm.MethodName) object_method_1_code (1 : Nat) (Option.none : Option Jvm.ClassFile.FieldType)).before args0 about1 = true := code_word (m := ⟨0, 0⟩) (meth := k0m0) (c := k0c0) (by decide +kernel) rfl rfl rfl (by decide +kernel)
set_option maxRecDepth 65536 in
theorem w_c5 : (Jvm.Cond.code ({ cls := "com/example/allocus/allocus/method/Population", name := "add", desc := "([ID)V" } : Jvm.MethodName) prog_48_method_5_code (5 : Nat) (Option.none : Option Jvm.ClassFile.FieldType)).before args0 about1 = true := code_word (m := ⟨3, 2⟩) (meth := k3m2) (c := k3c2) (by decide +kernel) rfl rfl rfl (by decide +kernel)
set_option maxRecDepth 65536 in
theorem w_c6 : (Jvm.Cond.code ({ cls := "com/example/allocus/allocus/method/Population", name := "put", desc := "(I[ID)V" } : Jvm.MethodName) prog_48_method_10_code (5 : Nat) (Option.none : Option Jvm.ClassFile.FieldType)).before args0 about1 = true := code_word (m := ⟨3, 7⟩) (meth := k3m7) (c := k3c7) (by decide +kernel) rfl rfl rfl (by decide +kernel)
set_option maxRecDepth 65536 in
theorem w_c7 : (Jvm.Cond.code ({ cls := "com/example/allocus/allocus/method/Population", name := "count", desc := "()I" } : Jvm.MethodName) prog_48_method_4_code (1 : Nat) (Option.some Jvm.ClassFile.FieldType.int)).before args0 about1 = true := code_word (m := ⟨3, 1⟩) (meth := k3m1) (c := k3c1) (by decide +kernel) rfl rfl rfl (by decide +kernel)
set_option maxRecDepth 65536 in
theorem w_c8 : (Jvm.Cond.code ({ cls := "com/example/allocus/allocus/method/Population", name := "bestObjective", desc := "()D" } : Jvm.MethodName) prog_48_method_9_code (1 : Nat) (Option.some Jvm.ClassFile.FieldType.double)).before args0 about1 = true := code_word (m := ⟨3, 6⟩) (meth := k3m6) (c := k3c6) (by decide +kernel) rfl rfl rfl (by decide +kernel)
set_option maxRecDepth 65536 in
theorem w_c9 : (Jvm.Cond.code ({ cls := "com/example/allocus/allocus/method/Population", name := "best", desc := "()[I" } : Jvm.MethodName) prog_48_method_8_code (1 : Nat) (Option.some (Jvm.ClassFile.FieldType.array Jvm.ClassFile.FieldType.int))).before args0 about1 = true := code_word (m := ⟨3, 5⟩) (meth := k3m5) (c := k3c5) (by decide +kernel) rfl rfl rfl (by decide +kernel)
set_option maxRecDepth 65536 in
theorem w_c10 : (Jvm.Cond.code ({ cls := "com/example/allocus/allocus/method/PopulationAddPinLaw", name := "holds", desc := "([II)Z" } : Jvm.MethodName) method_3_code (2 : Nat) (Option.some Jvm.ClassFile.FieldType.boolean)).before args0 about1 = true := code_word (m := ⟨1, 2⟩) (meth := k1m2) (c := k1c2) (by decide +kernel) rfl rfl rfl (by decide +kernel)
set_option maxRecDepth 65536 in
theorem w_c11 : (Jvm.Cond.code ({ cls := "com/example/allocus/allocus/method/Population", name := "offer", desc := "([ID)Z" } : Jvm.MethodName) prog_48_method_6_code (7 : Nat) (Option.some Jvm.ClassFile.FieldType.boolean)).before args0 about1 = true := code_word (m := ⟨3, 3⟩) (meth := k3m3) (c := k3c3) (by decide +kernel) rfl rfl rfl (by decide +kernel)
set_option maxRecDepth 65536 in
theorem w_c12 : (Jvm.Cond.code ({ cls := "com/example/allocus/allocus/method/Population", name := "isMember", desc := "([ID)Z" } : Jvm.MethodName) prog_48_method_11_code (5 : Nat) (Option.some Jvm.ClassFile.FieldType.boolean)).before args0 about1 = true := code_word (m := ⟨3, 8⟩) (meth := k3m8) (c := k3c8) (by decide +kernel) rfl rfl rfl (by decide +kernel)
set_option maxRecDepth 65536 in
theorem w_c13 : (Jvm.Cond.code ({ cls := "com/example/allocus/allocus/method/Population", name := "plan", desc := "(I)[I" } : Jvm.MethodName) prog_48_method_7_code (2 : Nat) (Option.some (Jvm.ClassFile.FieldType.array Jvm.ClassFile.FieldType.int))).before args0 about1 = true := code_word (m := ⟨3, 4⟩) (meth := k3m4) (c := k3c4) (by decide +kernel) rfl rfl rfl (by decide +kernel)
def codes1 : List Jvm.Cond := [Jvm.Cond.code x code maxLocals ret, Jvm.Cond.code ({ cls := "com/example/allocus/allocus/method/PopulationAddPinLaw", name := "sites", desc := "(I)[I" } : Jvm.MethodName) method_2_code (1 : Nat) (Option.some (Jvm.ClassFile.FieldType.array Jvm.ClassFile.FieldType.int)), Jvm.Cond.code ({ cls := "java/lang/Math", name := "min", desc := "(II)I" } : Jvm.MethodName) jdk_29_method_69_code (2 : Nat) (Option.some Jvm.ClassFile.FieldType.int), Jvm.Cond.code ({ cls := "com/example/allocus/allocus/method/Population", name := "<init>", desc := "(II)V" } : Jvm.MethodName) prog_48_method_1_code (3 : Nat) (Option.none : Option Jvm.ClassFile.FieldType), Jvm.Cond.code ({ cls := "java/lang/Object", name := "<init>", desc := "()V" } : Jvm.MethodName) object_method_1_code (1 : Nat) (Option.none : Option Jvm.ClassFile.FieldType), Jvm.Cond.code ({ cls := "com/example/allocus/allocus/method/Population", name := "add", desc := "([ID)V" } : Jvm.MethodName) prog_48_method_5_code (5 : Nat) (Option.none : Option Jvm.ClassFile.FieldType), Jvm.Cond.code ({ cls := "com/example/allocus/allocus/method/Population", name := "put", desc := "(I[ID)V" } : Jvm.MethodName) prog_48_method_10_code (5 : Nat) (Option.none : Option Jvm.ClassFile.FieldType), Jvm.Cond.code ({ cls := "com/example/allocus/allocus/method/Population", name := "count", desc := "()I" } : Jvm.MethodName) prog_48_method_4_code (1 : Nat) (Option.some Jvm.ClassFile.FieldType.int), Jvm.Cond.code ({ cls := "com/example/allocus/allocus/method/Population", name := "bestObjective", desc := "()D" } : Jvm.MethodName) prog_48_method_9_code (1 : Nat) (Option.some Jvm.ClassFile.FieldType.double), Jvm.Cond.code ({ cls := "com/example/allocus/allocus/method/Population", name := "best", desc := "()[I" } : Jvm.MethodName) prog_48_method_8_code (1 : Nat) (Option.some (Jvm.ClassFile.FieldType.array Jvm.ClassFile.FieldType.int)), Jvm.Cond.code ({ cls := "com/example/allocus/allocus/method/PopulationAddPinLaw", name := "holds", desc := "([II)Z" } : Jvm.MethodName) method_3_code (2 : Nat) (Option.some Jvm.ClassFile.FieldType.boolean), Jvm.Cond.code ({ cls := "com/example/allocus/allocus/method/Population", name := "offer", desc := "([ID)Z" } : Jvm.MethodName) prog_48_method_6_code (7 : Nat) (Option.some Jvm.ClassFile.FieldType.boolean), Jvm.Cond.code ({ cls := "com/example/allocus/allocus/method/Population", name := "isMember", desc := "([ID)Z" } : Jvm.MethodName) prog_48_method_11_code (5 : Nat) (Option.some Jvm.ClassFile.FieldType.boolean), Jvm.Cond.code ({ cls := "com/example/allocus/allocus/method/Population", name := "plan", desc := "(I)[I" } : Jvm.MethodName) prog_48_method_7_code (2 : Nat) (Option.some (Jvm.ClassFile.FieldType.array Jvm.ClassFile.FieldType.int))]
set_option maxRecDepth 65536 in
theorem codes_eq : words1.filter isCode = codes1 := rfl
theorem w_codes : ∀ c ∈ words1.filter isCode, c.before args0 about1 = true := by
  rw [codes_eq]
  intro c hc
  simp only [codes1, List.mem_cons, List.not_mem_nil, or_false] at hc
  rcases hc with rfl | rfl | rfl | rfl | rfl | rfl | rfl | rfl | rfl | rfl | rfl | rfl | rfl | rfl
  · exact w_c0
  · exact w_c1
  · exact w_c2
  · exact w_c3
  · exact w_c4
  · exact w_c5
  · exact w_c6
  · exact w_c7
  · exact w_c8
  · exact w_c9
  · exact w_c10
  · exact w_c11
  · exact w_c12
  · exact w_c13
set_option maxRecDepth 65536 in
theorem w_t1 : (words1.take 24).all (fun c => isCode c || c.before args0 about1) = true := by decide +kernel
set_option maxRecDepth 65536 in
theorem w_t2 : ((words1.drop 24).take 24).all (fun c => isCode c || c.before args0 about1) = true := by decide +kernel
set_option maxRecDepth 65536 in
theorem w_t3 : (((words1.drop 24).drop 24).take 24).all (fun c => isCode c || c.before args0 about1) = true := by decide +kernel
set_option maxRecDepth 65536 in
theorem w_t4 : (((words1.drop 24).drop 24).drop 24).all (fun c => isCode c || c.before args0 about1) = true := by decide +kernel
theorem w_tables : (allAtoms (Jvm.Cond.code x code maxLocals ret :: tables_1)).before args0 about1 = true := by
  rw [allAtoms_all]
  show words1.all (fun c => c.before args0 about1) = true
  refine all_split ?_ w_codes
  rw [← List.take_append_drop 24 words1, List.all_append, w_t1, ← List.take_append_drop 24 (words1.drop 24), List.all_append, w_t2, ← List.take_append_drop 24 ((words1.drop 24).drop 24), List.all_append, w_t3, w_t4]
  rfl
set_option maxRecDepth 65536 in
theorem w_case : (Jvm.Cond.and given_1 narrow_1).before args0 about1 = true := by decide +kernel
theorem w_applies : (headSpec (Jvm.Cond.code x code maxLocals ret :: tables_1) room_1).applies x e0.platform about1 = true :=
  (Spec.applies_iff w_frames).mpr ⟨w_running, w_runnable, w_alone, w_named, w_hears, w_ripe, w_room, w_tables⟩
theorem atStart : AtStart classFile x code maxLocals ret World_1 tables_1 room_1 Calls_1 rest_1 Pre_1 launch0 p0 e0 about1 theMethod args0 below0 :=
  ⟨lists_1, trivial, launch0.admits_env _ _ _, launch0.least_env, fairChoices_fair.cas, fairChoices_fair.clock, w_frames, w_args, w_heap, w_applies, trivial, trivial, w_case⟩
end start1
theorem witness_1 : WitnessClaimed_1 := ⟨start1.p0, start1.e0, start1.about1, start1.theMethod, start1.args0, start1.below0, start1.atStart⟩
end Jvm.Pilot.@@N@@
