import JvmDerived
import JvmDerived.Pilot.@@N@@Statement
import JvmDerived.Pilot.@@N@@Code
set_option linter.unusedVariables false
set_option linter.unusedSimpArgs false
namespace Jvm.Own
open Sem ClassFile Op Lib Jvm.Stand Jvm.Free Jvm.LawKit Jvm.RoadKit Jvm.Free.Fl
/-- where a walk stands -/
def St (p : Program) (l : Launch) (e : Env) (R : Room) (s : State) (m : MethodId) (args : Array Value) (below : List Frame) (meth : Method) (c : Code) (Z : State) (B : ByteArray) (own nm : String) (ml : Nat) (ret : Option FieldType) (n0 : Nat) (T : State) (h : Heap) (k n : Nat) : Prop :=
  (p.tables.exec = Jvm.exec ∧ c.code = B ∧ Z.Warmed39 s.vm ∧ s.vm.findClass own = some m.cls ∧ c.maxLocals = ml ∧ meth.sig.returnType = ret ∧ meth.locks = false ∧ meth.name = nm) ∧ ∃ locs, Stand p l e R s m args below meth c T locs k n ∧ T.heap = h ∧ Fr n0 locs
/-- what is left to show of a walk: it ends, and what it leaves is Q -/
def Go (p : Program) (e : Env) (below : List Frame) (s : State) (n0 : Nat) (Q : Option Value → Heap → Prop) (kC kS : Nat) (t : State) : Prop :=
  ∃ s₂ o, Steps p.tables e below t s₂ ∧ s₂.status = .running ∧ Ended s₂ below o ∧ ∃ v L, o = .returned v ∧ (Q v s₂.heap ∧ Fr n0 L) ∧ FrameEnd s o s₂ L kC kS
/-- a body's contract -/
def Con (l : Launch) (Z : State) (y : MethodName) (ws : List Jvm.Cond) (B : ByteArray) (ml : Nat) (ret : Option FieldType) (rm : Room) (as : Array Value) (h0 : Heap) (n0 : Nat) (Q : Option Value → Heap → Prop) : Prop :=
  MetFree l y (head1 (Cond.code y B ml ret :: ws) rm) (fun a U => a = as ∧ Z.Warmed39 U.vm ∧ U.heap = h0) (fun _ _ _ _ _ => True) (fun _ U o U' => ∃ v L, o = .returned v ∧ (Q v U'.heap ∧ Fr n0 L) ∧ FrameEnd U o U' L rm.cells rm.slots)
theorem wd {ws : List Jvm.Cond} {a0 : Array Value} {Z : State} (hw : ∀ d ∈ ws, d.before a0 Z = true) (i : Nat) {d : Jvm.Cond} (q : ws[i]? = some d) : d.before a0 Z = true := hw d (List.mem_of_getElem? q)
section Kit
variable {p : Program} {l : Launch} {e : Env} {R : Room} {s : State} {m : MethodId} {args : Array Value} {below : List Frame} {meth : Method} {c : Code} {Z : State} {B : ByteArray} {own nm : String} {ml : Nat} {ret : Option FieldType} {n0 : Nat} {T : State} {h : Heap} {k n : Nat} {Q : Option Value → Heap → Prop} {kC kS : Nat}
theorem Go.st {t t' : State} (r : Go p e below s n0 Q kC kS t') (q : ∀ u, Steps p.tables e below t' u → Steps p.tables e below t u) : Go p e below s n0 Q kC kS t := by
  obtain ⟨s₂, o, h1, h2⟩ := r; exact ⟨s₂, o, q _ h1, h2⟩
theorem St.more {k' n' : Nat} (X : St p l e R s m args below meth c Z B own nm ml ret n0 T h k n) (hk : k ≤ k') (hn : n ≤ n') : St p l e R s m args below meth c Z B own nm ml ret n0 T h k' n' := by
  obtain ⟨q, locs, X, r⟩ := X; exact ⟨q, locs, X.more hk hn, r⟩
theorem St.z (X : St p l e R s m args below meth c Z B own nm ml ret n0 T h k n) : Z.Warmed39 s.vm := X.1.2.2.1

theorem iloadN (X : St p l e R s m args below meth c Z B own nm ml ret n0 T h k n) {pc : Nat} {Ls : Array Slot} {st : List Value} {j : Fin 4} {v : Int32} (hd : decode B pc = .ok (.iload_n j, 1)) (hl : Ls[j.val]? = some (.val (.int v)))
    (r : Go p e below s n0 Q kC kS (T.setTop (mkF m (pc + 1) Ls (.int v :: st)))) : Go p e below s n0 Q kC kS (T.setTop (mkF m pc Ls (st))) := by
  obtain ⟨⟨hx, rfl, -⟩, locs, X, -⟩ := X
  exact r.st fun u kk => XS.iloadN X.here hx rfl hd hl kk
theorem iload (X : St p l e R s m args below meth c Z B own nm ml ret n0 T h k n) {pc : Nat} {Ls : Array Slot} {st : List Value} {j : Nat} {v : Int32} (hd : decode B pc = .ok (.iload j, 2)) (hl : Ls[j]? = some (.val (.int v)))
    (r : Go p e below s n0 Q kC kS (T.setTop (mkF m (pc + 2) Ls (.int v :: st)))) : Go p e below s n0 Q kC kS (T.setTop (mkF m pc Ls (st))) := by
  obtain ⟨⟨hx, rfl, -⟩, locs, X, -⟩ := X
  exact r.st fun u kk => XS.iload X.here hx rfl hd hl kk
theorem istoreN (X : St p l e R s m args below meth c Z B own nm ml ret n0 T h k n) {pc : Nat} {Ls : Array Slot} {st : List Value} {j : Fin 4} {v : Int32} {l' : Array Slot} (hd : decode B pc = .ok (.istore_n j, 1)) (hl : storeLocals Ls j.val (.int v) = some l')
    (r : Go p e below s n0 Q kC kS (T.setTop (mkF m (pc + 1) l' (st)))) : Go p e below s n0 Q kC kS (T.setTop (mkF m pc Ls (.int v :: st))) := by
  obtain ⟨⟨hx, rfl, -⟩, locs, X, -⟩ := X
  exact r.st fun u kk => XS.istoreN X.here hx rfl hd rfl hl kk
theorem istore (X : St p l e R s m args below meth c Z B own nm ml ret n0 T h k n) {pc : Nat} {Ls : Array Slot} {st : List Value} {j : Nat} {v : Int32} {l' : Array Slot} (hd : decode B pc = .ok (.istore j, 2)) (hl : storeLocals Ls j (.int v) = some l')
    (r : Go p e below s n0 Q kC kS (T.setTop (mkF m (pc + 2) l' (st)))) : Go p e below s n0 Q kC kS (T.setTop (mkF m pc Ls (.int v :: st))) := by
  obtain ⟨⟨hx, rfl, -⟩, locs, X, -⟩ := X
  exact r.st fun u kk => XS.istore X.here hx rfl hd rfl hl kk
theorem lloadN (X : St p l e R s m args below meth c Z B own nm ml ret n0 T h k n) {pc : Nat} {Ls : Array Slot} {st : List Value} {j : Fin 4} {v : Int64} (hd : decode B pc = .ok (.lload_n j, 1)) (hl : Ls[j.val]? = some (.val (.long v)))
    (r : Go p e below s n0 Q kC kS (T.setTop (mkF m (pc + 1) Ls (.long v :: st)))) : Go p e below s n0 Q kC kS (T.setTop (mkF m pc Ls (st))) := by
  obtain ⟨⟨hx, rfl, -⟩, locs, X, -⟩ := X
  exact r.st fun u kk => XS.lloadN X.here hx rfl hd hl kk
theorem lload (X : St p l e R s m args below meth c Z B own nm ml ret n0 T h k n) {pc : Nat} {Ls : Array Slot} {st : List Value} {j : Nat} {v : Int64} (hd : decode B pc = .ok (.lload j, 2)) (hl : Ls[j]? = some (.val (.long v)))
    (r : Go p e below s n0 Q kC kS (T.setTop (mkF m (pc + 2) Ls (.long v :: st)))) : Go p e below s n0 Q kC kS (T.setTop (mkF m pc Ls (st))) := by
  obtain ⟨⟨hx, rfl, -⟩, locs, X, -⟩ := X
  exact r.st fun u kk => XS.lload X.here hx rfl hd hl kk
theorem lstoreN (X : St p l e R s m args below meth c Z B own nm ml ret n0 T h k n) {pc : Nat} {Ls : Array Slot} {st : List Value} {j : Fin 4} {v : Int64} {l' : Array Slot} (hd : decode B pc = .ok (.lstore_n j, 1)) (hl : storeLocals Ls j.val (.long v) = some l')
    (r : Go p e below s n0 Q kC kS (T.setTop (mkF m (pc + 1) l' (st)))) : Go p e below s n0 Q kC kS (T.setTop (mkF m pc Ls (.long v :: st))) := by
  obtain ⟨⟨hx, rfl, -⟩, locs, X, -⟩ := X
  exact r.st fun u kk => XS.lstoreN X.here hx rfl hd rfl hl kk
theorem lstore (X : St p l e R s m args below meth c Z B own nm ml ret n0 T h k n) {pc : Nat} {Ls : Array Slot} {st : List Value} {j : Nat} {v : Int64} {l' : Array Slot} (hd : decode B pc = .ok (.lstore j, 2)) (hl : storeLocals Ls j (.long v) = some l')
    (r : Go p e below s n0 Q kC kS (T.setTop (mkF m (pc + 2) l' (st)))) : Go p e below s n0 Q kC kS (T.setTop (mkF m pc Ls (.long v :: st))) := by
  obtain ⟨⟨hx, rfl, -⟩, locs, X, -⟩ := X
  exact r.st fun u kk => XS.lstore X.here hx rfl hd rfl hl kk
theorem dloadN (X : St p l e R s m args below meth c Z B own nm ml ret n0 T h k n) {pc : Nat} {Ls : Array Slot} {st : List Value} {j : Fin 4} {v : UInt64} (hd : decode B pc = .ok (.dload_n j, 1)) (hl : Ls[j.val]? = some (.val (.double v)))
    (r : Go p e below s n0 Q kC kS (T.setTop (mkF m (pc + 1) Ls (.double v :: st)))) : Go p e below s n0 Q kC kS (T.setTop (mkF m pc Ls (st))) := by
  obtain ⟨⟨hx, rfl, -⟩, locs, X, -⟩ := X
  exact r.st fun u kk => XS.dloadN X.here hx rfl hd hl kk
theorem dload (X : St p l e R s m args below meth c Z B own nm ml ret n0 T h k n) {pc : Nat} {Ls : Array Slot} {st : List Value} {j : Nat} {v : UInt64} (hd : decode B pc = .ok (.dload j, 2)) (hl : Ls[j]? = some (.val (.double v)))
    (r : Go p e below s n0 Q kC kS (T.setTop (mkF m (pc + 2) Ls (.double v :: st)))) : Go p e below s n0 Q kC kS (T.setTop (mkF m pc Ls (st))) := by
  obtain ⟨⟨hx, rfl, -⟩, locs, X, -⟩ := X
  exact r.st fun u kk => XS.dload X.here hx rfl hd hl kk
theorem dstoreN (X : St p l e R s m args below meth c Z B own nm ml ret n0 T h k n) {pc : Nat} {Ls : Array Slot} {st : List Value} {j : Fin 4} {v : UInt64} {l' : Array Slot} (hd : decode B pc = .ok (.dstore_n j, 1)) (hl : storeLocals Ls j.val (.double v) = some l')
    (r : Go p e below s n0 Q kC kS (T.setTop (mkF m (pc + 1) l' (st)))) : Go p e below s n0 Q kC kS (T.setTop (mkF m pc Ls (.double v :: st))) := by
  obtain ⟨⟨hx, rfl, -⟩, locs, X, -⟩ := X
  exact r.st fun u kk => XS.dstoreN X.here hx rfl hd rfl hl kk
theorem dstore (X : St p l e R s m args below meth c Z B own nm ml ret n0 T h k n) {pc : Nat} {Ls : Array Slot} {st : List Value} {j : Nat} {v : UInt64} {l' : Array Slot} (hd : decode B pc = .ok (.dstore j, 2)) (hl : storeLocals Ls j (.double v) = some l')
    (r : Go p e below s n0 Q kC kS (T.setTop (mkF m (pc + 2) l' (st)))) : Go p e below s n0 Q kC kS (T.setTop (mkF m pc Ls (.double v :: st))) := by
  obtain ⟨⟨hx, rfl, -⟩, locs, X, -⟩ := X
  exact r.st fun u kk => XS.dstore X.here hx rfl hd rfl hl kk
theorem aloadN (X : St p l e R s m args below meth c Z B own nm ml ret n0 T h k n) {pc : Nat} {Ls : Array Slot} {st : List Value} {j : Fin 4} {v : Value} (hd : decode B pc = .ok (.aload_n j, 1)) (hl : Ls[j.val]? = some (.val v)) (hv : v.isRef = true)
    (r : Go p e below s n0 Q kC kS (T.setTop (mkF m (pc + 1) Ls (v :: st)))) : Go p e below s n0 Q kC kS (T.setTop (mkF m pc Ls (st))) := by
  obtain ⟨⟨hx, rfl, -⟩, locs, X, -⟩ := X
  exact r.st fun u kk => XS.aloadN X.here hx rfl hd hl hv kk
theorem aload (X : St p l e R s m args below meth c Z B own nm ml ret n0 T h k n) {pc : Nat} {Ls : Array Slot} {st : List Value} {j : Nat} {v : Value} (hd : decode B pc = .ok (.aload j, 2)) (hl : Ls[j]? = some (.val v)) (hv : v.isRef = true)
    (r : Go p e below s n0 Q kC kS (T.setTop (mkF m (pc + 2) Ls (v :: st)))) : Go p e below s n0 Q kC kS (T.setTop (mkF m pc Ls (st))) := by
  obtain ⟨⟨hx, rfl, -⟩, locs, X, -⟩ := X
  exact r.st fun u kk => XS.aload X.here hx rfl hd hl hv kk
theorem astoreN (X : St p l e R s m args below meth c Z B own nm ml ret n0 T h k n) {pc : Nat} {Ls : Array Slot} {st : List Value} {j : Fin 4} {v : Value} {l' : Array Slot} (hd : decode B pc = .ok (.astore_n j, 1)) (hv : v.isRef = true) (hl : storeLocals Ls j.val v = some l')
    (r : Go p e below s n0 Q kC kS (T.setTop (mkF m (pc + 1) l' (st)))) : Go p e below s n0 Q kC kS (T.setTop (mkF m pc Ls (v :: st))) := by
  obtain ⟨⟨hx, rfl, -⟩, locs, X, -⟩ := X
  exact r.st fun u kk => XS.astoreN X.here hx rfl hd rfl hv hl kk
theorem astore (X : St p l e R s m args below meth c Z B own nm ml ret n0 T h k n) {pc : Nat} {Ls : Array Slot} {st : List Value} {j : Nat} {v : Value} {l' : Array Slot} (hd : decode B pc = .ok (.astore j, 2)) (hv : v.isRef = true) (hl : storeLocals Ls j v = some l')
    (r : Go p e below s n0 Q kC kS (T.setTop (mkF m (pc + 2) l' (st)))) : Go p e below s n0 Q kC kS (T.setTop (mkF m pc Ls (v :: st))) := by
  obtain ⟨⟨hx, rfl, -⟩, locs, X, -⟩ := X
  exact r.st fun u kk => XS.astore X.here hx rfl hd rfl hv hl kk
theorem iconst (X : St p l e R s m args below meth c Z B own nm ml ret n0 T h k n) {pc : Nat} {Ls : Array Slot} {st : List Value} {i : Int} (v : Int32) (hd : decode B pc = .ok (.iconst i, 1)) (hv : Int32.ofInt i = v)
    (r : Go p e below s n0 Q kC kS (T.setTop (mkF m (pc + 1) Ls (.int v :: st)))) : Go p e below s n0 Q kC kS (T.setTop (mkF m pc Ls (st))) := by
  obtain ⟨⟨hx, rfl, -⟩, locs, X, -⟩ := X
  subst hv
  exact r.st fun u kk => XS.iconst X.here hx rfl hd kk
theorem bipush (X : St p l e R s m args below meth c Z B own nm ml ret n0 T h k n) {pc : Nat} {Ls : Array Slot} {st : List Value} {i : Int} (v : Int32) (hd : decode B pc = .ok (.bipush i, 2)) (hv : (Int8.ofInt i).toInt32 = v)
    (r : Go p e below s n0 Q kC kS (T.setTop (mkF m (pc + 2) Ls (.int v :: st)))) : Go p e below s n0 Q kC kS (T.setTop (mkF m pc Ls (st))) := by
  obtain ⟨⟨hx, rfl, -⟩, locs, X, -⟩ := X
  subst hv
  exact r.st fun u kk => XS.bipush X.here hx rfl hd kk
theorem sipush (X : St p l e R s m args below meth c Z B own nm ml ret n0 T h k n) {pc : Nat} {Ls : Array Slot} {st : List Value} {i : Int} (v : Int32) (hd : decode B pc = .ok (.sipush i, 3)) (hv : (Int16.ofInt i).toInt32 = v)
    (r : Go p e below s n0 Q kC kS (T.setTop (mkF m (pc + 3) Ls (.int v :: st)))) : Go p e below s n0 Q kC kS (T.setTop (mkF m pc Ls (st))) := by
  obtain ⟨⟨hx, rfl, -⟩, locs, X, -⟩ := X
  subst hv
  exact r.st fun u kk => XS.sipush X.here hx rfl hd kk
theorem lconst (X : St p l e R s m args below meth c Z B own nm ml ret n0 T h k n) {pc : Nat} {Ls : Array Slot} {st : List Value} {i : Fin 2} (v : Int64) (hd : decode B pc = .ok (.lconst i, 1)) (hv : Int64.ofNat i = v)
    (r : Go p e below s n0 Q kC kS (T.setTop (mkF m (pc + 1) Ls (.long v :: st)))) : Go p e below s n0 Q kC kS (T.setTop (mkF m pc Ls (st))) := by
  obtain ⟨⟨hx, rfl, -⟩, locs, X, -⟩ := X
  subst hv
  exact r.st fun u kk => XS.lconst X.here hx rfl hd kk
theorem dconst0 (X : St p l e R s m args below meth c Z B own nm ml ret n0 T h k n) {pc : Nat} {Ls : Array Slot} {st : List Value}  (hd : decode B pc = .ok (.dconst 0, 1)) 
    (r : Go p e below s n0 Q kC kS (T.setTop (mkF m (pc + 1) Ls (.double 0 :: st)))) : Go p e below s n0 Q kC kS (T.setTop (mkF m pc Ls (st))) := by
  obtain ⟨⟨hx, rfl, -⟩, locs, X, -⟩ := X
  exact r.st fun u kk => XS.dconst0 X.here hx rfl hd rfl kk
theorem dconst1 (X : St p l e R s m args below meth c Z B own nm ml ret n0 T h k n) {pc : Nat} {Ls : Array Slot} {st : List Value}  (hd : decode B pc = .ok (.dconst 1, 1)) 
    (r : Go p e below s n0 Q kC kS (T.setTop (mkF m (pc + 1) Ls (.double 4607182418800017408 :: st)))) : Go p e below s n0 Q kC kS (T.setTop (mkF m pc Ls (st))) := by
  obtain ⟨⟨hx, rfl, -⟩, locs, X, -⟩ := X
  exact r.st fun u kk => XS.dconst1 X.here hx rfl hd rfl kk
theorem aconstNull (X : St p l e R s m args below meth c Z B own nm ml ret n0 T h k n) {pc : Nat} {Ls : Array Slot} {st : List Value}  (hd : decode B pc = .ok (.aconst_null, 1)) 
    (r : Go p e below s n0 Q kC kS (T.setTop (mkF m (pc + 1) Ls (.null :: st)))) : Go p e below s n0 Q kC kS (T.setTop (mkF m pc Ls (st))) := by
  obtain ⟨⟨hx, rfl, -⟩, locs, X, -⟩ := X
  exact r.st fun u kk => XS.aconstNull X.here hx rfl hd kk
theorem iadd (X : St p l e R s m args below meth c Z B own nm ml ret n0 T h k n) {pc : Nat} {Ls : Array Slot} {st : List Value} {x y : Int32} (hd : decode B pc = .ok (.iadd, 1)) 
    (r : Go p e below s n0 Q kC kS (T.setTop (mkF m (pc + 1) Ls (.int (x + y) :: st)))) : Go p e below s n0 Q kC kS (T.setTop (mkF m pc Ls (.int y :: .int x :: st))) := by
  obtain ⟨⟨hx, rfl, -⟩, locs, X, -⟩ := X
  exact r.st fun u kk => XS.iadd X.here hx rfl hd rfl kk
theorem isub (X : St p l e R s m args below meth c Z B own nm ml ret n0 T h k n) {pc : Nat} {Ls : Array Slot} {st : List Value} {x y : Int32} (hd : decode B pc = .ok (.isub, 1)) 
    (r : Go p e below s n0 Q kC kS (T.setTop (mkF m (pc + 1) Ls (.int (x - y) :: st)))) : Go p e below s n0 Q kC kS (T.setTop (mkF m pc Ls (.int y :: .int x :: st))) := by
  obtain ⟨⟨hx, rfl, -⟩, locs, X, -⟩ := X
  exact r.st fun u kk => XS.isub X.here hx rfl hd rfl kk
theorem imul (X : St p l e R s m args below meth c Z B own nm ml ret n0 T h k n) {pc : Nat} {Ls : Array Slot} {st : List Value} {x y : Int32} (hd : decode B pc = .ok (.imul, 1)) 
    (r : Go p e below s n0 Q kC kS (T.setTop (mkF m (pc + 1) Ls (.int (x * y) :: st)))) : Go p e below s n0 Q kC kS (T.setTop (mkF m pc Ls (.int y :: .int x :: st))) := by
  obtain ⟨⟨hx, rfl, -⟩, locs, X, -⟩ := X
  exact r.st fun u kk => XS.imul X.here hx rfl hd rfl kk
theorem iand (X : St p l e R s m args below meth c Z B own nm ml ret n0 T h k n) {pc : Nat} {Ls : Array Slot} {st : List Value} {x y : Int32} (hd : decode B pc = .ok (.iand, 1)) 
    (r : Go p e below s n0 Q kC kS (T.setTop (mkF m (pc + 1) Ls (.int (x &&& y) :: st)))) : Go p e below s n0 Q kC kS (T.setTop (mkF m pc Ls (.int y :: .int x :: st))) := by
  obtain ⟨⟨hx, rfl, -⟩, locs, X, -⟩ := X
  exact r.st fun u kk => XS.iand X.here hx rfl hd rfl kk
theorem ior (X : St p l e R s m args below meth c Z B own nm ml ret n0 T h k n) {pc : Nat} {Ls : Array Slot} {st : List Value} {x y : Int32} (hd : decode B pc = .ok (.ior, 1)) 
    (r : Go p e below s n0 Q kC kS (T.setTop (mkF m (pc + 1) Ls (.int (x ||| y) :: st)))) : Go p e below s n0 Q kC kS (T.setTop (mkF m pc Ls (.int y :: .int x :: st))) := by
  obtain ⟨⟨hx, rfl, -⟩, locs, X, -⟩ := X
  exact r.st fun u kk => Jvm.Free.XT.ior X.here hx rfl hd rfl kk
theorem ixor (X : St p l e R s m args below meth c Z B own nm ml ret n0 T h k n) {pc : Nat} {Ls : Array Slot} {st : List Value} {x y : Int32} (hd : decode B pc = .ok (.ixor, 1)) 
    (r : Go p e below s n0 Q kC kS (T.setTop (mkF m (pc + 1) Ls (.int (x ^^^ y) :: st)))) : Go p e below s n0 Q kC kS (T.setTop (mkF m pc Ls (.int y :: .int x :: st))) := by
  obtain ⟨⟨hx, rfl, -⟩, locs, X, -⟩ := X
  exact r.st fun u kk => Jvm.Free.XT.ixor X.here hx rfl hd rfl kk
theorem ishl (X : St p l e R s m args below meth c Z B own nm ml ret n0 T h k n) {pc : Nat} {Ls : Array Slot} {st : List Value} {x y : Int32} (hd : decode B pc = .ok (.ishl, 1)) 
    (r : Go p e below s n0 Q kC kS (T.setTop (mkF m (pc + 1) Ls (.int (x <<< (y &&& 31)) :: st)))) : Go p e below s n0 Q kC kS (T.setTop (mkF m pc Ls (.int y :: .int x :: st))) := by
  obtain ⟨⟨hx, rfl, -⟩, locs, X, -⟩ := X
  exact r.st fun u kk => Jvm.Free.XT.ishl X.here hx rfl hd rfl kk
theorem ishr (X : St p l e R s m args below meth c Z B own nm ml ret n0 T h k n) {pc : Nat} {Ls : Array Slot} {st : List Value} {x y : Int32} (hd : decode B pc = .ok (.ishr, 1)) 
    (r : Go p e below s n0 Q kC kS (T.setTop (mkF m (pc + 1) Ls (.int (x >>> (y &&& 31)) :: st)))) : Go p e below s n0 Q kC kS (T.setTop (mkF m pc Ls (.int y :: .int x :: st))) := by
  obtain ⟨⟨hx, rfl, -⟩, locs, X, -⟩ := X
  exact r.st fun u kk => Jvm.Free.XT.ishr X.here hx rfl hd rfl kk
theorem iushr (X : St p l e R s m args below meth c Z B own nm ml ret n0 T h k n) {pc : Nat} {Ls : Array Slot} {st : List Value} {x y : Int32} (hd : decode B pc = .ok (.iushr, 1)) 
    (r : Go p e below s n0 Q kC kS (T.setTop (mkF m (pc + 1) Ls (.int (Jvm.Free.XT.ushr x y) :: st)))) : Go p e below s n0 Q kC kS (T.setTop (mkF m pc Ls (.int y :: .int x :: st))) := by
  obtain ⟨⟨hx, rfl, -⟩, locs, X, -⟩ := X
  exact r.st fun u kk => Jvm.Free.XT.iushr X.here hx rfl hd rfl kk
theorem irem (X : St p l e R s m args below meth c Z B own nm ml ret n0 T h k n) {pc : Nat} {Ls : Array Slot} {st : List Value} {x y : Int32} (hd : decode B pc = .ok (.irem, 1)) (hy : y ≠ 0)
    (r : Go p e below s n0 Q kC kS (T.setTop (mkF m (pc + 1) Ls (.int (x % y) :: st)))) : Go p e below s n0 Q kC kS (T.setTop (mkF m pc Ls (.int y :: .int x :: st))) := by
  obtain ⟨⟨hx, rfl, -⟩, locs, X, -⟩ := X
  exact r.st fun u kk => iremM X hx rfl hd rfl hy kk
theorem ladd (X : St p l e R s m args below meth c Z B own nm ml ret n0 T h k n) {pc : Nat} {Ls : Array Slot} {st : List Value} {x y : Int64} (hd : decode B pc = .ok (.ladd, 1)) 
    (r : Go p e below s n0 Q kC kS (T.setTop (mkF m (pc + 1) Ls (.long (x + y) :: st)))) : Go p e below s n0 Q kC kS (T.setTop (mkF m pc Ls (.long y :: .long x :: st))) := by
  obtain ⟨⟨hx, rfl, -⟩, locs, X, -⟩ := X
  exact r.st fun u kk => Jvm.Free.XT.ladd X.here hx rfl hd rfl kk
theorem lsub (X : St p l e R s m args below meth c Z B own nm ml ret n0 T h k n) {pc : Nat} {Ls : Array Slot} {st : List Value} {x y : Int64} (hd : decode B pc = .ok (.lsub, 1)) 
    (r : Go p e below s n0 Q kC kS (T.setTop (mkF m (pc + 1) Ls (.long (x - y) :: st)))) : Go p e below s n0 Q kC kS (T.setTop (mkF m pc Ls (.long y :: .long x :: st))) := by
  obtain ⟨⟨hx, rfl, -⟩, locs, X, -⟩ := X
  exact r.st fun u kk => Jvm.Free.XT.lsub X.here hx rfl hd rfl kk
theorem lmul (X : St p l e R s m args below meth c Z B own nm ml ret n0 T h k n) {pc : Nat} {Ls : Array Slot} {st : List Value} {x y : Int64} (hd : decode B pc = .ok (.lmul, 1)) 
    (r : Go p e below s n0 Q kC kS (T.setTop (mkF m (pc + 1) Ls (.long (x * y) :: st)))) : Go p e below s n0 Q kC kS (T.setTop (mkF m pc Ls (.long y :: .long x :: st))) := by
  obtain ⟨⟨hx, rfl, -⟩, locs, X, -⟩ := X
  exact r.st fun u kk => Jvm.Free.XT.lmul X.here hx rfl hd rfl kk
theorem land (X : St p l e R s m args below meth c Z B own nm ml ret n0 T h k n) {pc : Nat} {Ls : Array Slot} {st : List Value} {x y : Int64} (hd : decode B pc = .ok (.land, 1)) 
    (r : Go p e below s n0 Q kC kS (T.setTop (mkF m (pc + 1) Ls (.long (x &&& y) :: st)))) : Go p e below s n0 Q kC kS (T.setTop (mkF m pc Ls (.long y :: .long x :: st))) := by
  obtain ⟨⟨hx, rfl, -⟩, locs, X, -⟩ := X
  exact r.st fun u kk => Jvm.Free.XT.land X.here hx rfl hd rfl kk
theorem lrem (X : St p l e R s m args below meth c Z B own nm ml ret n0 T h k n) {pc : Nat} {Ls : Array Slot} {st : List Value} {x y : Int64} (hd : decode B pc = .ok (.lrem, 1)) (hy : y ≠ 0)
    (r : Go p e below s n0 Q kC kS (T.setTop (mkF m (pc + 1) Ls (.long (x - (x / y) * y) :: st)))) : Go p e below s n0 Q kC kS (T.setTop (mkF m pc Ls (.long y :: .long x :: st))) := by
  obtain ⟨⟨hx, rfl, -⟩, locs, X, -⟩ := X
  exact r.st fun u kk => Jvm.Free.XT.lrem X.here hx rfl hd rfl hy kk
theorem lneg (X : St p l e R s m args below meth c Z B own nm ml ret n0 T h k n) {pc : Nat} {Ls : Array Slot} {st : List Value} {x : Int64} (hd : decode B pc = .ok (.lneg, 1)) 
    (r : Go p e below s n0 Q kC kS (T.setTop (mkF m (pc + 1) Ls (.long (-x) :: st)))) : Go p e below s n0 Q kC kS (T.setTop (mkF m pc Ls (.long x :: st))) := by
  obtain ⟨⟨hx, rfl, -⟩, locs, X, -⟩ := X
  exact r.st fun u kk => Jvm.Free.XT.lneg X.here hx rfl hd rfl kk
theorem i2l (X : St p l e R s m args below meth c Z B own nm ml ret n0 T h k n) {pc : Nat} {Ls : Array Slot} {st : List Value} {x : Int32} (hd : decode B pc = .ok (.i2l, 1)) 
    (r : Go p e below s n0 Q kC kS (T.setTop (mkF m (pc + 1) Ls (.long (x.toInt64) :: st)))) : Go p e below s n0 Q kC kS (T.setTop (mkF m pc Ls (.int x :: st))) := by
  obtain ⟨⟨hx, rfl, -⟩, locs, X, -⟩ := X
  exact r.st fun u kk => Jvm.Free.XT.i2l X.here hx rfl hd rfl kk
theorem l2i (X : St p l e R s m args below meth c Z B own nm ml ret n0 T h k n) {pc : Nat} {Ls : Array Slot} {st : List Value} {x : Int64} (hd : decode B pc = .ok (.l2i, 1)) 
    (r : Go p e below s n0 Q kC kS (T.setTop (mkF m (pc + 1) Ls (.int (x.toInt32) :: st)))) : Go p e below s n0 Q kC kS (T.setTop (mkF m pc Ls (.long x :: st))) := by
  obtain ⟨⟨hx, rfl, -⟩, locs, X, -⟩ := X
  exact r.st fun u kk => Jvm.Free.XT.l2i X.here hx rfl hd rfl kk
theorem i2s (X : St p l e R s m args below meth c Z B own nm ml ret n0 T h k n) {pc : Nat} {Ls : Array Slot} {st : List Value} {x : Int32} (hd : decode B pc = .ok (.i2s, 1)) 
    (r : Go p e below s n0 Q kC kS (T.setTop (mkF m (pc + 1) Ls (.int (x.toInt16.toInt32) :: st)))) : Go p e below s n0 Q kC kS (T.setTop (mkF m pc Ls (.int x :: st))) := by
  obtain ⟨⟨hx, rfl, -⟩, locs, X, -⟩ := X
  exact r.st fun u kk => Jvm.Free.XT.i2s X.here hx rfl hd rfl kk
theorem i2c (X : St p l e R s m args below meth c Z B own nm ml ret n0 T h k n) {pc : Nat} {Ls : Array Slot} {st : List Value} {x : Int32} (hd : decode B pc = .ok (.i2c, 1)) 
    (r : Go p e below s n0 Q kC kS (T.setTop (mkF m (pc + 1) Ls (.int (x.toUInt32.toUInt16.toUInt32.toInt32) :: st)))) : Go p e below s n0 Q kC kS (T.setTop (mkF m pc Ls (.int x :: st))) := by
  obtain ⟨⟨hx, rfl, -⟩, locs, X, -⟩ := X
  exact r.st fun u kk => Jvm.Free.XT.i2c X.here hx rfl hd rfl kk
theorem lshr (X : St p l e R s m args below meth c Z B own nm ml ret n0 T h k n) {pc : Nat} {Ls : Array Slot} {st : List Value} {x : Int64} {y : Int32} (hd : decode B pc = .ok (.lshr, 1)) 
    (r : Go p e below s n0 Q kC kS (T.setTop (mkF m (pc + 1) Ls (.long (x >>> (y.toInt64 &&& 63)) :: st)))) : Go p e below s n0 Q kC kS (T.setTop (mkF m pc Ls (.int y :: .long x :: st))) := by
  obtain ⟨⟨hx, rfl, -⟩, locs, X, -⟩ := X
  exact r.st fun u kk => Jvm.Free.XT.lshr X.here hx rfl hd rfl kk
theorem lshl (X : St p l e R s m args below meth c Z B own nm ml ret n0 T h k n) {pc : Nat} {Ls : Array Slot} {st : List Value} {x : Int64} {y : Int32} (hd : decode B pc = .ok (.lshl, 1)) 
    (r : Go p e below s n0 Q kC kS (T.setTop (mkF m (pc + 1) Ls (.long (x <<< (y.toInt64 &&& 63)) :: st)))) : Go p e below s n0 Q kC kS (T.setTop (mkF m pc Ls (.int y :: .long x :: st))) := by
  obtain ⟨⟨hx, rfl, -⟩, locs, X, -⟩ := X
  exact r.st fun u kk => Jvm.Free.XT.lshl X.here hx rfl hd rfl kk
theorem i2d (X : St p l e R s m args below meth c Z B own nm ml ret n0 T h k n) {pc : Nat} {Ls : Array Slot} {st : List Value} {x : Int32} {v : UInt64} (hd : decode B pc = .ok (.i2d, 1)) (hv : FP.i2d x = v)
    (r : Go p e below s n0 Q kC kS (T.setTop (mkF m (pc + 1) Ls (.double v :: st)))) : Go p e below s n0 Q kC kS (T.setTop (mkF m pc Ls (.int x :: st))) := by
  obtain ⟨⟨hx, rfl, -⟩, locs, X, -⟩ := X
  exact r.st fun u kk => XS.i2dS X.here hx rfl hd rfl hv kk
theorem l2d (X : St p l e R s m args below meth c Z B own nm ml ret n0 T h k n) {pc : Nat} {Ls : Array Slot} {st : List Value} {x : Int64} {v : UInt64} (hd : decode B pc = .ok (.l2d, 1)) (hv : FP.l2d x = v)
    (r : Go p e below s n0 Q kC kS (T.setTop (mkF m (pc + 1) Ls (.double v :: st)))) : Go p e below s n0 Q kC kS (T.setTop (mkF m pc Ls (.long x :: st))) := by
  obtain ⟨⟨hx, rfl, -⟩, locs, X, -⟩ := X
  exact r.st fun u kk => XS.l2dS X.here hx rfl hd rfl hv kk
theorem dneg (X : St p l e R s m args below meth c Z B own nm ml ret n0 T h k n) {pc : Nat} {Ls : Array Slot} {st : List Value} {x v : UInt64} (hd : decode B pc = .ok (.dneg, 1)) (hv : FP.dneg x = v)
    (r : Go p e below s n0 Q kC kS (T.setTop (mkF m (pc + 1) Ls (.double v :: st)))) : Go p e below s n0 Q kC kS (T.setTop (mkF m pc Ls (.double x :: st))) := by
  obtain ⟨⟨hx, rfl, -⟩, locs, X, -⟩ := X
  exact r.st fun u kk => XS.dnegS X.here hx rfl hd rfl hv kk
theorem dadd (X : St p l e R s m args below meth c Z B own nm ml ret n0 T h k n) {pc : Nat} {Ls : Array Slot} {st : List Value} {x y v : UInt64} (hd : decode B pc = .ok (.dadd, 1)) (hv : FP.dadd x y = v) (hn : NoNaN64 v)
    (r : Go p e below s n0 Q kC kS (T.setTop (mkF m (pc + 1) Ls (.double v :: st)))) : Go p e below s n0 Q kC kS (T.setTop (mkF m pc Ls (.double y :: .double x :: st))) := by
  obtain ⟨⟨hx, rfl, -⟩, locs, X, -⟩ := X
  exact r.st fun u kk => XS.daddS X.here hx rfl hd rfl (hv.symm ▸ hn) hv kk
theorem dsub (X : St p l e R s m args below meth c Z B own nm ml ret n0 T h k n) {pc : Nat} {Ls : Array Slot} {st : List Value} {x y v : UInt64} (hd : decode B pc = .ok (.dsub, 1)) (hv : FP.dsub x y = v) (hn : NoNaN64 v)
    (r : Go p e below s n0 Q kC kS (T.setTop (mkF m (pc + 1) Ls (.double v :: st)))) : Go p e below s n0 Q kC kS (T.setTop (mkF m pc Ls (.double y :: .double x :: st))) := by
  obtain ⟨⟨hx, rfl, -⟩, locs, X, -⟩ := X
  exact r.st fun u kk => XS.dsubS X.here hx rfl hd rfl (hv.symm ▸ hn) hv kk
theorem dmul (X : St p l e R s m args below meth c Z B own nm ml ret n0 T h k n) {pc : Nat} {Ls : Array Slot} {st : List Value} {x y v : UInt64} (hd : decode B pc = .ok (.dmul, 1)) (hv : FP.dmul x y = v) (hn : NoNaN64 v)
    (r : Go p e below s n0 Q kC kS (T.setTop (mkF m (pc + 1) Ls (.double v :: st)))) : Go p e below s n0 Q kC kS (T.setTop (mkF m pc Ls (.double y :: .double x :: st))) := by
  obtain ⟨⟨hx, rfl, -⟩, locs, X, -⟩ := X
  exact r.st fun u kk => XS.dmulS X.here hx rfl hd rfl (hv.symm ▸ hn) hv kk
theorem ddiv (X : St p l e R s m args below meth c Z B own nm ml ret n0 T h k n) {pc : Nat} {Ls : Array Slot} {st : List Value} {x y v : UInt64} (hd : decode B pc = .ok (.ddiv, 1)) (hv : FP.ddiv x y = v) (hn : NoNaN64 v)
    (r : Go p e below s n0 Q kC kS (T.setTop (mkF m (pc + 1) Ls (.double v :: st)))) : Go p e below s n0 Q kC kS (T.setTop (mkF m pc Ls (.double y :: .double x :: st))) := by
  obtain ⟨⟨hx, rfl, -⟩, locs, X, -⟩ := X
  exact r.st fun u kk => XS.ddivS X.here hx rfl hd rfl (hv.symm ▸ hn) hv kk
theorem dup (X : St p l e R s m args below meth c Z B own nm ml ret n0 T h k n) {pc : Nat} {Ls : Array Slot} {st : List Value} {x : Value} (hd : decode B pc = .ok (.dup, 1)) (hc : x.category = 1)
    (r : Go p e below s n0 Q kC kS (T.setTop (mkF m (pc + 1) Ls (x :: x :: st)))) : Go p e below s n0 Q kC kS (T.setTop (mkF m pc Ls (x :: st))) := by
  obtain ⟨⟨hx, rfl, -⟩, locs, X, -⟩ := X
  exact r.st fun u kk => XS.dup X.here hx rfl hd rfl hc kk
theorem pop (X : St p l e R s m args below meth c Z B own nm ml ret n0 T h k n) {pc : Nat} {Ls : Array Slot} {st : List Value} {x : Value} (hd : decode B pc = .ok (.pop, 1)) (hc : x.category = 1)
    (r : Go p e below s n0 Q kC kS (T.setTop (mkF m (pc + 1) Ls (st)))) : Go p e below s n0 Q kC kS (T.setTop (mkF m pc Ls (x :: st))) := by
  obtain ⟨⟨hx, rfl, -⟩, locs, X, -⟩ := X
  exact r.st fun u kk => Jvm.Free.XT.pop X.here hx rfl hd rfl hc kk
theorem iinc (X : St p l e R s m args below meth c Z B own nm ml ret n0 T h k n) {pc : Nat} {Ls : Array Slot} {st : List Value} {j : Nat} {cst : Int} {x : Int32} {l' : Array Slot} (hd : decode B pc = .ok (.iinc j cst, 3)) (hl : Ls[j]? = some (.val (.int x))) (hl' : storeLocals Ls j (.int (x + Int32.ofInt cst)) = some l')
    (r : Go p e below s n0 Q kC kS (T.setTop (mkF m (pc + 3) l' (st)))) : Go p e below s n0 Q kC kS (T.setTop (mkF m pc Ls (st))) := by
  obtain ⟨⟨hx, rfl, -⟩, locs, X, -⟩ := X
  exact r.st fun u kk => XS.iinc X.here hx rfl hd hl hl' kk
theorem goto_ (X : St p l e R s m args below meth c Z B own nm ml ret n0 T h k n) {pc pc' : Nat} {Ls : Array Slot} {st : List Value} {o : Int} (hd : decode B pc = .ok (.goto o, 3)) (hp : (decide (0 ≤ (pc : Int) + o) && decide (((pc : Int) + o).toNat = pc')) = true)
    (r : Go p e below s n0 Q kC kS (T.setTop (mkF m pc' Ls st))) : Go p e below s n0 Q kC kS (T.setTop (mkF m pc Ls st)) := by
  obtain ⟨⟨hx, rfl, -⟩, locs, X, -⟩ := X
  simp only [Bool.and_eq_true, decide_eq_true_eq] at hp
  exact r.st fun u kk => XS.goto X.here hx rfl rfl hd hp.1 hp.2 kk
/-- what a comparison asks, of whole numbers -/
def cmpI : ClassFile.Cond → Int → Int → Prop
  | .eq, a, b => a = b
  | .ne, a, b => ¬ (a = b)
  | .lt, a, b => a < b
  | .ge, a, b => b ≤ a
  | .gt, a, b => b < a
  | .le, a, b => a ≤ b
theorem holds_I (cd : ClassFile.Cond) (x y : Int32) : if_icmp.holds cd x y = true ↔ cmpI cd x.toInt y.toInt := by
  cases cd <;> simp [if_icmp.holds, cmpI, Int32.lt_iff_toInt_lt, Int32.le_iff_toInt_le, ← Int32.toInt_inj]
theorem holds_0 (cd : ClassFile.Cond) (x : Int32) : ifCond.holds cd x = true ↔ cmpI cd x.toInt 0 := by
  rw [if0]; exact holds_I cd x 0
theorem iff_ (X : St p l e R s m args below meth c Z B own nm ml ret n0 T h k n) {pc pc' : Nat} {Ls : Array Slot} {st : List Value} {cd : ClassFile.Cond} {o : Int} {x : Int32} (hd : decode B pc = .ok (.ifCond cd o, 3)) (hp : (decide (0 ≤ (pc : Int) + o) && decide (((pc : Int) + o).toNat = pc')) = true)
    (r1 : cmpI cd x.toInt 0 → Go p e below s n0 Q kC kS (T.setTop (mkF m pc' Ls st))) (r2 : ¬ cmpI cd x.toInt 0 → Go p e below s n0 Q kC kS (T.setTop (mkF m (pc + 3) Ls st))) : Go p e below s n0 Q kC kS (T.setTop (mkF m pc Ls (.int x :: st))) := by
  obtain ⟨⟨hx, rfl, -⟩, locs, X, -⟩ := X
  simp only [Bool.and_eq_true, decide_eq_true_eq] at hp
  by_cases q : ifCond.holds cd x = true
  · exact (r1 ((holds_0 cd x).mp q)).st fun u kk => XS.ifYes X.here hx rfl rfl hd rfl q hp.1 hp.2 kk
  · exact (r2 fun z => q ((holds_0 cd x).mpr z)).st fun u kk => XS.ifNo X.here hx rfl hd rfl (by simpa using q) kk
theorem icmp_ (X : St p l e R s m args below meth c Z B own nm ml ret n0 T h k n) {pc pc' : Nat} {Ls : Array Slot} {st : List Value} {cd : ClassFile.Cond} {o : Int} {x y : Int32} (hd : decode B pc = .ok (.if_icmp cd o, 3)) (hp : (decide (0 ≤ (pc : Int) + o) && decide (((pc : Int) + o).toNat = pc')) = true)
    (r1 : cmpI cd x.toInt y.toInt → Go p e below s n0 Q kC kS (T.setTop (mkF m pc' Ls st))) (r2 : ¬ cmpI cd x.toInt y.toInt → Go p e below s n0 Q kC kS (T.setTop (mkF m (pc + 3) Ls st))) : Go p e below s n0 Q kC kS (T.setTop (mkF m pc Ls (.int y :: .int x :: st))) := by
  obtain ⟨⟨hx, rfl, -⟩, locs, X, -⟩ := X
  simp only [Bool.and_eq_true, decide_eq_true_eq] at hp
  by_cases q : if_icmp.holds cd x y = true
  · exact (r1 ((holds_I cd x y).mp q)).st fun u kk => XS.icmpYes X.here hx rfl rfl hd rfl q hp.1 hp.2 kk
  · exact (r2 fun z => q ((holds_I cd x y).mpr z)).st fun u kk => XS.icmpNo X.here hx rfl hd rfl (by simpa using q) kk
/-- a boolean of the walk: 1 where P, else 0 -/
abbrev bo (P : Prop) [Decidable P] : Int32 := if P then 1 else 0
theorem bo_I (P : Prop) [Decidable P] : (bo P).toInt = if P then 1 else 0 := by unfold bo; split <;> rfl
theorem bo_t {P : Prop} [Decidable P] (q : P) : (1 : Int32) = bo P := (if_pos q).symm
theorem bo_f {P : Prop} [Decidable P] (q : ¬ P) : (0 : Int32) = bo P := (if_neg q).symm
theorem bo_c {P P' : Prop} [Decidable P] [Decidable P'] (q : P ↔ P') : bo P = bo P' := by unfold bo; by_cases z : P <;> simp [z, q.mp, q.mpr, ← q]
theorem nar_bo (P : Prop) [Decidable P] : narrow .boolean (.int (bo P)) = .int (bo P) := by unfold bo; split <;> rfl
theorem fits_bo (P : Prop) [Decidable P] : fits .boolean (.int (bo P)) = true := by unfold bo; split <;> rfl
theorem nar_z {z : Int32} (q : z &&& 1 = z) : narrow .boolean (.int z) = .int z := by show Value.int (z &&& 1) = _; rw [q]
theorem fits_z {z : Int32} (q : z &&& 1 = z) : fits .boolean (.int z) = true := by rcases and_one z with w | w <;> rw [q] at w <;> subst w <;> rfl
theorem bo0 (P : Prop) [Decidable P] : (bo P).toInt = 0 ↔ ¬ P := by rw [bo_I]; by_cases q : P <;> simp [q]
theorem ifeqB (X : St p l e R s m args below meth c Z B own nm ml ret n0 T h k n) {pc pc' : Nat} {Ls : Array Slot} {st : List Value} {o : Int} {P : Prop} [Decidable P] (hd : decode B pc = .ok (.ifCond .eq o, 3)) (hp : (decide (0 ≤ (pc : Int) + o) && decide (((pc : Int) + o).toNat = pc')) = true)
    (r1 : ¬ P → Go p e below s n0 Q kC kS (T.setTop (mkF m pc' Ls st))) (r2 : P → Go p e below s n0 Q kC kS (T.setTop (mkF m (pc + 3) Ls st))) : Go p e below s n0 Q kC kS (T.setTop (mkF m pc Ls (.int (bo P) :: st))) := by
  refine iff_ X hd hp (fun q => r1 fun z => ?_) (fun q => r2 (Classical.byContradiction fun z => q ?_))
  · rw [cmpI, bo_I, if_pos z] at q; cases q
  · rw [cmpI, bo_I, if_neg z]
theorem ifneB (X : St p l e R s m args below meth c Z B own nm ml ret n0 T h k n) {pc pc' : Nat} {Ls : Array Slot} {st : List Value} {o : Int} {P : Prop} [Decidable P] (hd : decode B pc = .ok (.ifCond .ne o, 3)) (hp : (decide (0 ≤ (pc : Int) + o) && decide (((pc : Int) + o).toNat = pc')) = true)
    (r1 : P → Go p e below s n0 Q kC kS (T.setTop (mkF m pc' Ls st))) (r2 : ¬ P → Go p e below s n0 Q kC kS (T.setTop (mkF m (pc + 3) Ls st))) : Go p e below s n0 Q kC kS (T.setTop (mkF m pc Ls (.int (bo P) :: st))) := by
  refine iff_ X hd hp (fun q => r1 (Classical.byContradiction fun z => q ?_)) (fun q => r2 fun z => q ?_)
  · rw [bo_I, if_neg z]
  · rw [cmpI, bo_I, if_pos z]; decide
theorem bo_eq (P P' : Prop) [Decidable P] [Decidable P'] : (bo P).toInt = (bo P').toInt ↔ (P ↔ P') := by
  rw [bo_I, bo_I]; by_cases a : P <;> by_cases b : P' <;> simp [a, b]
theorem icmpneB (X : St p l e R s m args below meth c Z B own nm ml ret n0 T h k n) {pc pc' : Nat} {Ls : Array Slot} {st : List Value} {o : Int} {P P' : Prop} [Decidable P] [Decidable P'] (hd : decode B pc = .ok (.if_icmp .ne o, 3)) (hp : (decide (0 ≤ (pc : Int) + o) && decide (((pc : Int) + o).toNat = pc')) = true)
    (r1 : ¬ (P ↔ P') → Go p e below s n0 Q kC kS (T.setTop (mkF m pc' Ls st))) (r2 : (P ↔ P') → Go p e below s n0 Q kC kS (T.setTop (mkF m (pc + 3) Ls st))) : Go p e below s n0 Q kC kS (T.setTop (mkF m pc Ls (.int (bo P') :: .int (bo P) :: st))) := by
  refine icmp_ X hd hp (fun q => r1 fun z => q ((bo_eq P P').mpr z)) (fun q => r2 (Classical.byContradiction fun z => q fun w => z ((bo_eq P P').mp w)))
theorem icmpeqB (X : St p l e R s m args below meth c Z B own nm ml ret n0 T h k n) {pc pc' : Nat} {Ls : Array Slot} {st : List Value} {o : Int} {P P' : Prop} [Decidable P] [Decidable P'] (hd : decode B pc = .ok (.if_icmp .eq o, 3)) (hp : (decide (0 ≤ (pc : Int) + o) && decide (((pc : Int) + o).toNat = pc')) = true)
    (r1 : (P ↔ P') → Go p e below s n0 Q kC kS (T.setTop (mkF m pc' Ls st))) (r2 : ¬ (P ↔ P') → Go p e below s n0 Q kC kS (T.setTop (mkF m (pc + 3) Ls st))) : Go p e below s n0 Q kC kS (T.setTop (mkF m pc Ls (.int (bo P') :: .int (bo P) :: st))) := by
  refine icmp_ X hd hp (fun q => r1 ((bo_eq P P').mp q)) (fun q => r2 fun z => q ((bo_eq P P').mpr z))
theorem ifnullY (X : St p l e R s m args below meth c Z B own nm ml ret n0 T h k n) {pc pc' : Nat} {Ls : Array Slot} {st : List Value} {o : Int} (hd : decode B pc = .ok (.ifnull o, 3)) (hp : (decide (0 ≤ (pc : Int) + o) && decide (((pc : Int) + o).toNat = pc')) = true)
    (r : Go p e below s n0 Q kC kS (T.setTop (mkF m pc' Ls st))) : Go p e below s n0 Q kC kS (T.setTop (mkF m pc Ls (.null :: st))) := by
  obtain ⟨⟨hx, rfl, -⟩, locs, X, -⟩ := X
  simp only [Bool.and_eq_true, decide_eq_true_eq] at hp
  exact r.st fun u kk => XS.ifnullYes X.here hx rfl rfl hd rfl hp.1 hp.2 kk
theorem ifnonnullY (X : St p l e R s m args below meth c Z B own nm ml ret n0 T h k n) {pc pc' : Nat} {Ls : Array Slot} {st : List Value} {o : Int} {b : Addr} (hd : decode B pc = .ok (.ifnonnull o, 3)) (hp : (decide (0 ≤ (pc : Int) + o) && decide (((pc : Int) + o).toNat = pc')) = true)
    (r : Go p e below s n0 Q kC kS (T.setTop (mkF m pc' Ls st))) : Go p e below s n0 Q kC kS (T.setTop (mkF m pc Ls (.ref b :: st))) := by
  obtain ⟨⟨hx, rfl, -⟩, locs, X, -⟩ := X
  simp only [Bool.and_eq_true, decide_eq_true_eq] at hp
  exact r.st fun u kk => Jvm.Free.XT.ifnonnullYes X.here hx rfl rfl hd rfl hp.1 hp.2 kk
theorem ifnullN (X : St p l e R s m args below meth c Z B own nm ml ret n0 T h k n) {pc : Nat} {Ls : Array Slot} {st : List Value} {o : Int} {b : Addr} (hd : decode B pc = .ok (.ifnull o, 3)) 
    (r : Go p e below s n0 Q kC kS (T.setTop (mkF m (pc + 3) Ls (st)))) : Go p e below s n0 Q kC kS (T.setTop (mkF m pc Ls (.ref b :: st))) := by
  obtain ⟨⟨hx, rfl, -⟩, locs, X, -⟩ := X
  exact r.st fun u kk => XS.ifnullNo X.here hx rfl hd rfl kk
theorem ifnonnullN (X : St p l e R s m args below meth c Z B own nm ml ret n0 T h k n) {pc : Nat} {Ls : Array Slot} {st : List Value} {o : Int} (hd : decode B pc = .ok (.ifnonnull o, 3)) 
    (r : Go p e below s n0 Q kC kS (T.setTop (mkF m (pc + 3) Ls (st)))) : Go p e below s n0 Q kC kS (T.setTop (mkF m pc Ls (.null :: st))) := by
  obtain ⟨⟨hx, rfl, -⟩, locs, X, -⟩ := X
  exact r.st fun u kk => Jvm.Free.XT.ifnonnullNo X.here hx rfl hd rfl kk
/-- a double's number, in units of 2^-1074 -/
def dz (x : UInt64) : Int := FP.Core.zval FP.Core.b64 (FP.Core.val64 x)
theorem nn_val {x : UInt64} (q : NoNaN64 x) : FP.Core.val64 x ≠ .nan := (FP.Core.notNaN_iff x).mp (noNaN64_no.mp q)
theorem dcmp_dz {x y : UInt64} (nx : NoNaN64 x) (ny : NoNaN64 y) : FP.dcmp x y = some (compare (dz x) (dz y)) := FP.Core.dcmp_zval (nn_val nx) (nn_val ny)
theorem cmpV_dz {x y : UInt64} (nx : NoNaN64 x) (ny : NoNaN64 y) (cd : ClassFile.Cond) (o : CmpOp) : cmpI cd (cmpValue (FP.dcmp x y) o).toInt 0 ↔ cmpI cd (dz x) (dz y) := by
  rw [dcmp_dz nx ny]
  have key : (cmpValue (some (compare (dz x) (dz y))) o).toInt = if dz x < dz y then -1 else if dz x = dz y then 0 else 1 := by
    rw [FP.Core.compare_ite]; split
    · cases o <;> rfl
    · split
      · cases o <;> rfl
      · cases o <;> rfl
  rw [key]
  split
  · cases cd <;> simp [cmpI] <;> omega
  · split
    · cases cd <;> simp [cmpI] <;> omega
    · cases cd <;> simp [cmpI] <;> omega
/-- dcmpl | dcmpg and the branch behind it, of two that are no NaN -/
theorem dcmpF (X : St p l e R s m args below meth c Z B own nm ml ret n0 T h k n) {pc pc' : Nat} {Ls : Array Slot} {st : List Value} {cd : ClassFile.Cond} {op : CmpOp} {o : Int} {x y : UInt64} (hd1 : decode B pc = .ok (.dcmp op, 1)) (hd : decode B (pc + 1) = .ok (.ifCond cd o, 3)) (hp : (decide (0 ≤ ((pc + 1 : Nat) : Int) + o) && decide ((((pc + 1 : Nat) : Int) + o).toNat = pc')) = true) (nx : NoNaN64 x) (ny : NoNaN64 y)
    (r1 : cmpI cd (dz x) (dz y) → Go p e below s n0 Q kC kS (T.setTop (mkF m pc' Ls st))) (r2 : ¬ cmpI cd (dz x) (dz y) → Go p e below s n0 Q kC kS (T.setTop (mkF m (pc + 1 + 3) Ls st))) : Go p e below s n0 Q kC kS (T.setTop (mkF m pc Ls (.double y :: .double x :: st))) := by
  have r : Go p e below s n0 Q kC kS (T.setTop (mkF m (pc + 1) Ls (.int (cmpValue (FP.dcmp x y) op) :: st))) :=
    iff_ X hd hp (fun q => r1 ((cmpV_dz nx ny cd op).mp q)) (fun q => r2 fun z => q ((cmpV_dz nx ny cd op).mpr z))
  obtain ⟨⟨hx, rfl, -⟩, locs, X, -⟩ := X
  exact r.st fun u kk => XS.dcmpS X.here hx rfl hd1 rfl rfl kk
theorem cmpL_I (x y : Int64) (cd : ClassFile.Cond) : cmpI cd (Jvm.Free.XT.cmpL x y).toInt 0 ↔ cmpI cd x.toInt y.toInt := by
  have key : (Jvm.Free.XT.cmpL x y).toInt = if y.toInt < x.toInt then 1 else if x.toInt = y.toInt then 0 else -1 := by
    simp only [Jvm.Free.XT.cmpL, Int64.lt_iff_toInt_lt, ← Int64.toInt_inj]
    split
    · rfl
    · split <;> rfl
  rw [key]
  split
  · cases cd <;> simp [cmpI] <;> omega
  · split
    · cases cd <;> simp [cmpI] <;> omega
    · cases cd <;> simp [cmpI] <;> omega
theorem lcmpF (X : St p l e R s m args below meth c Z B own nm ml ret n0 T h k n) {pc pc' : Nat} {Ls : Array Slot} {st : List Value} {cd : ClassFile.Cond} {o : Int} {x y : Int64} (hd1 : decode B pc = .ok (.lcmp, 1)) (hd : decode B (pc + 1) = .ok (.ifCond cd o, 3)) (hp : (decide (0 ≤ ((pc + 1 : Nat) : Int) + o) && decide ((((pc + 1 : Nat) : Int) + o).toNat = pc')) = true)
    (r1 : cmpI cd x.toInt y.toInt → Go p e below s n0 Q kC kS (T.setTop (mkF m pc' Ls st))) (r2 : ¬ cmpI cd x.toInt y.toInt → Go p e below s n0 Q kC kS (T.setTop (mkF m (pc + 1 + 3) Ls st))) : Go p e below s n0 Q kC kS (T.setTop (mkF m pc Ls (.long y :: .long x :: st))) := by
  have r : Go p e below s n0 Q kC kS (T.setTop (mkF m (pc + 1) Ls (.int (Jvm.Free.XT.cmpL x y) :: st))) :=
    iff_ X hd hp (fun q => r1 ((cmpL_I x y cd).mp q)) (fun q => r2 fun z => q ((cmpL_I x y cd).mpr z))
  obtain ⟨⟨hx, rfl, -⟩, locs, X, -⟩ := X
  exact r.st fun u kk => Jvm.Free.XT.lcmp X.here hx rfl hd1 rfl kk
theorem ldcI (X : St p l e R s m args below meth c Z B own nm ml ret n0 T h k n) {a0 : Array Value} {pc index : Nat} {Ls : Array Slot} {st : List Value} {v : Int32} (hd : decode B pc = .ok (.ldc index, 2)) (w : (Cond.constant own index v).before a0 Z = true)
    (r : Go p e below s n0 Q kC kS (T.setTop (mkF m (pc + 2) Ls (.int v :: st)))) : Go p e below s n0 Q kC kS (T.setTop (mkF m pc Ls st)) := by
  obtain ⟨⟨hx, rfl, hZ, hown, -⟩, locs, X, -⟩ := X
  exact r.st fun u kk => X.ldcInt (g := mkF m pc Ls st) hx hown (mvT hZ w) rfl hd u kk
theorem ldc2J (X : St p l e R s m args below meth c Z B own nm ml ret n0 T h k n) {a0 : Array Value} {pc index : Nat} {Ls : Array Slot} {st : List Value} {v : Int64} (hd : decode B pc = .ok (.ldc2_w index, 3)) (w : (Cond.constantLong own index v).before a0 Z = true)
    (r : Go p e below s n0 Q kC kS (T.setTop (mkF m (pc + 3) Ls (.long v :: st)))) : Go p e below s n0 Q kC kS (T.setTop (mkF m pc Ls st)) := by
  obtain ⟨⟨hx, rfl, hZ, hown, -⟩, locs, X, -⟩ := X
  exact r.st fun u kk => X.ldc2Long (g := mkF m pc Ls st) hx hown (mvT hZ w) rfl hd u kk
theorem ldc2D (X : St p l e R s m args below meth c Z B own nm ml ret n0 T h k n) {a0 : Array Value} {pc index : Nat} {Ls : Array Slot} {st : List Value} {v : UInt64} (hd : decode B pc = .ok (.ldc2_w index, 3)) (w : (Cond.constantDouble own index v).before a0 Z = true)
    (r : Go p e below s n0 Q kC kS (T.setTop (mkF m (pc + 3) Ls (.double v :: st)))) : Go p e below s n0 Q kC kS (T.setTop (mkF m pc Ls st)) := by
  obtain ⟨⟨hx, rfl, hZ, hown, -⟩, locs, X, -⟩ := X
  exact r.st fun u kk => X.ldc2DoubleC (g := mkF m pc Ls st) hx hown (mvT hZ w) rfl hd u kk
theorem leaveG (X : St p l e R s m args below meth c Z B own nm ml ret n0 T h k n) {v : Option Value} {t : State} (hv : meth.sig.returnType = none → v = none) (hQ : Q v h) (hk : k ≤ kC) (hn : n ≤ kS)
    (st : ∀ (locs : List Loc) (fs : List Frame), p.tables.exec = Jvm.exec → c.code = B → meth.sig.returnType = ret → Stand p l e R s m args below meth c T locs k n → (∀ (f : JFrame) (acts : List Action), f.method = m → f.locked = none → f.entered = [] → (doReturn e (T.setTop f) acts v).1 = T.setFrames fs) → Steps p.tables e below t (T.setFrames fs)) : Go p e below s n0 Q kC kS t := by
  obtain ⟨⟨hx, hby, hZ, hown, hml, hret, hlocks, hnm⟩, locs, X, eT, N⟩ := X
  obtain ⟨fs, hr, hrun, hended, hW, hsame⟩ := X.leave (v := v) hv hlocks
  refine ⟨_, _, st locs fs hx hby hret X hr, hrun, hended, _, _, rfl, ⟨?_, N⟩, ⟨_, rfl⟩, hW, hsame.mono hk hn⟩
  show Q v T.heap
  rw [eT]; exact hQ
theorem retV (X : St p l e R s m args below meth c Z B own nm ml none n0 T h k n) {pc : Nat} {Ls : Array Slot} (hd : decode B pc = .ok (.return_, 1)) (hQ : Q none h) (hk : k ≤ kC) (hn : n ≤ kS) : Go p e below s n0 Q kC kS (T.setTop (mkF m pc Ls [])) :=
  leaveG X (v := none) (fun _ => rfl) hQ hk hn fun locs fs hx hby hret X hr => X.returnOut hx hret (by rw [hby]; exact hd) hr
theorem retB (X : St p l e R s m args below meth c Z B own nm ml (some .boolean) n0 T h k n) {pc : Nat} {Ls : Array Slot} {st : List Value} {z : Int32} (hd : decode B pc = .ok (.ireturn, 1)) (hz : z &&& 1 = z) (hQ : Q (some (.int z)) h) (hk : k ≤ kC) (hn : n ≤ kS) : Go p e below s n0 Q kC kS (T.setTop (mkF m pc Ls (.int z :: st))) :=
  leaveG X (v := some (.int z)) (fun q => by rw [X.1.2.2.2.2.2.1] at q; cases q) hQ hk hn fun locs fs hx hby hret X hr => retN X hx (t := .boolean) hret (by simp) (by rw [hby]; exact hd) (by intro f acts h1 h2 h3; rw [show nar .boolean z = z from hz]; exact hr f acts h1 h2 h3)
theorem bo_and (P : Prop) [Decidable P] : bo P &&& 1 = bo P := by unfold bo; split <;> decide
theorem retO (w : Value) (t : FieldType) {i : Instr} (X : St p l e R s m args below meth c Z B own nm ml (some t) n0 T h k n) {pc : Nat} {Ls : Array Slot} {st : List Value} (hd : decode B pc = .ok (i, 1)) (hw : narrow t w = w)
    (hi : (i = .ireturn ∧ (t = .int ∨ t = .boolean ∨ t = .byte ∨ t = .char ∨ t = .short) ∧ ∃ z, w = .int z) ∨ (i = .lreturn ∧ t = .long ∧ ∃ z, w = .long z) ∨ (i = .dreturn ∧ t = .double ∧ ∃ z, w = .double z) ∨ (i = .freturn ∧ t = .float ∧ ∃ z, w = .float z) ∨ (i = .areturn ∧ t.isReference = true ∧ w.isRef = true))
    (hQ : Q (some w) h) (hk : k ≤ kC) (hn : n ≤ kS) : Go p e below s n0 Q kC kS (T.setTop (mkF m pc Ls (w :: st))) :=
  leaveG X (v := some w) (fun q => by rw [X.1.2.2.2.2.2.1] at q; cases q) hQ hk hn fun locs fs hx hby hret X hr => retOut X hx hret hw hi (by rw [hby]; exact hd) hr
theorem retI (X : St p l e R s m args below meth c Z B own nm ml (some .int) n0 T h k n) {pc : Nat} {Ls : Array Slot} {st : List Value} {z : Int32} (hd : decode B pc = .ok (.ireturn, 1)) (hQ : Q (some (.int z)) h) (hk : k ≤ kC) (hn : n ≤ kS) : Go p e below s n0 Q kC kS (T.setTop (mkF m pc Ls (.int z :: st))) :=
  retO (.int z) .int X hd rfl (Or.inl ⟨rfl, Or.inl rfl, z, rfl⟩) hQ hk hn
theorem retD (X : St p l e R s m args below meth c Z B own nm ml (some .double) n0 T h k n) {pc : Nat} {Ls : Array Slot} {st : List Value} {z : UInt64} (hd : decode B pc = .ok (.dreturn, 1)) (hQ : Q (some (.double z)) h) (hk : k ≤ kC) (hn : n ≤ kS) : Go p e below s n0 Q kC kS (T.setTop (mkF m pc Ls (.double z :: st))) :=
  retO (.double z) .double X hd rfl (Or.inr (Or.inr (Or.inl ⟨rfl, rfl, z, rfl⟩))) hQ hk hn
theorem retA {t : FieldType} (X : St p l e R s m args below meth c Z B own nm ml (some t) n0 T h k n) {pc : Nat} {Ls : Array Slot} {st : List Value} {v : Value} (hd : decode B pc = .ok (.areturn, 1)) (ht : t.isReference = true) (hv : v.isRef = true) (hw : narrow t v = v) (hQ : Q (some v) h) (hk : k ≤ kC) (hn : n ≤ kS) : Go p e below s n0 Q kC kS (T.setTop (mkF m pc Ls (v :: st))) :=
  retO v t X hd hw (Or.inr (Or.inr (Or.inr (Or.inr ⟨rfl, ht, hv⟩)))) hQ hk hn
theorem getF_ (X : St p l e R s m args below meth c Z B own nm ml ret n0 T h k n) {a0 : Array Value} {R0 O f d host : String} {index pc : Nat} {Ls : Array Slot} {st : List Value} {a : Addr} {v : Value} (hd : decode B pc = .ok (.getfield index, 3)) (w : (Cond.fieldLink own index R0 f d).before a0 Z = true ∨ (Cond.fieldLinkNest own index R0 f d host).before a0 Z = true) (via : Via Z R0 O f d) (F : Fld Z h a O f d v)
    (r : ∀ T', St p l e R s m args below meth c Z B own nm ml ret n0 T' h k n → Go p e below s n0 Q kC kS (T'.setTop (mkF m (pc + 3) Ls (v :: st)))) : Go p e below s n0 Q kC kS (T.setTop (mkF m pc Ls (.ref a :: st))) := by
  obtain ⟨⟨hx, hby, hZ, hown, q⟩, locs, X, eT, N⟩ := X
  obtain ⟨T', X', e', st'⟩ := getF X hx hZ hown w via eT F (g := mkF m pc Ls (.ref a :: st)) rfl rfl (by rw [hby]; exact hd)
  exact (r T' ⟨⟨hx, hby, hZ, hown, q⟩, locs, X', e', N⟩).st st'
theorem putF_ (X : St p l e R s m args below meth c Z B own nm ml ret n0 T h k n) {a0 : Array Value} {R0 O f d host C : String} {index kk pc : Nat} {ty : FieldType} {Ls : Array Slot} {st : List Value} {a : Addr} {v old : Value} (hd : decode B pc = .ok (.putfield index, 3)) (w : (Cond.fieldLink own index R0 f d).before a0 Z = true ∨ (Cond.fieldLinkNest own index R0 f d host).before a0 Z = true) (via : Via Z R0 O f d) (F : Fld Z h a O f d old) (E : Exa Z h a C)
    (L : (Cond.lays C O f d).before a0 Z = true ∨ ((Cond.laysFinal C O f d).before a0 Z = true ∧ own = O ∧ nm = "<init>")) (wi : (Cond.instantiable C kk).before a0 Z = true) (hty : parseFieldDescriptor d = some ty) (hv : narrow ty v = v) (hf : fits ty v = true) (ha : n0 ≤ a)
    (r : ∀ T' h', St p l e R s m args below meth c Z B own nm ml ret n0 T' h' k n → Wr h h' a (Jvm.RoadKit.slotOf Z O f d) v → Go p e below s n0 Q kC kS (T'.setTop (mkF m (pc + 3) Ls st))) : Go p e below s n0 Q kC kS (T.setTop (mkF m pc Ls (v :: .ref a :: st))) := by
  obtain ⟨⟨hx, hby, hZ, hown, q1, q2, q3, q4⟩, locs, X, eT, N⟩ := X
  obtain ⟨T', h', X', e', W', st'⟩ := putF X hx hZ hown w via eT F E (L.imp id fun ⟨z1, z2, z3⟩ => ⟨z1, z2, q4.trans z3⟩) wi hty hv hf (g := mkF m pc Ls (v :: .ref a :: st)) rfl rfl (by rw [hby]; exact hd)
  exact (r T' h' ⟨⟨hx, hby, hZ, hown, q1, q2, q3, q4⟩, _, X', e', Fr.snoc X' N ha⟩ W').st st'
theorem getS_ (X : St p l e R s m args below meth c Z B own nm ml ret n0 T h k n) {a0 : Array Value} {R0 O f d host : String} {index pc : Nat} {Ls : Array Slot} {st : List Value} {v : Value} (hd : decode B pc = .ok (.getstatic index, 3)) (w : (Cond.fieldLink own index R0 f d).before a0 Z = true ∨ (Cond.fieldLinkNest own index R0 f d host).before a0 Z = true) (via : Via Z R0 O f d) (F : Sta Z h O f d v)
    (r : ∀ T', St p l e R s m args below meth c Z B own nm ml ret n0 T' h k n → Go p e below s n0 Q kC kS (T'.setTop (mkF m (pc + 3) Ls (v :: st)))) : Go p e below s n0 Q kC kS (T.setTop (mkF m pc Ls st)) := by
  obtain ⟨⟨hx, hby, hZ, hown, q⟩, locs, X, eT, N⟩ := X
  obtain ⟨T', X', e', st'⟩ := getS2 X hx hZ hown w via eT F (g := mkF m pc Ls st) rfl (by rw [hby]; exact hd)
  exact (r T' ⟨⟨hx, hby, hZ, hown, q⟩, locs, X', e', N⟩).st st'
theorem newO_ (X : St p l e R s m args below meth c Z B own nm ml ret n0 T h k n) {a0 : Array Value} {C : String} {index cnt pc : Nat} {Ls : Array Slot} {st : List Value} (hd : decode B pc = .ok (.new index, 3)) (w : (Cond.classLink own index C).before a0 Z = true) (wi : (Cond.instantiable C cnt).before a0 Z = true) (wz : (Cond.initialized C).before a0 Z = true) (hc : k + 1 ≤ R.cells) (hl : n + cnt ≤ R.slots)
    (r : ∀ T' h' a, a = h.size → St p l e R s m args below meth c Z B own nm ml ret n0 T' h' (k + 1) (n + cnt) → Ext h h' → Exa Z h' a C → (∀ {O f d : String} {ty : FieldType}, Laid Z a0 C O f d → parseFieldDescriptor d = some ty → Fld Z h' a O f d (defaultValue ty)) → Go p e below s n0 Q kC kS (T'.setTop (mkF m (pc + 3) Ls (.ref a :: st)))) : Go p e below s n0 Q kC kS (T.setTop (mkF m pc Ls st)) := by
  obtain ⟨⟨hx, hby, hZ, hown, q⟩, locs, X, eT, N⟩ := X
  obtain ⟨T', h', X', e', E', A', D', -, st'⟩ := newO X hx hZ hown w wi wz eT (g := mkF m pc Ls st) rfl (by rw [hby]; exact hd) hc hl
  exact (r T' h' _ rfl ⟨⟨hx, hby, hZ, hown, q⟩, locs, X', e', N⟩ E' A' D').st st'
theorem initO_ (X : St p l e R s m args below meth c Z B own nm ml ret n0 T h k n) {a0 : Array Value} {idx W pc : Nat} {Ls : Array Slot} {st : List Value} {a : Addr} (hd : decode B pc = .ok (.invokespecial idx, 3)) (w1 : (Cond.methodLink own idx Lib.objectInit).before a0 Z = true) (w2 : (Cond.instanceMethod Lib.objectInit).before a0 Z = true) (w3 : (Cond.code Lib.objectInit ⟨#[0xb1]⟩ 1 none).before a0 Z = true) (hsz : Ls.size = ml)
    (hf : 1 ≤ R.frames) (hW : 2 * 0 + (st.map fun v => v.category).sum ≤ W) (hl : W + 12 ≤ R.locals)
    (r : ∀ T', St p l e R s m args below meth c Z B own nm ml ret n0 T' h k n → Go p e below s n0 Q kC kS (T'.setTop (mkF m (pc + 3) Ls st))) : Go p e below s n0 Q kC kS (T.setTop (mkF m pc Ls (.ref a :: st))) := by
  obtain ⟨⟨hx, hby, hZ, hown, hml, q⟩, locs, X, eT, N⟩ := X
  obtain ⟨T', X', e', st'⟩ := initO X hx hZ hown w1 w2 w3 eT (g := mkF m pc Ls (.ref a :: st)) rfl (by rw [hml]; exact hsz) rfl (by rw [hby]; exact hd) hf hW hl
  exact (r T' ⟨⟨hx, hby, hZ, hown, hml, q⟩, locs, X', e', N⟩).st st'

theorem newP_ (X : St p l e R s m args below meth c Z B own nm ml ret n0 T h k n) {a0 : Array Value} {aty : ArrayType} {z : Int32} {pc : Nat} {Ls : Array Slot} {st : List Value} (cap : Nat) (ty : FieldType) (dv : Value) (ad : String) (hd : decode B pc = .ok (.newarray aty, 2)) (hty : newarray.typeOf aty = ty) (hdv : defaultValue ty = dv) (had : "[" ++ ty.toString = ad) (w : (Cond.arrayClass ty).before a0 Z = true) (hz : ¬ z < 0) (hcap : z.toNatClampNeg ≤ cap) (hb : cap * 8 ≤ 536870912) (hc : k + 1 ≤ R.cells) (hl : n + cap ≤ R.slots)
    (r : ∀ T' h' a kk, a = h.size → St p l e R s m args below meth c Z B own nm ml ret n0 T' h' (k + 1) (n + cap) → Ext h h' → Arv Z h' a kk ty z [] dv → Exa Z h' a ad → Go p e below s n0 Q kC kS (T'.setTop (mkF m (pc + 2) Ls (.ref a :: st)))) : Go p e below s n0 Q kC kS (T.setTop (mkF m pc Ls (.int z :: st))) := by
  subst hty hdv
  obtain ⟨⟨hx, hby, hZ, q⟩, locs, X, eT, N⟩ := X
  obtain ⟨T', h', cA, X', e', E', A', G', st'⟩ := newPE X hx hZ w eT (g := mkF m pc Ls (.int z :: st)) rfl (by rw [hby]; exact hd) rfl hz hcap hb hc hl had
  exact (r T' h' _ cA rfl ⟨⟨hx, hby, hZ, q⟩, locs, X', e', N⟩ E' (Arv.new A' hz) G').st st'
theorem alen_ (X : St p l e R s m args below meth c Z B own nm ml ret n0 T h k n) {kk : ClassId} {ty : FieldType} {z : Int32} {vs : List Value} {dv : Value} {a : Addr} {pc : Nat} {Ls : Array Slot} {st : List Value} (hd : decode B pc = .ok (.arraylength, 1)) (A : Arv Z h a kk ty z vs dv)
    (r : Go p e below s n0 Q kC kS (T.setTop (mkF m (pc + 1) Ls (.int z :: st)))) : Go p e below s n0 Q kC kS (T.setTop (mkF m pc Ls (.ref a :: st))) := by
  obtain ⟨⟨hx, rfl, hZ, -⟩, locs, X, eT, -⟩ := X
  obtain ⟨cl, A, -, S, hz, -⟩ := A
  rw [← len_of S hz] at r
  exact r.st fun u kk => X.arraylength (g := mkF m pc Ls (.ref a :: st)) hx (by rw [eT]; exact A.1) (State.isArrayOf_alike hZ.alike A.2.1) rfl rfl hd u kk
theorem daload_ (X : St p l e R s m args below meth c Z B own nm ml ret n0 T h k n) {kk : ClassId} {z j : Int32} {vs : List Value} {dv : Value} {v : UInt64} {a : Addr} {pc : Nat} {Ls : Array Slot} {st : List Value} (hd : decode B pc = .ok (.daload, 1)) (A : Arv Z h a kk .double z vs dv) (hj : ¬ j < 0 ∧ j < z) (hv : vs.getD j.toNatClampNeg dv = .double v)
    (r : Go p e below s n0 Q kC kS (T.setTop (mkF m (pc + 1) Ls (.double v :: st)))) : Go p e below s n0 Q kC kS (T.setTop (mkF m pc Ls (.int j :: .ref a :: st))) := by
  obtain ⟨⟨hx, rfl, hZ, -⟩, locs, X, eT, -⟩ := X
  obtain ⟨cl, A, -, S, hz, H, -⟩ := A
  exact r.st fun u kk => X.daload (g := mkF m pc Ls (.int j :: .ref a :: st)) hx (by rw [eT]; exact A.1) (State.isArrayOf_alike hZ.alike A.2.1) A.2.2 (inb_of S hj) (H.at (inb_of S hj) hv) rfl rfl hd u kk
theorem iaload_ (X : St p l e R s m args below meth c Z B own nm ml ret n0 T h k n) {kk : ClassId} {z j : Int32} {vs : List Value} {dv : Value} {v : Int32} {a : Addr} {pc : Nat} {Ls : Array Slot} {st : List Value} (hd : decode B pc = .ok (.iaload, 1)) (A : Arv Z h a kk .int z vs dv) (hj : ¬ j < 0 ∧ j < z) (hv : vs.getD j.toNatClampNeg dv = .int v)
    (r : Go p e below s n0 Q kC kS (T.setTop (mkF m (pc + 1) Ls (.int v :: st)))) : Go p e below s n0 Q kC kS (T.setTop (mkF m pc Ls (.int j :: .ref a :: st))) := by
  obtain ⟨⟨hx, rfl, hZ, -⟩, locs, X, eT, -⟩ := X
  obtain ⟨cl, A, -, S, hz, H, -⟩ := A
  exact r.st fun u kk => X.iaload (g := mkF m pc Ls (.int j :: .ref a :: st)) hx (by rw [eT]; exact A.1) (State.isArrayOf_alike hZ.alike A.2.1) A.2.2 (inb_of S hj) (H.at (inb_of S hj) hv) rfl rfl hd u kk
theorem laload_ (X : St p l e R s m args below meth c Z B own nm ml ret n0 T h k n) {kk : ClassId} {z j : Int32} {vs : List Value} {dv : Value} {v : Int64} {a : Addr} {pc : Nat} {Ls : Array Slot} {st : List Value} (hd : decode B pc = .ok (.laload, 1)) (A : Arv Z h a kk .long z vs dv) (hj : ¬ j < 0 ∧ j < z) (hv : vs.getD j.toNatClampNeg dv = .long v)
    (r : Go p e below s n0 Q kC kS (T.setTop (mkF m (pc + 1) Ls (.long v :: st)))) : Go p e below s n0 Q kC kS (T.setTop (mkF m pc Ls (.int j :: .ref a :: st))) := by
  obtain ⟨⟨hx, rfl, hZ, -⟩, locs, X, eT, -⟩ := X
  obtain ⟨cl, A, -, S, hz, H, -⟩ := A
  exact r.st fun u kk => X.laload (g := mkF m pc Ls (.int j :: .ref a :: st)) hx (by rw [eT]; exact A.1) (State.isArrayOf_alike hZ.alike A.2.1) A.2.2 (inb_of S hj) (H.at (inb_of S hj) hv) rfl rfl hd u kk
theorem aaload_ (X : St p l e R s m args below meth c Z B own nm ml ret n0 T h k n) {kk : ClassId} {ty : FieldType} {z j : Int32} {vs : List Value} {dv v : Value} {a : Addr} {pc : Nat} {Ls : Array Slot} {st : List Value} (hd : decode B pc = .ok (.aaload, 1)) (A : Arv Z h a kk ty z vs dv) (hty : ty.isReference = true) (hj : ¬ j < 0 ∧ j < z) (hv : vs.getD j.toNatClampNeg dv = v)
    (r : Go p e below s n0 Q kC kS (T.setTop (mkF m (pc + 1) Ls (v :: st)))) : Go p e below s n0 Q kC kS (T.setTop (mkF m pc Ls (.int j :: .ref a :: st))) := by
  obtain ⟨⟨hx, rfl, hZ, -⟩, locs, X, eT, -⟩ := X
  obtain ⟨cl, A, -, S, hz, H, -⟩ := A
  exact r.st fun u kk => X.aaload (g := mkF m pc Ls (.int j :: .ref a :: st)) hx (by rw [eT]; exact A.1) (State.isArrayOf_alike hZ.alike A.2.1) hty A.2.2 (inb_of S hj) (H.at (inb_of S hj) hv) rfl rfl hd u kk
theorem dastore_ (X : St p l e R s m args below meth c Z B own nm ml ret n0 T h k n) {kk : ClassId} {z j : Int32} {vs : List Value} {dv : Value} {v : UInt64} {a : Addr} {pc : Nat} {Ls : Array Slot} {st : List Value} (i : Nat) (hd : decode B pc = .ok (.dastore, 1)) (A : Arv Z h a kk .double z vs dv) (hj : ¬ j < 0 ∧ j < z) (hi : j.toNatClampNeg = i) (hl : i < vs.length) (ha : n0 ≤ a)
    (r : ∀ T' h', St p l e R s m args below meth c Z B own nm ml ret n0 T' h' k n → Wr h h' a j.toNatClampNeg (.double v) → Arv Z h' a kk .double z (vs.set i (.double v)) dv → Go p e below s n0 Q kC kS (T'.setTop (mkF m (pc + 1) Ls st))) : Go p e below s n0 Q kC kS (T.setTop (mkF m pc Ls (.double v :: .int j :: .ref a :: st))) := by
  obtain ⟨⟨hx, hby, hZ, q⟩, locs, X, eT, N⟩ := X
  obtain ⟨cl, A, q1, S, hz, H, F⟩ := A
  obtain ⟨T', h', X', e', W', st'⟩ := stD X hx hZ eT A (inb_of S hj) (g := mkF m pc Ls (.double v :: .int j :: .ref a :: st)) rfl rfl (by rw [hby]; exact hd)
  exact (r T' h' ⟨⟨hx, hby, hZ, q⟩, _, X', e', Fr.snoc X' N ha⟩ W' (Arv.set A q1 S hz H F rfl W' i hi hl)).st st'
theorem iastore_ (X : St p l e R s m args below meth c Z B own nm ml ret n0 T h k n) {kk : ClassId} {z j : Int32} {vs : List Value} {dv : Value} {v : Int32} {a : Addr} {pc : Nat} {Ls : Array Slot} {st : List Value} (i : Nat) (hd : decode B pc = .ok (.iastore, 1)) (A : Arv Z h a kk .int z vs dv) (hj : ¬ j < 0 ∧ j < z) (hi : j.toNatClampNeg = i) (hl : i < vs.length) (ha : n0 ≤ a)
    (r : ∀ T' h', St p l e R s m args below meth c Z B own nm ml ret n0 T' h' k n → Wr h h' a j.toNatClampNeg (.int v) → Arv Z h' a kk .int z (vs.set i (.int v)) dv → Go p e below s n0 Q kC kS (T'.setTop (mkF m (pc + 1) Ls st))) : Go p e below s n0 Q kC kS (T.setTop (mkF m pc Ls (.int v :: .int j :: .ref a :: st))) := by
  obtain ⟨⟨hx, hby, hZ, q⟩, locs, X, eT, N⟩ := X
  obtain ⟨cl, A, q1, S, hz, H, F⟩ := A
  obtain ⟨T', h', X', e', W', st'⟩ := stI X hx hZ eT A (inb_of S hj) (g := mkF m pc Ls (.int v :: .int j :: .ref a :: st)) rfl rfl (by rw [hby]; exact hd)
  exact (r T' h' ⟨⟨hx, hby, hZ, q⟩, _, X', e', Fr.snoc X' N ha⟩ W' (Arv.set A q1 S hz H F rfl W' i hi hl)).st st'
theorem lastore_ (X : St p l e R s m args below meth c Z B own nm ml ret n0 T h k n) {kk : ClassId} {z j : Int32} {vs : List Value} {dv : Value} {v : Int64} {a : Addr} {pc : Nat} {Ls : Array Slot} {st : List Value} (i : Nat) (hd : decode B pc = .ok (.lastore, 1)) (A : Arv Z h a kk .long z vs dv) (hj : ¬ j < 0 ∧ j < z) (hi : j.toNatClampNeg = i) (hl : i < vs.length) (ha : n0 ≤ a)
    (r : ∀ T' h', St p l e R s m args below meth c Z B own nm ml ret n0 T' h' k n → Wr h h' a j.toNatClampNeg (.long v) → Arv Z h' a kk .long z (vs.set i (.long v)) dv → Go p e below s n0 Q kC kS (T'.setTop (mkF m (pc + 1) Ls st))) : Go p e below s n0 Q kC kS (T.setTop (mkF m pc Ls (.long v :: .int j :: .ref a :: st))) := by
  obtain ⟨⟨hx, hby, hZ, q⟩, locs, X, eT, N⟩ := X
  obtain ⟨cl, A, q1, S, hz, H, F⟩ := A
  obtain ⟨T', h', X', e', W', st'⟩ := stJ X hx hZ eT A (inb_of S hj) (g := mkF m pc Ls (.long v :: .int j :: .ref a :: st)) rfl rfl (by rw [hby]; exact hd)
  exact (r T' h' ⟨⟨hx, hby, hZ, q⟩, _, X', e', Fr.snoc X' N ha⟩ W' (Arv.set A q1 S hz H F rfl W' i hi hl)).st st'
theorem newRA_ (X : St p l e R s m args below meth c Z B own nm ml ret n0 T h k n) {a0 : Array Value} {C ad : String} {ty : FieldType} {index : Nat} {z : Int32} {pc : Nat} {Ls : Array Slot} {st : List Value} (cap : Nat) (hd : decode B pc = .ok (.anewarray index, 3)) (hC : (FieldType.array ty).toString = C) (had : "[" ++ C = ad) (w1 : (Cond.classLink own index C).before a0 Z = true) (w2 : (Cond.arrayOver (.array ty)).before a0 Z = true) (hz : ¬ z < 0) (hcap : z.toNatClampNeg ≤ cap) (hb : cap * 8 ≤ 536870912) (hc : k + 1 ≤ R.cells) (hl : n + cap ≤ R.slots)
    (r : ∀ T' h' a kk, a = h.size → St p l e R s m args below meth c Z B own nm ml ret n0 T' h' (k + 1) (n + cap) → Ext h h' → Arv Z h' a kk (.array ty) z [] .null → Exa Z h' a ad → OvrA Z kk ty C → Go p e below s n0 Q kC kS (T'.setTop (mkF m (pc + 3) Ls (.ref a :: st)))) : Go p e below s n0 Q kC kS (T.setTop (mkF m pc Ls (.int z :: st))) := by
  obtain ⟨⟨hx, hby, hZ, hown, q⟩, locs, X, eT, N⟩ := X
  obtain ⟨T', h', cA, X', e', E', A', G', O', st'⟩ := newRA X hx hZ hown hC w1 w2 eT (g := mkF m pc Ls (.int z :: st)) rfl (by rw [hby]; exact hd) rfl hz hcap hb hc hl had
  exact (r T' h' _ cA rfl ⟨⟨hx, hby, hZ, hown, q⟩, locs, X', e', N⟩ E' (Arv.new A' hz) G' O').st st'
theorem newRE_ (X : St p l e R s m args below meth c Z B own nm ml ret n0 T h k n) {a0 : Array Value} {C ad : String} {index : Nat} {z : Int32} {pc : Nat} {Ls : Array Slot} {st : List Value} (cap : Nat) (hd : decode B pc = .ok (.anewarray index, 3)) (had : "[" ++ (FieldType.object C).toString = ad) (w1 : (Cond.classLink own index C).before a0 Z = true) (w2 : (Cond.arrayOver (.object C)).before a0 Z = true) (hz : ¬ z < 0) (hcap : z.toNatClampNeg ≤ cap) (hb : cap * 8 ≤ 536870912) (hc : k + 1 ≤ R.cells) (hl : n + cap ≤ R.slots)
    (r : ∀ T' h' a kk, a = h.size → St p l e R s m args below meth c Z B own nm ml ret n0 T' h' (k + 1) (n + cap) → Ext h h' → Arv Z h' a kk (.object C) z [] .null → Exa Z h' a ad → Ovr Z kk C → Go p e below s n0 Q kC kS (T'.setTop (mkF m (pc + 3) Ls (.ref a :: st)))) : Go p e below s n0 Q kC kS (T.setTop (mkF m pc Ls (.int z :: st))) := by
  obtain ⟨⟨hx, hby, hZ, hown, q⟩, locs, X, eT, N⟩ := X
  obtain ⟨T', h', cA, X', e', E', A', G', O', st'⟩ := newRE X hx hZ hown w1 w2 eT (g := mkF m pc Ls (.int z :: st)) rfl (by rw [hby]; exact hd) rfl hz hcap hb hc hl had
  exact (r T' h' _ cA rfl ⟨⟨hx, hby, hZ, hown, q⟩, locs, X', e', N⟩ E' (Arv.new A' hz) G' O').st st'
theorem aastore_ (X : St p l e R s m args below meth c Z B own nm ml ret n0 T h k n) {kk : ClassId} {ty : FieldType} {z j : Int32} {vs : List Value} {dv v : Value} {a : Addr} {pc : Nat} {Ls : Array Slot} {st : List Value} (i : Nat) (hd : decode B pc = .ok (.aastore, 1)) (A : Arv Z h a kk ty z vs dv) (hty : ty.isReference = true) (hj : ¬ j < 0 ∧ j < z) (hi : j.toNatClampNeg = i) (hl : i < vs.length) (ha : n0 ≤ a) (hf : fits ty v = true) (F : ∀ cl : Cell, Arr Z h a cl ty → cl.cls = kk → Sto Z h a v)
    (r : ∀ T' h', St p l e R s m args below meth c Z B own nm ml ret n0 T' h' k n → Wr h h' a j.toNatClampNeg v → Arv Z h' a kk ty z (vs.set i v) dv → Go p e below s n0 Q kC kS (T'.setTop (mkF m (pc + 1) Ls st))) : Go p e below s n0 Q kC kS (T.setTop (mkF m pc Ls (v :: .int j :: .ref a :: st))) := by
  obtain ⟨⟨hx, hby, hZ, q⟩, locs, X, eT, N⟩ := X
  obtain ⟨cl, A, q1, S, hz, H, G⟩ := A
  obtain ⟨T', h', X', e', W', st'⟩ := stR X hx hZ eT A (inb_of S hj) hty (F cl A q1) (g := mkF m pc Ls (v :: .int j :: .ref a :: st)) rfl rfl (by rw [hby]; exact hd)
  exact (r T' h' ⟨⟨hx, hby, hZ, q⟩, _, X', e', Fr.snoc X' N ha⟩ W' (Arv.set A q1 S hz H G hf W' i hi hl)).st st'
theorem acmp_ (X : St p l e R s m args below meth c Z B own nm ml ret n0 T h k n) {cd : ACond} {pc pc' : Nat} {Ls : Array Slot} {st : List Value} {o : Int} {x y : Value} {same : Bool} (hd : decode B pc = .ok (.if_acmp cd o, 3)) (h1 : x.isRef = true) (h2 : y.isRef = true) (hq : decide (x = y) = same) (ho : 0 ≤ (pc : Int) + o) (hp : pc' = if acV cd same = true then ((pc : Int) + o).toNat else pc + 3)
    (r : Go p e below s n0 Q kC kS (T.setTop (mkF m pc' Ls st))) : Go p e below s n0 Q kC kS (T.setTop (mkF m pc Ls (y :: x :: st))) := by
  obtain ⟨⟨hx, rfl, -⟩, locs, X, -⟩ := X
  exact r.st fun u kk => Jvm.RoadKit.acmp (g := mkF m pc Ls (y :: x :: st)) X hx rfl h1 h2 rfl hd rfl hq ho hp kk

theorem gridM3_ (X : St p l e R s m args below meth c Z B own nm ml ret n0 T h k n) {a0 : Array Value} {C ad : String} {ty : FieldType} {index : Nat} {zk : Int32} {pc : Nat} {Ls : Array Slot} {st : List Value} (cap : Nat) (dv : Value) (hd : decode B pc = .ok (.multianewarray index 2, 4)) (hC : (FieldType.array ty).toString = C) (had : "[" ++ C = ad) (w1 : (Cond.classLink own index ad).before a0 Z = true) (w2 : (Cond.arrayOver (.array ty)).before a0 Z = true) (w3 : (Cond.arrayClass ty).before a0 Z = true) (hdv : defaultValue ty = dv) (hk : ¬ zk < 0) (hcap : zk.toNatClampNeg ≤ cap) (hb : cap * 8 ≤ 536870912) (hdf : fits ty (defaultValue ty) = true) (hdd : (defaultValue ty).isDefault = true) (hc : k + (1 + 3) ≤ R.cells) (hl : n + (3 + 3 * cap) ≤ R.slots)
    (r : ∀ T' h' a x0 x1 x2 kk comp, a = h.size → x0 = a + 1 → x1 = a + 2 → x2 = a + 3 → St p l e R s m args below meth c Z B own nm ml ret n0 T' h' (k + (1 + 3)) (n + (3 + 3 * cap)) → Ext h h' → Arv Z h' a kk (.array ty) 3 [.ref x0, .ref x1, .ref x2] .null → OvrA Z kk ty C → Exa Z h' a ad → Arv Z h' x0 comp ty zk [] dv → Arv Z h' x1 comp ty zk [] dv → Arv Z h' x2 comp ty zk [] dv → Exa Z h' x0 C → Exa Z h' x1 C → Exa Z h' x2 C → Go p e below s n0 Q kC kS (T'.setTop (mkF m (pc + 4) Ls (.ref a :: st)))) : Go p e below s n0 Q kC kS (T.setTop (mkF m pc Ls (.int zk :: .int 3 :: st))) := by
  subst hdv
  obtain ⟨⟨hx, hby, hZ, hown, q⟩, locs, X, eT, N⟩ := X
  obtain ⟨T', h', cA, comp, X', e', E', A', O', G', I', st'⟩ := gridM X hx hZ hown hC had w1 w2 w3 eT (g := mkF m pc Ls (.int zk :: .int 3 :: st)) rfl (by rw [hby]; exact hd) rfl (by decide) hk (xs := [h.size + 1 + 0, h.size + 1 + 1, h.size + 1 + 2]) (N := 3) rfl rfl hcap hb (by decide) hdf hdd hc hl
  exact (r T' h' _ _ _ _ cA comp rfl rfl rfl rfl ⟨⟨hx, hby, hZ, hown, q⟩, locs, X', e', N⟩ E' A' O' G' (Arv.new (I' 0 _ rfl).1 hk) (Arv.new (I' 1 _ rfl).1 hk) (Arv.new (I' 2 _ rfl).1 hk) (I' 0 _ rfl).2 (I' 1 _ rfl).2 (I' 2 _ rfl).2).st st'

theorem callS_ (X : St p l e R s m args below meth c Z B own nm ml ret n0 T h k n) {a0 : Array Value} {idx W pc : Nat} {Ls : Array Slot} {rest : List Value} {argsL : List Value} {y : MethodName} {bytes : ByteArray} {maxL : Nat} {rt : Option FieldType} {rm : Room} {Qc : Option Value → Heap → Prop} (hd : decode B pc = .ok (.invokestatic idx, 3)) (w1 : (Cond.methodLink own idx y).before a0 Z = true) (w2 : (Cond.static y).before a0 Z = true) (w3 : (Cond.initialized y.cls).before a0 Z = true) (w4 : (Cond.code y bytes maxL rt).before a0 Z = true)
    (hy : y.cls ≠ "java/lang/invoke/MethodHandle" ∧ y.cls ≠ "java/lang/invoke/VarHandle") (hM : Con l Z y [] bytes maxL rt rm argsL.toArray h n0 Qc) (hlen : ∀ sig, parseMethodDescriptor y.desc = some sig → argsL.length = sig.parameters.length) (hsz : Ls.size = ml) {stk : List Value} (hs : stk = argsL.reverse ++ rest)
    (hW : 2 * 0 + (rest.map fun v => v.category).sum ≤ W) (hf : rm.frames + 1 ≤ R.frames) (hl : W + (maxL + 11) + rm.locals ≤ R.locals) (hc : k + rm.cells ≤ R.cells) (hn : n + rm.slots ≤ R.slots)
    (r : ∀ T' h' v, St p l e R s m args below meth c Z B own nm ml ret n0 T' h' (k + rm.cells) (n + rm.slots) → Qc v h' → Go p e below s n0 Q kC kS (T'.setTop (mkF m (pc + 3) Ls (v.toList ++ rest)))) : Go p e below s n0 Q kC kS (T.setTop (mkF m pc Ls stk)) := by
  obtain ⟨⟨hx, hby, hZ, hown, hml, q⟩, locs, X, eT, N⟩ := X
  obtain ⟨v, vm1, ⟨T', L', k', n'⟩, -, X', ⟨Lc, ⟨hQ, N'⟩, l1, l2, l3⟩, st'⟩ := Jvm.LawKit.callS X hx (y := y) hown (mvT hZ w1) (mvT hZ w2) (mvT hZ w3) (mvT hZ w4) hy (backOf (Q := fun v h L => Qc v h ∧ Fr n0 L) hM hZ w4 w3 hf hl) (g := mkF m pc Ls stk) rfl (by rw [hml]; exact hsz) (argsL := argsL) (rest := rest) hlen hs hW (by rw [hby]; exact hd) (fun _ _ => ⟨rfl, eT, hc, hn⟩)
  dsimp only [Pt.U, Pt.locs, Pt.cells, Pt.slots] at X' l1 l2 l3 st' hQ
  subst l1 l2 l3
  exact (r T' T'.heap v ⟨⟨hx, hby, hZ, hown, hml, q⟩, _, X', rfl, Fr.app N N'⟩ hQ).st st'
theorem Go.tr {t t' : State} (r : Go p e below s n0 Q kC kS t') (q : Steps p.tables e below t t') : Go p e below s n0 Q kC kS t := r.st fun u kk => q.trans kk
theorem callI_ (X : St p l e R s m args below meth c Z B own nm ml ret n0 T h k n) {a0 : Array Value} {idx W pc : Nat} {Ls : Array Slot} {rest : List Value} {argsL : List Value} {a : Addr} {y : MethodName} {bytes : ByteArray} {maxL : Nat} {rm : Room} {Qc : Option Value → Heap → Prop} (hd : decode B pc = .ok (.invokespecial idx, 3)) (hin : y.name = "<init>") (w1 : (Cond.methodLink own idx y).before a0 Z = true) (w2 : (Cond.instanceMethod y).before a0 Z = true) (w3 : (Cond.initialized y.cls).before a0 Z = true) (w4 : (Cond.code y bytes maxL none).before a0 Z = true)
    (hy : y.cls ≠ "java/lang/invoke/MethodHandle" ∧ y.cls ≠ "java/lang/invoke/VarHandle") (hM : Con l Z y [] bytes maxL none rm (.ref a :: argsL).toArray h n0 Qc) (hlen : ∀ sig, parseMethodDescriptor y.desc = some sig → argsL.length = sig.parameters.length) (hsz : Ls.size = ml) {stk : List Value} (hs : stk = argsL.reverse ++ .ref a :: rest)
    (hW : 2 * 0 + (rest.map fun v => v.category).sum ≤ W) (hf : rm.frames + 1 ≤ R.frames) (hl : W + (maxL + 11) + rm.locals ≤ R.locals) (hc : k + rm.cells ≤ R.cells) (hn : n + rm.slots ≤ R.slots)
    (r : ∀ T' h' v, St p l e R s m args below meth c Z B own nm ml ret n0 T' h' (k + rm.cells) (n + rm.slots) → Qc v h' → Go p e below s n0 Q kC kS (T'.setTop (mkF m (pc + 3) Ls (v.toList ++ rest)))) : Go p e below s n0 Q kC kS (T.setTop (mkF m pc Ls stk)) := by
  obtain ⟨⟨hx, hby, hZ, hown, hml, q⟩, locs, X, eT, N⟩ := X
  obtain ⟨v, vm1, ⟨T', L', k', n'⟩, -, X', ⟨Lc, ⟨hQ, N'⟩, l1, l2, l3⟩, st'⟩ := X.specialBack hx (y := y) hin hown (mvT hZ w1) (mvT hZ w2) (mvT hZ w4) hy (backOf (Q := fun v h L => Qc v h ∧ Fr n0 L) hM hZ w4 w3 hf hl) (g := mkF m pc Ls stk) rfl (by rw [hml]; exact hsz) (Steps.refl _) (a := a) (argsL := argsL) (rest := rest) hlen hs hW (by rw [hby]; exact hd) (fun _ _ => ⟨rfl, eT, hc, hn⟩)
  dsimp only [Pt.U, Pt.locs, Pt.cells, Pt.slots] at X' l1 l2 l3 st' hQ
  subst l1 l2 l3
  exact (r T' T'.heap v ⟨⟨hx, hby, hZ, hown, hml, q⟩, _, X', rfl, Fr.app N N'⟩ hQ).tr st'
theorem callV_ (X : St p l e R s m args below meth c Z B own nm ml ret n0 T h k n) {a0 : Array Value} {idx W pc : Nat} {Ls : Array Slot} {rest : List Value} {argsL : List Value} {a : Addr} {C : String} {y z : MethodName} {bytes : ByteArray} {maxL : Nat} {rt : Option FieldType} {rm : Room} {Qc : Option Value → Heap → Prop} (hd : decode B pc = .ok (.invokevirtual idx, 3)) (w1 : (Cond.methodLink own idx y).before a0 Z = true) (w2 : (Cond.declares y).before a0 Z = true) (w5 : (Cond.selects C y z).before a0 Z = true) (w6 : (Cond.instanceMethod z).before a0 Z = true) (hzy : z = y) (w3 : (Cond.initialized z.cls).before a0 Z = true) (w4 : (Cond.code z bytes maxL rt).before a0 Z = true)
    (hy : y.cls ≠ "java/lang/invoke/MethodHandle" ∧ y.cls ≠ "java/lang/invoke/VarHandle") (E : Exa Z h a C) (hM : Con l Z z [] bytes maxL rt rm (.ref a :: argsL).toArray h n0 Qc) (hlen : ∀ sig, parseMethodDescriptor y.desc = some sig → argsL.length = sig.parameters.length) (hsz : Ls.size = ml) {stk : List Value} (hs : stk = argsL.reverse ++ .ref a :: rest)
    (hW : 2 * 0 + (rest.map fun v => v.category).sum ≤ W) (hf : rm.frames + 1 ≤ R.frames) (hl : W + (maxL + 11) + rm.locals ≤ R.locals) (hc : k + rm.cells ≤ R.cells) (hn : n + rm.slots ≤ R.slots)
    (r : ∀ T' h' v, St p l e R s m args below meth c Z B own nm ml ret n0 T' h' (k + rm.cells) (n + rm.slots) → Qc v h' → Go p e below s n0 Q kC kS (T'.setTop (mkF m (pc + 3) Ls (v.toList ++ rest)))) : Go p e below s n0 Q kC kS (T.setTop (mkF m pc Ls stk)) := by
  obtain ⟨⟨hx, hby, hZ, hown, hml, q⟩, locs, X, eT, N⟩ := X
  subst hzy
  obtain ⟨cq, kq, qa, qb, qc⟩ := isOf hZ eT E
  obtain ⟨v, vm1, ⟨T', L', k', n'⟩, -, X', ⟨Lc, ⟨hQ, N'⟩, l1, l2, l3⟩, st'⟩ := X.virtualBack hx (y := z) (z := z) hown (mvT hZ w1) (mvT hZ w2) (notFace_of_selects (args := #[]) (mvT hZ w5)) (mvT hZ w5) (mvT hZ w6) hy (backOf (Q := fun v h L => Qc v h ∧ Fr n0 L) hM hZ w4 w3 hf hl) qa qc (g := mkF m pc Ls stk) rfl (by rw [hml]; exact hsz) (Steps.refl _) (argsL := argsL) (rest := rest) hlen hs hW (by rw [hby]; exact hd) (fun _ _ => ⟨rfl, eT, hc, hn⟩)
  dsimp only [Pt.U, Pt.locs, Pt.cells, Pt.slots] at X' l1 l2 l3 st' hQ
  subst l1 l2 l3
  exact (r T' T'.heap v ⟨⟨hx, hby, hZ, hown, hml, q⟩, _, X', rfl, Fr.app N N'⟩ hQ).tr st'

theorem absD_ (X : St p l e R s m args below meth c Z B own nm ml ret n0 T h k n) {a0 : Array Value} {idx W pc : Nat} {Ls : Array Slot} {st : List Value} {x : UInt64} (hd : decode B pc = .ok (.invokestatic idx, 3)) (w1 : (Cond.methodLink own idx Jvm.Free.Fl.Abs.absDN).before a0 Z = true) (w2 : (Cond.static Jvm.Free.Fl.Abs.absDN).before a0 Z = true) (w3 : (Cond.initialized "java/lang/Math").before a0 Z = true) (w4 : (Cond.code Jvm.Free.Fl.Abs.absDN Jvm.Free.Fl.Abs.absDCode 2 (some .double)).before a0 Z = true) (nx : NoNaN64 x) (hlen : ∀ sig, parseMethodDescriptor "(D)D" = some sig → [Value.double x].length = sig.parameters.length) (hsz : Ls.size = ml)
    (hW : 2 * 0 + (st.map fun v => v.category).sum ≤ W) (hf : 1 ≤ R.frames) (hl : W + 13 ≤ R.locals) (hk : k ≤ R.cells) (hn : n ≤ R.slots)
    (r : ∀ T', St p l e R s m args below meth c Z B own nm ml ret n0 T' h k n → Go p e below s n0 Q kC kS (T'.setTop (mkF m (pc + 3) Ls (.double (x &&& 0x7fffffffffffffff) :: st)))) : Go p e below s n0 Q kC kS (T.setTop (mkF m pc Ls (.double x :: st))) := by
  obtain ⟨⟨hx, hby, hZ, hown, hml, q⟩, locs, X, eT, N⟩ := X
  obtain ⟨T', X', e', st'⟩ := natS X hx hZ hown w1 w2 w3 w4 (by decide) eT (W := W) (fun hc => Jvm.Free.Fl.Abs.absD_pays x hc hf hl) (g := mkF m pc Ls (.double x :: st)) rfl (by rw [hml]; exact hsz) (argsL := [.double x]) (rest := st) hlen rfl hW (by rw [hby]; exact hd) hk hn ⟨rfl, nx⟩ rfl
  exact (r T' ⟨⟨hx, hby, hZ, hown, hml, q⟩, locs, X', e', N⟩).st st'

theorem callP_ (X : St p l e R s m args below meth c Z B own nm ml ret n0 T h k n) {a0 : Array Value} {idx W pc : Nat} {Ls : Array Slot} {rest : List Value} {argsL : List Value} {a : Addr} {C D : String} {y z' z : MethodName} {bytes : ByteArray} {maxL : Nat} {rt : Option FieldType} {rm : Room} {Qc : Option Value → Heap → Prop} (hd : decode B pc = .ok (.invokevirtual idx, 3)) (w1 : (Cond.methodLink own idx y).before a0 Z = true) (w2 : (Cond.instanceMethod y).before a0 Z = true) (w5 : (Cond.selects D z' z).before a0 Z = true) (hz : z.cls = y.cls) (w6 : (Cond.privateMethod y).before a0 Z = true) (w3 : (Cond.initialized y.cls).before a0 Z = true) (w4 : (Cond.code y bytes maxL rt).before a0 Z = true)
    (hy : y.cls ≠ "java/lang/invoke/MethodHandle" ∧ y.cls ≠ "java/lang/invoke/VarHandle") (E : Exa Z h a C) (hM : Con l Z y [] bytes maxL rt rm (.ref a :: argsL).toArray h n0 Qc) (hlen : ∀ sig, parseMethodDescriptor y.desc = some sig → argsL.length = sig.parameters.length) (hsz : Ls.size = ml) {stk : List Value} (hs : stk = argsL.reverse ++ .ref a :: rest)
    (hW : 2 * 0 + (rest.map fun v => v.category).sum ≤ W) (hf : rm.frames + 1 ≤ R.frames) (hl : W + (maxL + 11) + rm.locals ≤ R.locals) (hc : k + rm.cells ≤ R.cells) (hn : n + rm.slots ≤ R.slots)
    (r : ∀ T' h' v, St p l e R s m args below meth c Z B own nm ml ret n0 T' h' (k + rm.cells) (n + rm.slots) → Qc v h' → Go p e below s n0 Q kC kS (T'.setTop (mkF m (pc + 3) Ls (v.toList ++ rest)))) : Go p e below s n0 Q kC kS (T.setTop (mkF m pc Ls stk)) := by
  obtain ⟨⟨hx, hby, hZ, hown, hml, q⟩, locs, X, eT, N⟩ := X
  obtain ⟨mk, methM, hnamed, hmethM, hstM, habM⟩ := Cond.instanceMethod_spec (args := args) (mvT hZ w2)
  obtain ⟨methM', cM, hmethM', -, -, -, -, -, -, hsigM⟩ := Cond.code_spec hnamed (mvT (args := args) hZ w4)
  cases hmethM.symm.trans hmethM'
  obtain ⟨c2, r2, m2, -, -, q3, -, kP, hkP, hkPi⟩ := Cond.selects_spec (args := args) (mvT hZ w5)
  have hcl : m2.cls = mk.cls := Option.some.inj ((findClass_of_methodNamed q3).symm.trans (by rw [hz]; exact findClass_of_methodNamed hnamed))
  rw [hcl] at hkP
  obtain ⟨cell, hcell, hobj⟩ := E.cell
  have hsel : selectMethod e.platform s.vm cell.cls mk = .method mk := selectMethod_private hmethM (Cond.privateMethod_at (mvP hZ w6 (args := args)) mk methM hnamed hmethM)
  obtain ⟨vm1, X1, step1⟩ := X.invokevirtual hx hown (mvT hZ w1) hnamed hmethM hstM hkP hkPi hy (a := a) (cell := cell) (by rw [eT]; exact hcell) hobj hsel hmethM habM hkP hkPi (g := mkF m pc Ls stk) rfl (argsL := argsL) (rest := rest) (hlen _ hsigM) hs (by rw [hby]; exact hd)
  obtain ⟨v, ⟨T', L', k', n'⟩, X', ⟨Lc, ⟨hQ, N'⟩, l1, l2, l3⟩, st'⟩ := (backOf (Q := fun v h L => Qc v h ∧ Fr n0 L) hM hZ w4 w3 hf hl) m meth c ⟨T.setVm vm1, locs, k, n⟩ { mkF m pc Ls stk with stack := rest } (.invokevirtual idx) mk (.ref a :: argsL).toArray X1 rfl (by rw [hml]; exact hsz) (by rw [hby]; exact hd) hW (X1.named hnamed) ⟨rfl, eT, hc, hn⟩
  dsimp only [Pt.U, Pt.locs, Pt.cells, Pt.slots] at X' l1 l2 l3 st' hQ
  subst l1 l2 l3
  exact (r T' T'.heap v ⟨⟨hx, hby, hZ, hown, hml, q⟩, _, X', rfl, Fr.app N N'⟩ hQ).tr ((step1 _ fun acts => by rw [doInvoke_state]; exact Steps.refl _).trans st')

theorem callSN_ (X : St p l e R s m args below meth c Z B own nm ml ret n0 T h k n) {a0 : Array Value} {host : String} {idx W pc : Nat} {Ls : Array Slot} {rest : List Value} {argsL : List Value} {y : MethodName} {bytes : ByteArray} {maxL : Nat} {rt : Option FieldType} {rm : Room} {Qc : Option Value → Heap → Prop} (hd : decode B pc = .ok (.invokestatic idx, 3)) (w1 : (Cond.methodLinkNest own idx y host).before a0 Z = true) (w2 : (Cond.static y).before a0 Z = true) (w3 : (Cond.initialized y.cls).before a0 Z = true) (w4 : (Cond.code y bytes maxL rt).before a0 Z = true)
    (hy : y.cls ≠ "java/lang/invoke/MethodHandle" ∧ y.cls ≠ "java/lang/invoke/VarHandle") (hM : Con l Z y [] bytes maxL rt rm argsL.toArray h n0 Qc) (hlen : ∀ sig, parseMethodDescriptor y.desc = some sig → argsL.length = sig.parameters.length) (hsz : Ls.size = ml) {stk : List Value} (hs : stk = argsL.reverse ++ rest)
    (hW : 2 * 0 + (rest.map fun v => v.category).sum ≤ W) (hf : rm.frames + 1 ≤ R.frames) (hl : W + (maxL + 11) + rm.locals ≤ R.locals) (hc : k + rm.cells ≤ R.cells) (hn : n + rm.slots ≤ R.slots)
    (r : ∀ T' h' v, St p l e R s m args below meth c Z B own nm ml ret n0 T' h' (k + rm.cells) (n + rm.slots) → Qc v h' → Go p e below s n0 Q kC kS (T'.setTop (mkF m (pc + 3) Ls (v.toList ++ rest)))) : Go p e below s n0 Q kC kS (T.setTop (mkF m pc Ls stk)) := by
  obtain ⟨⟨hx, hby, hZ, hown, hml, q⟩, locs, X, eT, N⟩ := X
  obtain ⟨v, vm1, ⟨T', L', k', n'⟩, -, X', ⟨Lc, ⟨hQ, N'⟩, l1, l2, l3⟩, st'⟩ := Jvm.RoadKit.callSN X hx (y := y) hown ((Cond.methodLinkNest_wide hZ w1 :) ) (mvT hZ w2) (mvT hZ w3) (mvT hZ w4) hy (backOf (Q := fun v h L => Qc v h ∧ Fr n0 L) hM hZ w4 w3 hf hl) (g := mkF m pc Ls stk) rfl (by rw [hml]; exact hsz) (argsL := argsL) (rest := rest) hlen hs hW (by rw [hby]; exact hd) (fun _ _ => ⟨rfl, eT, hc, hn⟩)
  dsimp only [Pt.U, Pt.locs, Pt.cells, Pt.slots] at X' l1 l2 l3 st' hQ
  subst l1 l2 l3
  exact (r T' T'.heap v ⟨⟨hx, hby, hZ, hown, hml, q⟩, _, X', rfl, Fr.app N N'⟩ hQ).tr st'

theorem signD_ (X : St p l e R s m args below meth c Z B own nm ml ret n0 T h k n) {a0 : Array Value} {idx W pc maxL : Nat} {bytes : ByteArray} {Ls : Array Slot} {st : List Value} {x : UInt64} (hd : decode B pc = .ok (.invokestatic idx, 3)) (w1 : (Cond.methodLink own idx Jvm.Free.NT.mathSignum64N).before a0 Z = true) (w2 : (Cond.static Jvm.Free.NT.mathSignum64N).before a0 Z = true) (w3 : (Cond.initialized "java/lang/Math").before a0 Z = true) (w4 : (Cond.code Jvm.Free.NT.mathSignum64N bytes maxL (some .double)).before a0 Z = true) (nx : NoNaN64 x) (hlen : ∀ sig, parseMethodDescriptor "(D)D" = some sig → [Value.double x].length = sig.parameters.length) (hsz : Ls.size = ml)
    (hW : 2 * 0 + (st.map fun v => v.category).sum ≤ W) (hf : 1 ≤ R.frames) (hl : W + (maxL + 11) ≤ R.locals) (hk : k ≤ R.cells) (hn : n ≤ R.slots)
    (r : ∀ T', St p l e R s m args below meth c Z B own nm ml ret n0 T' h k n → Go p e below s n0 Q kC kS (T'.setTop (mkF m (pc + 3) Ls (.double (Jvm.signum64 x) :: st)))) : Go p e below s n0 Q kC kS (T.setTop (mkF m pc Ls (.double x :: st))) := by
  obtain ⟨⟨hx, hby, hZ, hown, hml, q⟩, locs, X, eT, N⟩ := X
  obtain ⟨T', X', e', st'⟩ := natS X hx hZ hown w1 w2 w3 w4 (by decide) eT (W := W) (F := fun a' => a' = #[.double x] ∧ NoNaN64 x) (val := .double (Jvm.signum64 x)) (fun hc => by
    intro m' meth' c' A g ig mk a' X1 hg hsize hdg hW' hnamed ⟨_, _, ha', ha⟩
    obtain ⟨v, B', X2, ⟨hB, hv⟩, st2⟩ := (Jvm.Free.NT.Signum64.pays hc (mvT hZ w2) hf hl) m' meth' c' A g ig mk a' X1 hg hsize hdg hW' hnamed ⟨x, ha', Jvm.Free.Fl.Abs.dIsNaN_false ha⟩
    exact ⟨v, B', X2, ⟨hv x ⟨ha', Jvm.Free.Fl.Abs.dIsNaN_false ha⟩, hB⟩, st2⟩) (g := mkF m pc Ls (.double x :: st)) rfl (by rw [hml]; exact hsz) (argsL := [.double x]) (rest := st) hlen rfl hW (by rw [hby]; exact hd) hk hn ⟨rfl, nx⟩ rfl
  exact (r T' ⟨⟨hx, hby, hZ, hown, hml, q⟩, locs, X', e', N⟩).st st'
theorem nn_sign {x : UInt64} (h : NoNaN64 x) : NoNaN64 (Jvm.signum64 x) := by
  obtain ⟨o, ho⟩ := Jvm.Free.Fl.dcmp_of_noNaN h (b := 0) (by unfold NoNaN64; decide)
  cases o with
  | lt => rw [Jvm.FP.V.signum_neg ho]; unfold NoNaN64; decide
  | gt => rw [Jvm.FP.V.signum_pos ho]; unfold NoNaN64; decide
  | eq => rw [Jvm.FP.V.signum_zero ho]; exact h

theorem cpA_ (X : St p l e R s m args below meth c Z B own nm ml ret n0 T h k n) {a0 : Array Value} {idx W pc : Nat} {Ls : Array Slot} {rest : List Value} {a b : Addr} {ka kb : ClassId} {ty : FieldType} {z z' sp dp nn : Int32} {vs vd us : List Value} {dv dd : Value} (hd : decode B pc = .ok (.invokestatic idx, 3)) (w1 : (Cond.methodLink own idx Jvm.Stand.acN).before a0 Z = true) (w2 : (Cond.native Jvm.Stand.acN).before a0 Z = true) (w3 : (Cond.static Jvm.Stand.acN).before a0 Z = true) (w4 : (Cond.initialized "java/lang/System").before a0 Z = true)
    (A : Arv Z h a ka ty z vs dv) (V : Arv Z h b kb ty z' vd dd) (hty : refKind ty = false) (h1 : ¬ sp < 0) (h2 : ¬ dp < 0) (h3 : ¬ nn < 0) (h4 : sp.toNatClampNeg + nn.toNatClampNeg ≤ z.toNatClampNeg) (h5 : dp.toNatClampNeg + nn.toNatClampNeg ≤ z'.toNatClampNeg) (hus : us = (List.range nn.toNatClampNeg).map fun i => vs.getD (sp.toNatClampNeg + i) dv) (hl : dp.toNatClampNeg + nn.toNatClampNeg ≤ vd.length) (ge : n0 ≤ b) (hsz : Ls.size = ml)
    (hf : 1 ≤ R.frames) (hW : 2 * 0 + (rest.map fun v => v.category).sum ≤ W) (hlo : W + (nativeFrameWords "java/lang/System" "arraycopy" 5 + 11) ≤ R.locals)
    (r : ∀ T' h', St p l e R s m args below meth c Z B own nm ml ret n0 T' h' k n → Keep h h' [b] → Arv Z h' b kb ty z' (vd.take dp.toNatClampNeg ++ us ++ vd.drop (dp.toNatClampNeg + nn.toNatClampNeg)) dd → Go p e below s n0 Q kC kS (T'.setTop (mkF m (pc + 3) Ls rest))) : Go p e below s n0 Q kC kS (T.setTop (mkF m pc Ls (.int nn :: .int dp :: .ref b :: .int sp :: .ref a :: rest))) := by
  obtain ⟨⟨hx, hby, hZ, hown, hml, q⟩, locs, X, eT, N⟩ := X
  obtain ⟨T', h', L', X', e', N', K', V', st'⟩ := cpA X hx hZ hown w1 w2 w3 w4 eT A V (Or.inl ⟨rfl, hty⟩) h1 h2 h3 h4 h5 hus hl N ge (g := mkF m pc Ls (.int nn :: .int dp :: .ref b :: .int sp :: .ref a :: rest)) rfl (by rw [hml]; exact hsz) rfl (by rw [hby]; exact hd) hf hW hlo
  exact (r T' h' ⟨⟨hx, hby, hZ, hown, hml, q⟩, L', X', e', N'⟩ K' V').st st'
theorem clone_ (X : St p l e R s m args below meth c Z B own nm ml ret n0 T h k n) {a0 : Array Value} {ad : String} {idx W pc : Nat} {Ls : Array Slot} {rest : List Value} {a : Addr} {ka : ClassId} {ty : FieldType} {z : Int32} {vs : List Value} {dv : Value} (cap : Nat) (hd : decode B pc = .ok (.invokevirtual idx, 3)) (w1 : (Cond.methodLink own idx ⟨ad, "clone", "()Ljava/lang/Object;"⟩).before a0 Z = true) (w2 : (Cond.sameMethod ad "java/lang/Object" "clone" "()Ljava/lang/Object;").before a0 Z = true) (w3 : (Cond.native ⟨"java/lang/Object", "clone", "()Ljava/lang/Object;"⟩).before a0 Z = true)
    (w4 : (Cond.instanceMethod ⟨"java/lang/Object", "clone", "()Ljava/lang/Object;"⟩).before a0 Z = true) (w5 : (Cond.selects ad ⟨ad, "clone", "()Ljava/lang/Object;"⟩ ⟨"java/lang/Object", "clone", "()Ljava/lang/Object;"⟩).before a0 Z = true) (w6 : (Cond.castable ad "java/lang/Cloneable").before a0 Z = true)
    (F : Arv Z h a ka ty z vs dv) (E : Exa Z h a ad) (hsz : Ls.size = ml) (hf : 1 ≤ R.frames) (hW : 2 * 0 + (rest.map fun v => v.category).sum ≤ W) (hl : W + 14 ≤ R.locals) (hcap : z.toNatClampNeg ≤ cap) (hc : k + 1 ≤ R.cells) (hsl : n + cap ≤ R.slots)
    (r : ∀ T' h' b, b = h.size → St p l e R s m args below meth c Z B own nm ml ret n0 T' h' (k + 1) (n + cap) → Ext h h' → Arv Z h' b ka ty z vs dv → Exa Z h' b ad → Go p e below s n0 Q kC kS (T'.setTop (mkF m (pc + 3) Ls (.ref b :: rest)))) : Go p e below s n0 Q kC kS (T.setTop (mkF m pc Ls (.ref a :: rest))) := by
  obtain ⟨⟨hx, hby, hZ, hown, hml, q⟩, locs, X, eT, N⟩ := X
  obtain ⟨T', h', X', e', E', V', G', st'⟩ := cloneH X hx hZ hown w1 w2 w3 w4 w5 w6 eT F.arh E (g := mkF m pc Ls (.ref a :: rest)) rfl (by rw [hml]; exact hsz) rfl (by rw [hby]; exact hd) hf hW hl hcap hc hsl
  exact (r T' h' _ rfl ⟨⟨hx, hby, hZ, hown, hml, q⟩, locs, X', e', N⟩ E' V' G').st st'
theorem cast_ (X : St p l e R s m args below meth c Z B own nm ml ret n0 T h k n) {a0 : Array Value} {K : String} {idx pc : Nat} {Ls : Array Slot} {rest : List Value} {a : Addr} (hd : decode B pc = .ok (.checkcast idx, 3)) (w : (Cond.classLink own idx K).before a0 Z = true) (F : Ins Z h a K true)
    (r : ∀ T', St p l e R s m args below meth c Z B own nm ml ret n0 T' h k n → Go p e below s n0 Q kC kS (T'.setTop (mkF m (pc + 3) Ls (.ref a :: rest)))) : Go p e below s n0 Q kC kS (T.setTop (mkF m pc Ls (.ref a :: rest))) := by
  obtain ⟨⟨hx, hby, hZ, hown, q⟩, locs, X, eT, N⟩ := X
  obtain ⟨T', X', e', st'⟩ := castY X hx hZ hown w eT F (g := mkF m pc Ls (.ref a :: rest)) rfl rfl (by rw [hby]; exact hd)
  exact (r T' ⟨⟨hx, hby, hZ, hown, q⟩, locs, X', e', N⟩).st st'

theorem enter {y : MethodName} {ws : List Jvm.Cond} {rm : Room} {as : Array Value} {h0 : Heap} {Ls : Array Slot} {own nm : String} (hpl : plainFor y = true) (ho : y.cls = own) (hnm : y.name = nm) (hef : ∀ m, entryFrame m as ml = mkF m 0 Ls [])
    (body : ∀ p e s m below meth c T, St p l e rm s m as below meth c Z B own nm ml ret n0 T h0 0 0 → Go p e below s n0 Q rm.cells rm.slots (T.setTop (mkF m 0 Ls []))) : Con l Z y ws B ml ret rm as h0 n0 Q := by
  refine MetFree.of_bodySF hpl hisR ?_
  intro p e s m args below meth c s₁ Bd hml0 hP hK
  obtain ⟨rfl, hZ, hh⟩ := hP
  have X0 : Stand p l e rm s m _ below meth c s₁ [] 0 0 := Stand.of_body Bd
  have e0 : s₁.heap = h0 := by rw [← hh, Bd.state]; rfl
  rw [hef]
  exact body p e s m below meth c s₁ ⟨⟨Bd.exec, Bd.bytes, hZ, ho ▸ findClass_of_methodNamed Bd.named, hml0, Bd.returns, Bd.notSynchronized, (name_of_methodNamed Bd.named Bd.method).1.trans hnm⟩, [], X0, e0, Fr.nil n0⟩
theorem Con.imp {y : MethodName} {ws : List Jvm.Cond} {rm : Room} {as : Array Value} {h0 : Heap} {Q' : Option Value → Heap → Prop} (C : Con l Z y ws B ml ret rm as h0 n0 Q') (q : ∀ v h, Q' v h → Q v h) : Con l Z y ws B ml ret rm as h0 n0 Q := by
  intro p e ha hc hk s m args below hf happ hP hK
  obtain ⟨n, o, h1, h2, h3, v, L, h4, ⟨h5, h6⟩, h7⟩ := C p e ha hc hk s m args below hf happ hP hK
  exact ⟨n, o, h1, h2, h3, v, L, h4, ⟨q _ _ h5, h6⟩, h7⟩
end Kit
end Jvm.Own

namespace Jvm.Own
open Jvm.FP Jvm.FP.Core Jvm.Free.Fl
/-- one, in units of 2^-1074 -/
def U : Int := (one64 : Int)
theorem U_pos : 0 < U := by unfold U; have := one64_pos; omega
theorem U_pow : U = 2 ^ 1074 := by unfold U one64; exact Int.natCast_pow 2 1074
theorem U_lt {a b : Int} : a * U < b * U ↔ a < b := Int.mul_lt_mul_right U_pos
theorem U_le {a b : Int} : a * U ≤ b * U ↔ a ≤ b := Int.mul_le_mul_right U_pos
theorem U_eq {a b : Int} : a * U = b * U ↔ a = b := Int.mul_eq_mul_right_iff (by have := U_pos; omega)
theorem nn_0 : NoNaN64 0 := by unfold NoNaN64; decide
theorem nn_1 : NoNaN64 4607182418800017408 := by unfold NoNaN64; decide
theorem fin_0 : Fin64 0 := by unfold Fin64; decide
theorem fin_1 : Fin64 4607182418800017408 := by unfold Fin64; decide
theorem dz_0 : dz 0 = 0 := zval64_zero
theorem dz_int {i : Int} {v : UInt64} (h : DInt i v) : Fin64 v ∧ dz v = i * U := by
  refine ⟨fin64_core.mpr ?_, DInt_zval h⟩
  unfold DInt at h
  cases hv : val64 v with
  | nan => rw [hv] at h; exact h.elim
  | inf q => rw [hv] at h; exact h.elim
  | fin s c q => exact ⟨s, c, q, hv⟩
theorem dz_1 : dz 4607182418800017408 = U := by rw [(dz_int dint_one).2, Int.one_mul]
theorem i2d_v {x : Int32} {v : UInt64} (h : FP.i2d x = v) : Fin64 v ∧ dz v = x.toInt * U := h ▸ dz_int (i2d_int x)
theorem l2d_v {x : Int64} {v : UInt64} (h : FP.l2d x = v) (hx : x.toInt.natAbs ≤ 2 ^ 53) : Fin64 v ∧ dz v = x.toInt * U := h ▸ dz_int (l2d_int hx)
theorem fin_val {x : UInt64} (h : Fin64 x) : ∃ s c q, val64 x = .fin s c q := fin64_core.mp h
/-- the greatest magnitude, and one more -/
def Top : Nat := b64.tails * 2 ^ (b64.exps - 2)
theorem Top_pow : Top = 2 ^ 2098 := by unfold Top; rw [tails_b64, show b64.exps - 2 = 2046 from by decide, ← Nat.pow_add]
theorem fin_lt {x : UInt64} (h : Fin64 x) : (dz x).natAbs < Top := by
  have := (fin64_core.mp h).zval_lt
  show (signed _ _).natAbs < _
  rw [natAbs_signed]; exact this
theorem fin_of {x : UInt64} (h : NoNaN64 x) (q : (dz x).natAbs < Top) : Fin64 x := by
  refine fin64_core.mpr ?_
  cases hv : val64 x with
  | nan => exact absurd hv (val64_no.mp h)
  | inf s =>
    have : (dz x).natAbs = Top := by
      show (signed _ (zmag b64 (val64 x))).natAbs = _
      rw [natAbs_signed, hv]; rfl
    omega
  | fin s c q => exact ⟨s, c, q, hv⟩
/-- a number of at most 53 digits, at any place within reach, is a double -/
theorem rep (k : Int) (j : Nat) (hk : k.natAbs < 2 ^ 53) (hj : j ≤ 2040) : ∃ V : UInt64, Fin64 V ∧ dz V = k * 2 ^ j := by
  obtain ⟨c', q', h1, h2⟩ := round_exact good_b64 (decide (k < 0)) (c := k.natAbs) (q := b64.qmin + (j : Int)) hk (by omega) (by
    have : b64.qmax = b64.qmin + 2045 := by decide
    omega)
  have hf : Core.fits b64 (.fin (decide (k < 0)) c' q') := h1 ▸ round_fits good_b64 _
  refine ⟨of64 (.fin (decide (k < 0)) c' q'), fin64_core.mpr ⟨_, _, _, val64_of64 hf⟩, ?_⟩
  show zval b64 (val64 _) = _
  rw [val64_of64 hf]
  show signed _ (inUnits c' q' b64.qmin) = _
  rw [h2]
  unfold inUnits
  rw [show (b64.qmin + (j : Int) - b64.qmin).toNat = j by omega, signed_mul, show ((2 ^ j : Nat) : Int) = 2 ^ j from Int.natCast_pow 2 j]
  congr 1
  unfold signed
  by_cases q : k < 0 <;> simp [q, sgn] <;> omega
theorem repU (k : Int) (j : Nat) (hk : k.natAbs < 2 ^ 53) (hj : j ≤ 1074) : ∃ V : UInt64, Fin64 V ∧ dz V * 2 ^ j = k * U := by
  obtain ⟨V, h1, h2⟩ := rep k (1074 - j) hk (by omega)
  refine ⟨V, h1, ?_⟩
  rw [h2, Int.mul_assoc, ← Int.pow_add, show 1074 - j + j = 1074 by omega, U_pow]
/-! sums -/
theorem dadd_le {a b V : UInt64} (fa : Fin64 a) (fb : Fin64 b) (nV : NoNaN64 V) (h : dz a + dz b ≤ dz V) : dz (FP.dadd a b) ≤ dz V := by
  show zval b64 (val64 (Core.dadd a b)) ≤ _
  rw [val64_dadd]
  exact sum_le good_b64 (fin_val fa) (fin_val fb) (val64_fits a) (val64_fits b) (val64_fits V) (nn_val nV) h
theorem dadd_ge {a b V : UInt64} (fa : Fin64 a) (fb : Fin64 b) (nV : NoNaN64 V) (h : dz V ≤ dz a + dz b) : dz V ≤ dz (FP.dadd a b) := by
  show _ ≤ zval b64 (val64 (Core.dadd a b))
  rw [val64_dadd]
  exact sum_ge good_b64 (fin_val fa) (fin_val fb) (val64_fits a) (val64_fits b) (val64_fits V) (nn_val nV) h
theorem neg_fin {d : Datum} (h : ∃ s c q, d = .fin s c q) : ∃ s c q, negate d = .fin s c q := by
  obtain ⟨s, c, q, rfl⟩ := h; exact ⟨_, _, _, rfl⟩
theorem dsub_le {a b V : UInt64} (fa : Fin64 a) (fb : Fin64 b) (nV : NoNaN64 V) (h : dz a - dz b ≤ dz V) : dz (FP.dsub a b) ≤ dz V := by
  show zval b64 (val64 (Core.dsub a b)) ≤ _
  rw [val64_dsub]
  refine sum_le good_b64 (fin_val fa) (neg_fin (fin_val fb)) (val64_fits a) (negate_fits (val64_fits b)) (val64_fits V) (nn_val nV) ?_
  rw [zval_negate]; exact h
theorem dsub_ge {a b V : UInt64} (fa : Fin64 a) (fb : Fin64 b) (nV : NoNaN64 V) (h : dz V ≤ dz a - dz b) : dz V ≤ dz (FP.dsub a b) := by
  show _ ≤ zval b64 (val64 (Core.dsub a b))
  rw [val64_dsub]
  refine sum_ge good_b64 (fin_val fa) (neg_fin (fin_val fb)) (val64_fits a) (negate_fits (val64_fits b)) (val64_fits V) (nn_val nV) ?_
  rw [zval_negate]; exact h
/-- a sum that is a double is exact -/
theorem dadd_x {a b v V : UInt64} (e : FP.dadd a b = v) (fa : Fin64 a) (fb : Fin64 b) (fV : Fin64 V) (h : dz a + dz b = dz V) : Fin64 v ∧ dz v = dz a + dz b := by
  subst e
  have q : dz (FP.dadd a b) = dz a + dz b := by
    have h1 := dadd_le fa fb fV.noNaN (Int.le_of_eq h)
    have h2 := dadd_ge fa fb fV.noNaN (Int.le_of_eq h.symm)
    omega
  exact ⟨fin_of (dadd_out fa.noNaN fb) (by rw [q, h]; exact fin_lt fV), q⟩
theorem dsub_x {a b v V : UInt64} (e : FP.dsub a b = v) (fa : Fin64 a) (fb : Fin64 b) (fV : Fin64 V) (h : dz a - dz b = dz V) : Fin64 v ∧ dz v = dz a - dz b := by
  subst e
  have q : dz (FP.dsub a b) = dz a - dz b := by
    have h1 := dsub_le fa fb fV.noNaN (Int.le_of_eq h)
    have h2 := dsub_ge fa fb fV.noNaN (Int.le_of_eq h.symm)
    omega
  exact ⟨fin_of (dsub_out fa.noNaN fb) (by rw [q, h]; exact fin_lt fV), q⟩
/-! products -/
theorem zval_fin (f : Fmt) (s : Bool) (c : Nat) (q : Int) : zval f (.fin s c q) = signed s (inUnits c q f.qmin) := rfl
theorem signed_xor' (s t : Bool) (c d : Nat) : signed (s != t) (c * d) = signed s c * signed t d := signed_xor s t c d
theorem pow_two_qmin : ((2 ^ (b64.qmin - 2 * b64.qmin).toNat : Nat) : Int) = U := by
  unfold U; rw [← pow_qmin64]; rfl
theorem dmul_le {a b V : UInt64} (fa : Fin64 a) (fb : Fin64 b) (nV : NoNaN64 V) (h : dz a * dz b ≤ dz V * U) : dz (FP.dmul a b) ≤ dz V := by
  obtain ⟨s, c, q, ha⟩ := fin_val fa
  obtain ⟨t, d, r, hb⟩ := fin_val fb
  have fa' := val64_fits a
  have fb' := val64_fits b
  unfold dz at h ⊢
  show zval b64 (val64 (Core.dmul a b)) ≤ _
  rw [val64_dmul]
  rw [ha] at fa' h ⊢
  rw [hb] at fb' h ⊢
  obtain ⟨h1, h2, h3⟩ := product_units fa' fb'
  rw [h1]
  refine zval_round_le good_b64 (val64_fits V) (nn_val nV) (e0 := 2 * b64.qmin) (by decide) h2 ?_
  rw [h3, pow_two_qmin, signed_xor']
  exact h
theorem dmul_ge {a b V : UInt64} (fa : Fin64 a) (fb : Fin64 b) (nV : NoNaN64 V) (h : dz V * U ≤ dz a * dz b) : dz V ≤ dz (FP.dmul a b) := by
  obtain ⟨s, c, q, ha⟩ := fin_val fa
  obtain ⟨t, d, r, hb⟩ := fin_val fb
  have fa' := val64_fits a
  have fb' := val64_fits b
  unfold dz at h ⊢
  show _ ≤ zval b64 (val64 (Core.dmul a b))
  rw [val64_dmul]
  rw [ha] at fa' h ⊢
  rw [hb] at fb' h ⊢
  obtain ⟨h1, h2, h3⟩ := product_units fa' fb'
  rw [h1]
  refine zval_round_ge good_b64 (val64_fits V) (nn_val nV) (e0 := 2 * b64.qmin) (by decide) h2 ?_
  rw [h3, pow_two_qmin, signed_xor']
  exact h
theorem dmul_x {a b v V : UInt64} (e : FP.dmul a b = v) (fa : Fin64 a) (fb : Fin64 b) (fV : Fin64 V) (h : dz a * dz b = dz V * U) : Fin64 v ∧ dz v = dz V := by
  subst e
  have q : dz (FP.dmul a b) = dz V := by
    have h1 := dmul_le fa fb fV.noNaN (Int.le_of_eq h)
    have h2 := dmul_ge fa fb fV.noNaN (Int.le_of_eq h.symm)
    omega
  exact ⟨fin_of (dmul_out fa fb) (by rw [q]; exact fin_lt fV), q⟩
/-! quotients -/
theorem nz_of {b : UInt64} (h : dz b ≠ 0) : Nz64 b := nz64_core.mpr fun ⟨s, q, e⟩ => h (by
  show zval b64 (val64 b) = 0
  rw [e, zval_fin]; unfold inUnits; rw [Nat.zero_mul]; exact signed_zero s)
theorem quo_mag {s t : Bool} {c d : Nat} {q r : Int} (hx : Core.fits b64 (.fin s c q)) (hy : Core.fits b64 (.fin t d r)) :
    inUnits c (q - r) (2 * b64.qmin - r) = zmag b64 (.fin s c q) * one64 ∧ 2 ^ (b64.qmin - (2 * b64.qmin - r)).toNat * d = zmag b64 (.fin t d r) := by
  have h1 := hx.2.1
  have h2 := hy.2.1
  have hq : b64.qmin = -1074 := qmin_b64
  constructor
  · rw [← pow_qmin64]
    show c * _ = c * _ * _
    rw [Nat.mul_assoc, ← Nat.pow_add]; congr 2; omega
  · show _ = d * _
    rw [Nat.mul_comm]; congr 2; omega
theorem ddiv_val {a b : UInt64} {s t : Bool} {c d : Nat} {q r : Int} (ha : val64 a = .fin s c q) (hb : val64 b = .fin t d r) (hd : d ≠ 0) : val64 (FP.ddiv a b) = roundRatio b64 (s != t) c d (q - r) := by
  show val64 (Core.ddiv a b) = _
  rw [val64_ddiv, ha, hb]; simp only [quotient, if_neg hd]
theorem ddiv_zm {a b : UInt64} (fa : Fin64 a) (fb : Fin64 b) (hb : dz b ≠ 0) :
    sgn (val64 (FP.ddiv a b)) = (sgn (val64 a) != sgn (val64 b)) ∧
    (∀ V : UInt64, NoNaN64 V → zmag b64 (val64 a) * one64 ≤ zmag b64 (val64 V) * zmag b64 (val64 b) → zmag b64 (val64 (FP.ddiv a b)) ≤ zmag b64 (val64 V)) ∧
    (∀ V : UInt64, zmag b64 (val64 V) * zmag b64 (val64 b) ≤ zmag b64 (val64 a) * one64 → zmag b64 (val64 V) ≤ zmag b64 (val64 (FP.ddiv a b))) := by
  obtain ⟨s, c, q, ha⟩ := fin_val fa
  obtain ⟨t, d, r, hb'⟩ := fin_val fb
  have fa' := val64_fits a
  have fb' := val64_fits b
  rw [ha] at fa'
  rw [hb'] at fb'
  have hd : d ≠ 0 := by
    rintro rfl
    apply hb
    show zval b64 (val64 b) = 0
    rw [hb', zval_fin]; unfold inUnits; rw [Nat.zero_mul]; exact signed_zero t
  have hv := ddiv_val ha hb' hd
  obtain ⟨e1, e2⟩ := quo_mag fa' fb'
  have hq1 := fa'.2.1
  have hq2 := fb'.2.1
  have hqm : b64.qmin = -1074 := qmin_b64
  refine ⟨?_, fun V nV h => ?_, fun V h => ?_⟩
  · rw [hv, sgn_roundRatio, ha, hb']; rfl
  · rw [hv]
    refine zmag_roundRatio_le good_b64 (by omega) (val64_fits V) (nn_val nV) (e0 := 2 * b64.qmin - r) (by omega) (by omega) ?_
    rw [e1, Nat.mul_assoc, e2]
    rw [ha, hb'] at h
    exact h
  · rw [hv]
    refine zmag_roundRatio_ge good_b64 (by omega) (val64_fits V) (e0 := 2 * b64.qmin - r) (by omega) (by omega) ?_
    rw [e1, Nat.mul_assoc, e2]
    rw [ha, hb'] at h
    exact h
theorem dz_def (x : UInt64) : dz x = signed (sgn (val64 x)) (zmag b64 (val64 x)) := rfl
theorem ddiv_le {a b V : UInt64} (fa : Fin64 a) (fb : Fin64 b) (hb : 0 < dz b) (nV : NoNaN64 V) (h : dz a * U ≤ dz V * dz b) : dz (FP.ddiv a b) ≤ dz V := by
  obtain ⟨h1, h2, h3⟩ := ddiv_zm fa fb (by omega)
  have h2 := h2 V nV
  have h3 := h3 V
  have hU : U = (one64 : Int) := rfl
  rw [dz_def (FP.ddiv a b), h1]
  rw [hU] at h
  rw [dz_def V] at h ⊢
  rw [dz_def a] at h
  rw [dz_def b] at h hb
  have p1 := one64_pos
  generalize zmag b64 (val64 (FP.ddiv a b)) = R at *
  generalize zmag b64 (val64 V) = v at *
  generalize zmag b64 (val64 a) = x at *
  generalize zmag b64 (val64 b) = y at *
  generalize sgn (val64 a) = sa at *
  generalize sgn (val64 b) = sb at *
  generalize sgn (val64 V) = sv at *
  cases sb with
  | true => simp only [signed, if_true] at hb; omega
  | false =>
    simp only [signed, Bool.false_eq_true, if_false] at hb h ⊢
    have key : signed sv v * (y : Int) = signed sv (v * y) := (signed_mul sv v y).symm
    have key2 : signed sa x * (one64 : Int) = signed sa (x * one64) := (signed_mul sa x one64).symm
    have yp : 0 < y := by omega
    change signed sa x * (one64 : Int) ≤ signed sv v * (y : Int) at h
    change signed (sa != false) R ≤ signed sv v
    rw [key, key2] at h
    have z1 : x * one64 = 0 → x = 0 := fun e => (Nat.mul_eq_zero.mp e).resolve_right (by omega)
    have z2 : v * y = 0 → v = 0 := fun e => (Nat.mul_eq_zero.mp e).resolve_right (by omega)
    have z3 : v = 0 → v * y = 0 := fun e => by rw [e, Nat.zero_mul]
    have z4 : x = 0 → x * one64 = 0 := fun e => by rw [e, Nat.zero_mul]
    generalize v * y = vy at *
    generalize x * one64 = xo at *
    cases sa <;> cases sv <;> simp only [signed, Bool.bne_false, Bool.false_eq_true, if_true, if_false] at h ⊢
    · have := h2 (by omega); omega
    · have := h2 (by omega); omega
    · omega
    · have := h3 (by omega); omega
theorem ddiv_ge {a b V : UInt64} (fa : Fin64 a) (fb : Fin64 b) (hb : 0 < dz b) (nV : NoNaN64 V) (h : dz V * dz b ≤ dz a * U) : dz V ≤ dz (FP.ddiv a b) := by
  obtain ⟨h1, h2, h3⟩ := ddiv_zm fa fb (by omega)
  have h2 := h2 V nV
  have h3 := h3 V
  have hU : U = (one64 : Int) := rfl
  rw [dz_def (FP.ddiv a b), h1]
  rw [hU] at h
  rw [dz_def V] at h ⊢
  rw [dz_def a] at h
  rw [dz_def b] at h hb
  have p1 := one64_pos
  generalize zmag b64 (val64 (FP.ddiv a b)) = R at *
  generalize zmag b64 (val64 V) = v at *
  generalize zmag b64 (val64 a) = x at *
  generalize zmag b64 (val64 b) = y at *
  generalize sgn (val64 a) = sa at *
  generalize sgn (val64 b) = sb at *
  generalize sgn (val64 V) = sv at *
  cases sb with
  | true => simp only [signed, if_true] at hb; omega
  | false =>
    simp only [signed, Bool.false_eq_true, if_false] at hb h ⊢
    have key : signed sv v * (y : Int) = signed sv (v * y) := (signed_mul sv v y).symm
    have key2 : signed sa x * (one64 : Int) = signed sa (x * one64) := (signed_mul sa x one64).symm
    have yp : 0 < y := by omega
    change signed sv v * (y : Int) ≤ signed sa x * (one64 : Int) at h
    change signed sv v ≤ signed (sa != false) R
    rw [key, key2] at h
    have z1 : x * one64 = 0 → x = 0 := fun e => (Nat.mul_eq_zero.mp e).resolve_right (by omega)
    have z2 : v * y = 0 → v = 0 := fun e => (Nat.mul_eq_zero.mp e).resolve_right (by omega)
    have z3 : v = 0 → v * y = 0 := fun e => by rw [e, Nat.zero_mul]
    have z4 : x = 0 → x * one64 = 0 := fun e => by rw [e, Nat.zero_mul]
    generalize v * y = vy at *
    generalize x * one64 = xo at *
    cases sa <;> cases sv <;> simp only [signed, Bool.bne_false, Bool.false_eq_true, if_true, if_false] at h ⊢
    · have := h3 (by omega); omega
    · omega
    · have := h2 (by omega); omega
    · have := h2 (by omega); omega
theorem ddiv_nn {a b : UInt64} (fa : Fin64 a) (fb : Fin64 b) (hb : dz b ≠ 0) : NoNaN64 (FP.ddiv a b) := ddiv_out fa.noNaN fb (nz_of hb)
theorem ddiv_x {a b v V : UInt64} (e : FP.ddiv a b = v) (fa : Fin64 a) (fb : Fin64 b) (hb : 0 < dz b) (fV : Fin64 V) (h : dz a * U = dz V * dz b) : Fin64 v ∧ dz v = dz V := by
  subst e
  have q : dz (FP.ddiv a b) = dz V := by
    have h1 := ddiv_le fa fb hb fV.noNaN (Int.le_of_eq h)
    have h2 := ddiv_ge fa fb hb fV.noNaN (Int.le_of_eq h.symm)
    omega
  exact ⟨fin_of (ddiv_nn fa fb (by omega)) (by rw [q]; exact fin_lt fV), q⟩
/-! the sign turned -/
theorem xor_top (a : UInt64) : a.toNat = (FP.dneg a).toNat + 2 ^ 63 ∨ (FP.dneg a).toNat = a.toNat + 2 ^ 63 := by
  have hlt := a.toNat_lt
  have e : (FP.dneg a).toNat = a.toNat ^^^ 2 ^ 63 := by rw [dneg_xor, UInt64.toNat_xor]; rfl
  have hd : (FP.dneg a).toNat % 2 ^ 63 = a.toNat % 2 ^ 63 := by
    rw [e]
    apply Nat.eq_of_testBit_eq; intro i
    simp only [Nat.testBit_mod_two_pow, Nat.testBit_xor, Nat.testBit_two_pow]
    by_cases q : i < 63
    · have : ¬ (63 = i) := by omega
      simp [q, this]
    · simp [q]
  have hb : (FP.dneg a).toNat.testBit 63 = !(a.toNat.testBit 63) := by
    rw [e, Nat.testBit_xor, Nat.testBit_two_pow_self]; simp
  have hl2 : (FP.dneg a).toNat < 2 ^ 64 := (FP.dneg a).toNat_lt
  generalize (FP.dneg a).toNat = y at *
  generalize a.toNat = x at *
  simp only [Nat.testBit, Nat.shiftRight_eq_div_pow, Nat.and_comm 1, Nat.and_one_is_mod, bne_iff_ne] at hb
  by_cases q : x < 2 ^ 63
  · right
    have h1 : x / 2 ^ 63 = 0 := Nat.div_eq_of_lt q
    have h2 : y / 2 ^ 63 ≠ 0 := by
      intro z; rw [h1, z] at hb; simp at hb
    have h3 : ¬ y < 2 ^ 63 := fun z => h2 (Nat.div_eq_of_lt z)
    omega
  · left
    have h1 : x / 2 ^ 63 = 1 := by omega
    have h3 : y < 2 ^ 63 := by
      refine Nat.lt_of_not_le fun z => ?_
      have : y / 2 ^ 63 = 1 := by omega
      rw [h1, this] at hb; simp at hb
    omega
theorem dneg_val (a : UInt64) : val64 (FP.dneg a) = negate (val64 a) := val64_neg_bits (xor_top a)
theorem dz_neg (a : UInt64) : dz (FP.dneg a) = -dz a := by unfold dz; rw [dneg_val, zval_negate]
theorem nn_neg {a : UInt64} (h : NoNaN64 a) : NoNaN64 (FP.dneg a) := val64_no.mpr (by rw [dneg_val]; exact negate_ne_nan (val64_no.mp h))
theorem fin_neg {a : UInt64} (h : Fin64 a) : Fin64 (FP.dneg a) := fin_of (nn_neg h.noNaN) (by rw [dz_neg, Int.natAbs_neg]; exact fin_lt h)
end Jvm.Own
namespace Jvm.Own
open Jvm.FP Jvm.FP.Core Jvm.Free.Fl
theorem p2_pos (j : Nat) : (0 : Int) < 2 ^ j := Int.pow_pos (by decide)
/-! against k / 2^j: what is at most (at least) that rounds to at most (at least) that -/
theorem quo_le {a b v : UInt64} {p q : Int} (e : FP.ddiv a b = v) (fa : Fin64 a) (fb : Fin64 b) (ha : dz a = p * U) (hb : dz b = q * U) (hq : 0 < q) (k : Int) (j : Nat) (hk : k.natAbs < 2 ^ 53) (hj : j ≤ 1074) (h : p * 2 ^ j ≤ k * q) : dz v * 2 ^ j ≤ k * U := by
  obtain ⟨V, fV, hV⟩ := repU k j hk hj
  have hU := U_pos
  have hp := p2_pos j
  have hbp : 0 < dz b := by rw [hb]; exact Int.mul_pos hq hU
  have key : dz a * U ≤ dz V * dz b := by
    refine Int.le_of_mul_le_mul_right ?_ hp
    rw [ha, hb, show p * U * U * 2 ^ j = p * 2 ^ j * (U * U) by generalize U = u; ac_rfl, show dz V * (q * U) * 2 ^ j = dz V * 2 ^ j * (q * U) by generalize U = u; ac_rfl, hV, show k * U * (q * U) = k * q * (U * U) by generalize U = u; ac_rfl]
    exact Int.mul_le_mul_of_nonneg_right h (Int.le_of_lt (Int.mul_pos hU hU))
  rw [← hV, ← e]
  exact Int.mul_le_mul_of_nonneg_right (ddiv_le fa fb hbp fV.noNaN key) (Int.le_of_lt hp)
theorem quo_ge {a b v : UInt64} {p q : Int} (e : FP.ddiv a b = v) (fa : Fin64 a) (fb : Fin64 b) (ha : dz a = p * U) (hb : dz b = q * U) (hq : 0 < q) (k : Int) (j : Nat) (hk : k.natAbs < 2 ^ 53) (hj : j ≤ 1074) (h : k * q ≤ p * 2 ^ j) : k * U ≤ dz v * 2 ^ j := by
  obtain ⟨V, fV, hV⟩ := repU k j hk hj
  have hU := U_pos
  have hp := p2_pos j
  have hbp : 0 < dz b := by rw [hb]; exact Int.mul_pos hq hU
  have key : dz V * dz b ≤ dz a * U := by
    refine Int.le_of_mul_le_mul_right ?_ hp
    rw [ha, hb, show p * U * U * 2 ^ j = p * 2 ^ j * (U * U) by generalize U = u; ac_rfl, show dz V * (q * U) * 2 ^ j = dz V * 2 ^ j * (q * U) by generalize U = u; ac_rfl, hV, show k * U * (q * U) = k * q * (U * U) by generalize U = u; ac_rfl]
    exact Int.mul_le_mul_of_nonneg_right h (Int.le_of_lt (Int.mul_pos hU hU))
  rw [← hV, ← e]
  exact Int.mul_le_mul_of_nonneg_right (ddiv_ge fa fb hbp fV.noNaN key) (Int.le_of_lt hp)
theorem Top_U : (2 : Int) ^ 1000 * U < (Top : Int) := by
  rw [U_pow, ← Int.pow_add, Top_pow, show ((2 ^ 2098 : Nat) : Int) = 2 ^ 2098 from Int.natCast_pow 2 2098]
  exact Int.pow_lt_pow_of_lt (by decide) (by decide)
theorem fin_bd {v : UInt64} (n : NoNaN64 v) (h1 : -(2 ^ 1000 * U) ≤ dz v) (h2 : dz v ≤ 2 ^ 1000 * U) : Fin64 v := fin_of n (by have := Top_U; omega)
theorem add_le {a b v : UInt64} (e : FP.dadd a b = v) (fa : Fin64 a) (fb : Fin64 b) (k : Int) (j : Nat) (hk : k.natAbs < 2 ^ 53) (hj : j ≤ 1074) (h : (dz a + dz b) * 2 ^ j ≤ k * U) : dz v * 2 ^ j ≤ k * U := by
  obtain ⟨V, fV, hV⟩ := repU k j hk hj
  have hp := p2_pos j
  rw [← hV] at h ⊢
  rw [← e]
  exact Int.mul_le_mul_of_nonneg_right (dadd_le fa fb fV.noNaN (Int.le_of_mul_le_mul_right h hp)) (Int.le_of_lt hp)
theorem add_ge {a b v : UInt64} (e : FP.dadd a b = v) (fa : Fin64 a) (fb : Fin64 b) (k : Int) (j : Nat) (hk : k.natAbs < 2 ^ 53) (hj : j ≤ 1074) (h : k * U ≤ (dz a + dz b) * 2 ^ j) : k * U ≤ dz v * 2 ^ j := by
  obtain ⟨V, fV, hV⟩ := repU k j hk hj
  have hp := p2_pos j
  rw [← hV] at h ⊢
  rw [← e]
  exact Int.mul_le_mul_of_nonneg_right (dadd_ge fa fb fV.noNaN (Int.le_of_mul_le_mul_right h hp)) (Int.le_of_lt hp)
theorem sub_le {a b v : UInt64} (e : FP.dsub a b = v) (fa : Fin64 a) (fb : Fin64 b) (k : Int) (j : Nat) (hk : k.natAbs < 2 ^ 53) (hj : j ≤ 1074) (h : (dz a - dz b) * 2 ^ j ≤ k * U) : dz v * 2 ^ j ≤ k * U := by
  obtain ⟨V, fV, hV⟩ := repU k j hk hj
  have hp := p2_pos j
  rw [← hV] at h ⊢
  rw [← e]
  exact Int.mul_le_mul_of_nonneg_right (dsub_le fa fb fV.noNaN (Int.le_of_mul_le_mul_right h hp)) (Int.le_of_lt hp)
theorem sub_ge {a b v : UInt64} (e : FP.dsub a b = v) (fa : Fin64 a) (fb : Fin64 b) (k : Int) (j : Nat) (hk : k.natAbs < 2 ^ 53) (hj : j ≤ 1074) (h : k * U ≤ (dz a - dz b) * 2 ^ j) : k * U ≤ dz v * 2 ^ j := by
  obtain ⟨V, fV, hV⟩ := repU k j hk hj
  have hp := p2_pos j
  rw [← hV] at h ⊢
  rw [← e]
  exact Int.mul_le_mul_of_nonneg_right (dsub_ge fa fb fV.noNaN (Int.le_of_mul_le_mul_right h hp)) (Int.le_of_lt hp)
/-- a sum, a difference of dyadics that is one of at most 53 digits is exact -/
theorem add_x {a b v : UInt64} (e : FP.dadd a b = v) (fa : Fin64 a) (fb : Fin64 b) (k : Int) (j : Nat) (hk : k.natAbs < 2 ^ 53) (hj : j ≤ 1074) (h : (dz a + dz b) * 2 ^ j = k * U) : Fin64 v ∧ dz v = dz a + dz b := by
  obtain ⟨V, fV, hV⟩ := repU k j hk hj
  exact dadd_x e fa fb fV (Int.eq_of_mul_eq_mul_right (by have := p2_pos j; omega) (h.trans hV.symm))
theorem sub_x {a b v : UInt64} (e : FP.dsub a b = v) (fa : Fin64 a) (fb : Fin64 b) (k : Int) (j : Nat) (hk : k.natAbs < 2 ^ 53) (hj : j ≤ 1074) (h : (dz a - dz b) * 2 ^ j = k * U) : Fin64 v ∧ dz v = dz a - dz b := by
  obtain ⟨V, fV, hV⟩ := repU k j hk hj
  exact dsub_x e fa fb fV (Int.eq_of_mul_eq_mul_right (by have := p2_pos j; omega) (h.trans hV.symm))
theorem quo_x {a b v : UInt64} {p q : Int} (e : FP.ddiv a b = v) (fa : Fin64 a) (fb : Fin64 b) (ha : dz a = p * U) (hb : dz b = q * U) (hq : 0 < q) (k : Int) (j : Nat) (hk : k.natAbs < 2 ^ 53) (hj : j ≤ 1074) (h : p * 2 ^ j = k * q) : Fin64 v ∧ dz v * 2 ^ j = k * U := by
  obtain ⟨V, fV, hV⟩ := repU k j hk hj
  have h1 := quo_le e fa fb ha hb hq k j hk hj (Int.le_of_eq h)
  have h2 := quo_ge e fa fb ha hb hq k j hk hj (Int.le_of_eq h.symm)
  have h3 : dz v * 2 ^ j = k * U := by omega
  have h4 : dz v = dz V := Int.eq_of_mul_eq_mul_right (by have := p2_pos j; omega) (h3.trans hV.symm)
  refine ⟨fin_of ?_ (by rw [h4]; exact fin_lt fV), h3⟩
  rw [← e]
  exact ddiv_nn fa fb (by rw [hb]; have := Int.mul_pos hq U_pos; omega)
theorem quo_nn {a b v : UInt64} {q : Int} (e : FP.ddiv a b = v) (fa : Fin64 a) (fb : Fin64 b) (hb : dz b = q * U) (hq : 0 < q) : NoNaN64 v := by
  rw [← e]; exact ddiv_nn fa fb (by rw [hb]; have := Int.mul_pos hq U_pos; omega)
end Jvm.Own
namespace Jvm.Own
open Jvm.FP Jvm.FP.Core Jvm.Free.Fl
theorem fin_2 : Fin64 4611686018427387904 := by unfold Fin64; decide
theorem nz_2 : Nz64 4611686018427387904 := by unfold Nz64; decide
theorem dz_2 : dz 4611686018427387904 = 2 * U := by
  have e : FP.dadd 4607182418800017408 4607182418800017408 = 4611686018427387904 := by decide +kernel
  have h := (add_x e fin_1 fin_1 2 0 (by decide) (by decide) (by rw [dz_1, Int.pow_zero]; omega)).2
  rw [h, dz_1]; omega
end Jvm.Own
namespace Jvm.Own
theorem ite_I {P : Prop} [Decidable P] {a b v : Int32} (e : (if P then a else b) = v) : (P → v.toInt = a.toInt) ∧ (¬ P → v.toInt = b.toInt) := by
  subst e; exact ⟨fun q => by rw [if_pos q], fun q => by rw [if_neg q]⟩
end Jvm.Own
namespace Jvm.Own
open Jvm.FP Jvm.FP.Core Jvm.Free.Fl
theorem add0 {a v : UInt64} (e : FP.dadd a 0 = v) (fa : Fin64 a) : Fin64 v ∧ dz v = dz a := by
  obtain ⟨h1, h2⟩ := dadd_x e fa fin_0 fa (by rw [dz_0]; omega)
  exact ⟨h1, by rw [h2, dz_0]; omega⟩
end Jvm.Own
namespace Jvm.Own
open Jvm.FP Jvm.FP.Core Jvm.Free.Fl
/-! a divisor below nought -/
theorem ddiv_leN {a b V : UInt64} (fa : Fin64 a) (fb : Fin64 b) (hb : dz b < 0) (nV : NoNaN64 V) (h : dz V * dz b ≤ dz a * U) : dz (FP.ddiv a b) ≤ dz V := by
  obtain ⟨h1, h2, h3⟩ := ddiv_zm fa fb (by omega)
  have h2 := h2 V nV
  have h3 := h3 V
  have hU : U = (one64 : Int) := rfl
  rw [dz_def (FP.ddiv a b), h1]
  rw [hU] at h
  rw [dz_def V] at h ⊢
  rw [dz_def a] at h
  rw [dz_def b] at h hb
  have p1 := one64_pos
  generalize zmag b64 (val64 (FP.ddiv a b)) = R at *
  generalize zmag b64 (val64 V) = v at *
  generalize zmag b64 (val64 a) = x at *
  generalize zmag b64 (val64 b) = y at *
  generalize sgn (val64 a) = sa at *
  generalize sgn (val64 b) = sb at *
  generalize sgn (val64 V) = sv at *
  cases sb with
  | false => simp only [signed, Bool.false_eq_true, if_false] at hb; omega
  | true =>
    simp only [signed, if_true] at hb
    change signed sv v * (-(y : Int)) ≤ signed sa x * (one64 : Int) at h
    change signed (sa != true) R ≤ signed sv v
    have key : signed sv v * (y : Int) = signed sv (v * y) := (signed_mul sv v y).symm
    have key2 : signed sa x * (one64 : Int) = signed sa (x * one64) := (signed_mul sa x one64).symm
    have yp : 0 < y := by omega
    rw [Int.mul_neg, key, key2] at h
    have z2 : v * y = 0 → v = 0 := fun e => (Nat.mul_eq_zero.mp e).resolve_right (by omega)
    have z3 : v = 0 → v * y = 0 := fun e => by rw [e, Nat.zero_mul]
    have z4 : x = 0 → x * one64 = 0 := fun e => by rw [e, Nat.zero_mul]
    generalize v * y = vy at *
    generalize x * one64 = xo at *
    cases sa <;> cases sv <;> simp only [signed, Bool.bne_true, Bool.not_false, Bool.not_true, Bool.false_eq_true, if_true, if_false] at h ⊢
    · omega
    · have := h3 (by omega); omega
    · have := h2 (by omega); omega
    · have := h2 (by omega); omega
theorem ddiv_geN {a b V : UInt64} (fa : Fin64 a) (fb : Fin64 b) (hb : dz b < 0) (nV : NoNaN64 V) (h : dz a * U ≤ dz V * dz b) : dz V ≤ dz (FP.ddiv a b) := by
  obtain ⟨h1, h2, h3⟩ := ddiv_zm fa fb (by omega)
  have h2 := h2 V nV
  have h3 := h3 V
  have hU : U = (one64 : Int) := rfl
  rw [dz_def (FP.ddiv a b), h1]
  rw [hU] at h
  rw [dz_def V] at h ⊢
  rw [dz_def a] at h
  rw [dz_def b] at h hb
  have p1 := one64_pos
  generalize zmag b64 (val64 (FP.ddiv a b)) = R at *
  generalize zmag b64 (val64 V) = v at *
  generalize zmag b64 (val64 a) = x at *
  generalize zmag b64 (val64 b) = y at *
  generalize sgn (val64 a) = sa at *
  generalize sgn (val64 b) = sb at *
  generalize sgn (val64 V) = sv at *
  cases sb with
  | false => simp only [signed, Bool.false_eq_true, if_false] at hb; omega
  | true =>
    simp only [signed, if_true] at hb
    change signed sa x * (one64 : Int) ≤ signed sv v * (-(y : Int)) at h
    change signed sv v ≤ signed (sa != true) R
    have key : signed sv v * (y : Int) = signed sv (v * y) := (signed_mul sv v y).symm
    have key2 : signed sa x * (one64 : Int) = signed sa (x * one64) := (signed_mul sa x one64).symm
    have yp : 0 < y := by omega
    rw [Int.mul_neg, key, key2] at h
    have z2 : v * y = 0 → v = 0 := fun e => (Nat.mul_eq_zero.mp e).resolve_right (by omega)
    have z3 : v = 0 → v * y = 0 := fun e => by rw [e, Nat.zero_mul]
    have z4 : x = 0 → x * one64 = 0 := fun e => by rw [e, Nat.zero_mul]
    generalize v * y = vy at *
    generalize x * one64 = xo at *
    cases sa <;> cases sv <;> simp only [signed, Bool.bne_true, Bool.not_false, Bool.not_true, Bool.false_eq_true, if_true, if_false] at h ⊢
    · have := h2 (by omega); omega
    · have := h2 (by omega); omega
    · have := h3 (by omega); omega
    · omega
/-- a whole number's multiple, divided by it -/
theorem ddiv_mul {a b v : UInt64} {m q : Int} (e : FP.ddiv a b = v) (fa : Fin64 a) (fb : Fin64 b) (ha : dz a = m * q * U) (hb : dz b = q * U) (hq : q ≠ 0) (hm : m.natAbs < 2 ^ 53) : NoNaN64 v ∧ dz v = m * U := by
  obtain ⟨V, fV, hV⟩ := repU m 0 hm (by decide)
  rw [Int.pow_zero, Int.mul_one] at hV
  have hU := U_pos
  have k1 : dz a * U = dz V * dz b := by rw [ha, hb, hV]; generalize U = u; ac_rfl
  have hbz : dz b ≠ 0 := by rw [hb]; intro z; rcases Int.mul_eq_zero.mp z with z | z <;> omega
  subst e
  refine ⟨ddiv_nn fa fb hbz, ?_⟩
  rw [← hV]
  rcases Int.lt_or_gt_of_ne hbz with z | z
  · exact Int.le_antisymm (ddiv_leN fa fb z fV.noNaN (Int.le_of_eq k1.symm)) (ddiv_geN fa fb z fV.noNaN (Int.le_of_eq k1))
  · exact Int.le_antisymm (ddiv_le fa fb z fV.noNaN (Int.le_of_eq k1)) (ddiv_ge fa fb z fV.noNaN (Int.le_of_eq k1.symm))
end Jvm.Own
namespace Jvm.Own
open Jvm.FP Jvm.FP.Core Jvm.Free.Fl
theorem abs_max {u : UInt64} (h : Fin64 u) : dz (u &&& 0x7fffffffffffffff) ≤ dz 9218868437227405311 :=
  (dcmp_le.mp ((le_max (noNaN64_no.mp h.noNaN)).mpr (fin64_core.mp h))).2.2
end Jvm.Own
namespace Jvm.Own
open Jvm.FP Jvm.FP.Core Jvm.Free.Fl
/-- finite, and of a magnitude of at most A -/
def Bd (x : UInt64) (A : Int) : Prop := Fin64 x ∧ -(A * U) ≤ dz x ∧ dz x ≤ A * U
theorem Bd.fin {x : UInt64} {A : Int} (h : Bd x A) : Fin64 x := h.1
theorem big_U {A : Int} (h : A.natAbs < 2 ^ 53) : A * U ≤ 2 ^ 1000 * U ∧ -(2 ^ 1000 * U) ≤ A * U := by
  have z : (2 : Int) ^ 53 ≤ 2 ^ 1000 := by
    have h1 := Nat.pow_le_pow_right (n := 2) (by decide) (show 53 ≤ 1000 by decide)
    have e1 : ((2 ^ 53 : Nat) : Int) = 2 ^ 53 := Int.natCast_pow 2 53
    have e2 : ((2 ^ 1000 : Nat) : Int) = 2 ^ 1000 := Int.natCast_pow 2 1000
    rw [← e1, ← e2]; exact Int.ofNat_le.mpr h1
  have e : (2 : Int) ^ 53 = 9007199254740992 := by decide
  have hU := U_pos
  have a1 : A * U ≤ 2 ^ 1000 * U := Int.mul_le_mul_of_nonneg_right (by omega) (Int.le_of_lt hU)
  have a2 : (-(2 ^ 1000)) * U ≤ A * U := Int.mul_le_mul_of_nonneg_right (by omega) (Int.le_of_lt hU)
  rw [Int.neg_mul] at a2
  exact ⟨a1, a2⟩
theorem Bd.int {x : UInt64} {i A : Int} (f : Fin64 x) (z : dz x = i * U) (h1 : -A ≤ i) (h2 : i ≤ A) : Bd x A := by
  have hU := U_pos
  have a1 : i * U ≤ A * U := Int.mul_le_mul_of_nonneg_right h2 (Int.le_of_lt hU)
  have a2 : (-A) * U ≤ i * U := Int.mul_le_mul_of_nonneg_right h1 (Int.le_of_lt hU)
  rw [Int.neg_mul] at a2
  exact ⟨f, by omega, by omega⟩
theorem Bd.add {a b v : UInt64} {A B : Int} (e : FP.dadd a b = v) (ha : Bd a A) (hb : Bd b B) (h : (A + B).natAbs < 2 ^ 53) : Bd v (A + B) := by
  obtain ⟨fa, a1, a2⟩ := ha
  obtain ⟨fb, b1, b2⟩ := hb
  have h1 := add_le e fa fb (A + B) 0 h (by decide) (by rw [Int.pow_zero, Int.mul_one, Int.add_mul]; omega)
  have h2 := add_ge e fa fb (-(A + B)) 0 (by omega) (by decide) (by rw [Int.pow_zero, Int.mul_one, Int.neg_mul, Int.add_mul]; omega)
  rw [Int.pow_zero, Int.mul_one] at h1 h2
  rw [Int.neg_mul] at h2
  have := big_U h
  exact ⟨fin_bd (e ▸ dadd_out fa.noNaN fb) (by omega) (by omega), h2, h1⟩
theorem Bd.sub {a b v : UInt64} {A B : Int} (e : FP.dsub a b = v) (ha : Bd a A) (hb : Bd b B) (h : (A + B).natAbs < 2 ^ 53) : Bd v (A + B) := by
  obtain ⟨fa, a1, a2⟩ := ha
  obtain ⟨fb, b1, b2⟩ := hb
  have h1 := sub_le e fa fb (A + B) 0 h (by decide) (by rw [Int.pow_zero, Int.mul_one, Int.add_mul]; omega)
  have h2 := sub_ge e fa fb (-(A + B)) 0 (by omega) (by decide) (by rw [Int.pow_zero, Int.mul_one, Int.neg_mul, Int.add_mul]; omega)
  rw [Int.pow_zero, Int.mul_one] at h1 h2
  rw [Int.neg_mul] at h2
  have := big_U h
  exact ⟨fin_bd (e ▸ dsub_out fa.noNaN fb) (by omega) (by omega), h2, h1⟩
theorem Bd.mono {x : UInt64} {A B : Int} (h : Bd x A) (q : A ≤ B) : Bd x B := by
  have a1 : A * U ≤ B * U := Int.mul_le_mul_of_nonneg_right q (Int.le_of_lt U_pos)
  exact ⟨h.1, by have := h.2.1; omega, by have := h.2.2; omega⟩
theorem Bd.i2d {x : Int32} {v : UInt64} (e : FP.i2d x = v) : Bd v 2147483648 := by
  obtain ⟨f, z⟩ := i2d_v e
  have h1 := Int32.le_toInt x
  have h2 := Int32.toInt_lt x
  exact Bd.int f z (by omega) (by omega)
end Jvm.Own
namespace Jvm.Own
open Jvm.FP Jvm.FP.Core Jvm.Free.Fl
theorem mul_le' {a b v : UInt64} (e : FP.dmul a b = v) (fa : Fin64 a) (fb : Fin64 b) (k : Int) (hk : k.natAbs < 2 ^ 53) (h : dz a * dz b ≤ k * U * U) : dz v ≤ k * U := by
  obtain ⟨V, fV, hV⟩ := repU k 0 hk (by decide)
  rw [Int.pow_zero, Int.mul_one] at hV
  rw [← hV, ← e]
  exact dmul_le fa fb fV.noNaN (by rw [hV]; exact h)
theorem mul_ge' {a b v : UInt64} (e : FP.dmul a b = v) (fa : Fin64 a) (fb : Fin64 b) (k : Int) (hk : k.natAbs < 2 ^ 53) (h : k * U * U ≤ dz a * dz b) : k * U ≤ dz v := by
  obtain ⟨V, fV, hV⟩ := repU k 0 hk (by decide)
  rw [Int.pow_zero, Int.mul_one] at hV
  rw [← hV, ← e]
  exact dmul_ge fa fb fV.noNaN (by rw [hV]; exact h)
theorem abs_mul_le {x y A B : Int} (h1 : -A ≤ x) (h2 : x ≤ A) (h3 : -B ≤ y) (h4 : y ≤ B) : -(A * B) ≤ x * y ∧ x * y ≤ A * B := by
  have e : (x * y).natAbs = x.natAbs * y.natAbs := Int.natAbs_mul x y
  have e2 : x.natAbs * y.natAbs ≤ A.natAbs * B.natAbs := Nat.mul_le_mul (by omega) (by omega)
  have e3 : (A * B).natAbs = A.natAbs * B.natAbs := Int.natAbs_mul A B
  have e4 : 0 ≤ A * B := Int.mul_nonneg (by omega) (by omega)
  omega
theorem Bd.mul {a b v : UInt64} {A B : Int} (e : FP.dmul a b = v) (ha : Bd a A) (hb : Bd b B) (h : (A * B).natAbs < 2 ^ 53) : Bd v (A * B) := by
  obtain ⟨fa, a1, a2⟩ := ha
  obtain ⟨fb, b1, b2⟩ := hb
  obtain ⟨q1, q2⟩ := abs_mul_le a1 a2 b1 b2
  have r1 : A * U * (B * U) = A * B * U * U := by generalize U = u; ac_rfl
  rw [r1] at q1 q2
  have h1 := mul_le' e fa fb (A * B) h q2
  have h2 := mul_ge' e fa fb (-(A * B)) (by omega) (by rw [Int.neg_mul, Int.neg_mul]; exact q1)
  rw [Int.neg_mul] at h2
  have := big_U h
  exact ⟨fin_bd (e ▸ dmul_out fa fb) (by omega) (by omega), h2, h1⟩
end Jvm.Own

namespace Jvm.Pilot.@@N@@
open Jvm Jvm.ClassFile Sem Op Lib Jvm.Free Jvm.Stand Jvm.LawKit Jvm.RoadKit Bundle Jvm.Free.Fl Jvm.Pilot.@@N@@.Jvm.D
theorem pd_0 : parseMethodDescriptor "(D)D" = some ⟨[.double], some .double⟩ := by decide +kernel
theorem pn_java_lang_Double : plainName "java/lang/Double" = true := by first | (simp [plainName, overriddenIn]; done) | decide +kernel
abbrev mn_1 : MethodName := (⟨"java/lang/Double", "isFinite", "(D)Z"⟩ : MethodName)
theorem pd_2 : parseMethodDescriptor "(D)Z" = some ⟨[.double], some .boolean⟩ := by decide +kernel
theorem pn_com_example_swivel_swivel_Matrix3 : plainName "com/example/swivel/swivel/Matrix3" = true := by first | (simp [plainName, overriddenIn]; done) | decide +kernel
abbrev mn_3 : MethodName := (⟨"com/example/swivel/swivel/Matrix3", "requireFinite", "(DDDDDDDDD)Lcom/example/swivel/swivel/Matrix3$Entries;"⟩ : MethodName)
abbrev mn_4 : MethodName := (⟨"com/example/swivel/swivel/Matrix3", "<init>", "(Lcom/example/swivel/swivel/Matrix3$Entries;DDDDDDDDD)V"⟩ : MethodName)
theorem pd_5 : parseMethodDescriptor "(DDDDDDDDD)Lcom/example/swivel/swivel/Matrix3$Entries;" = some ⟨[.double, .double, .double, .double, .double, .double, .double, .double, .double], some (.object "com/example/swivel/swivel/Matrix3$Entries")⟩ := by decide +kernel
theorem pd_6 : parseMethodDescriptor "(Lcom/example/swivel/swivel/Matrix3$Entries;DDDDDDDDD)V" = some ⟨[(.object "com/example/swivel/swivel/Matrix3$Entries"), .double, .double, .double, .double, .double, .double, .double, .double, .double], none⟩ := by decide +kernel
abbrev mn_7 : MethodName := (⟨"com/example/swivel/swivel/Matrix3", "<init>", "(DDDDDDDDD)V"⟩ : MethodName)
abbrev mn_8 : MethodName := (⟨"com/example/swivel/swivel/Matrix3", "homogeneousRows", "()[[D"⟩ : MethodName)
theorem pn_com_example_swivel_swivel_Matrix3HomogeneousRowsPinLaw : plainName "com/example/swivel/swivel/Matrix3HomogeneousRowsPinLaw" = true := by first | (simp [plainName, overriddenIn]; done) | decide +kernel
abbrev mn_9 : MethodName := (⟨"com/example/swivel/swivel/Matrix3HomogeneousRowsPinLaw", "row", "([DDDDD)Z"⟩ : MethodName)
abbrev mn_10 : MethodName := (⟨"com/example/swivel/swivel/Matrix3", "m11", "()D"⟩ : MethodName)
abbrev mn_11 : MethodName := (⟨"com/example/swivel/swivel/Matrix3", "m33", "()D"⟩ : MethodName)
theorem pd_12 : parseMethodDescriptor "(DDDDDDDDD)V" = some ⟨[.double, .double, .double, .double, .double, .double, .double, .double, .double], none⟩ := by decide +kernel
theorem pd_13 : parseMethodDescriptor "()[[D" = some ⟨[], some (.array (.array .double))⟩ := by decide +kernel
theorem pd_14 : parseMethodDescriptor "([DDDDD)Z" = some ⟨[(.array .double), .double, .double, .double, .double], some .boolean⟩ := by decide +kernel
theorem pd_15 : parseMethodDescriptor "()D" = some ⟨[], some .double⟩ := by decide +kernel
theorem d3_0 : decode jdk_117_method_8_code 0 = .ok (.dload_n 0, 1) := by decide +kernel
theorem d3_1 : decode jdk_117_method_8_code 1 = .ok (.invokestatic 38, 3) := by decide +kernel
theorem d3_4 : decode jdk_117_method_8_code 4 = .ok (.ldc2_w 111, 3) := by decide +kernel
theorem nnc_9218868437227405311 : NoNaN64 9218868437227405311 := by unfold NoNaN64; decide
theorem d3_7 : decode jdk_117_method_8_code 7 = .ok (.dcmp .g, 1) := by decide +kernel
theorem d3_8 : decode jdk_117_method_8_code 8 = .ok (.ifCond .gt 7, 3) := by decide +kernel
theorem d3_11 : decode jdk_117_method_8_code 11 = .ok (.iconst 1, 1) := by decide +kernel
theorem d3_12 : decode jdk_117_method_8_code 12 = .ok (.goto 4, 3) := by decide +kernel
theorem d3_16 : decode jdk_117_method_8_code 16 = .ok (.ireturn, 1) := by decide +kernel
theorem d2_0 : decode prog_6_method_3_code 0 = .ok (.dload_n 0, 1) := by decide +kernel
theorem d2_1 : decode prog_6_method_3_code 1 = .ok (.dload_n 2, 1) := by decide +kernel
theorem d2_2 : decode prog_6_method_3_code 2 = .ok (.dadd, 1) := by decide +kernel
theorem d2_3 : decode prog_6_method_3_code 3 = .ok (.dload 4, 2) := by decide +kernel
theorem d2_5 : decode prog_6_method_3_code 5 = .ok (.dload 6, 2) := by decide +kernel
theorem d2_7 : decode prog_6_method_3_code 7 = .ok (.dadd, 1) := by decide +kernel
theorem d2_8 : decode prog_6_method_3_code 8 = .ok (.dadd, 1) := by decide +kernel
theorem d2_9 : decode prog_6_method_3_code 9 = .ok (.dload 8, 2) := by decide +kernel
theorem d2_11 : decode prog_6_method_3_code 11 = .ok (.dload 10, 2) := by decide +kernel
theorem d2_13 : decode prog_6_method_3_code 13 = .ok (.dadd, 1) := by decide +kernel
theorem d2_14 : decode prog_6_method_3_code 14 = .ok (.dload 12, 2) := by decide +kernel
theorem d2_16 : decode prog_6_method_3_code 16 = .ok (.dload 14, 2) := by decide +kernel
theorem d2_18 : decode prog_6_method_3_code 18 = .ok (.dadd, 1) := by decide +kernel
theorem d2_19 : decode prog_6_method_3_code 19 = .ok (.dadd, 1) := by decide +kernel
theorem d2_20 : decode prog_6_method_3_code 20 = .ok (.dadd, 1) := by decide +kernel
theorem d2_21 : decode prog_6_method_3_code 21 = .ok (.dload 16, 2) := by decide +kernel
theorem d2_23 : decode prog_6_method_3_code 23 = .ok (.dadd, 1) := by decide +kernel
theorem d2_24 : decode prog_6_method_3_code 24 = .ok (.invokestatic 44, 3) := by decide +kernel
theorem d2_27 : decode prog_6_method_3_code 27 = .ok (.ifCond .ne 56, 3) := by decide +kernel
theorem d2_83 : decode prog_6_method_3_code 83 = .ok (.getstatic 55, 3) := by decide +kernel
theorem d2_86 : decode prog_6_method_3_code 86 = .ok (.areturn, 1) := by decide +kernel
theorem d5_0 : decode prog_6_method_2_code 0 = .ok (.aload_n 0, 1) := by decide +kernel
theorem d5_1 : decode prog_6_method_2_code 1 = .ok (.invokespecial 11, 3) := by decide +kernel
theorem d5_4 : decode prog_6_method_2_code 4 = .ok (.aload_n 0, 1) := by decide +kernel
theorem d5_5 : decode prog_6_method_2_code 5 = .ok (.dload_n 2, 1) := by decide +kernel
theorem d5_6 : decode prog_6_method_2_code 6 = .ok (.putfield 16, 3) := by decide +kernel
theorem d5_9 : decode prog_6_method_2_code 9 = .ok (.aload_n 0, 1) := by decide +kernel
theorem d5_10 : decode prog_6_method_2_code 10 = .ok (.dload 4, 2) := by decide +kernel
theorem d5_12 : decode prog_6_method_2_code 12 = .ok (.putfield 20, 3) := by decide +kernel
theorem d5_15 : decode prog_6_method_2_code 15 = .ok (.aload_n 0, 1) := by decide +kernel
theorem d5_16 : decode prog_6_method_2_code 16 = .ok (.dload 6, 2) := by decide +kernel
theorem d5_18 : decode prog_6_method_2_code 18 = .ok (.putfield 23, 3) := by decide +kernel
theorem d5_21 : decode prog_6_method_2_code 21 = .ok (.aload_n 0, 1) := by decide +kernel
theorem d5_22 : decode prog_6_method_2_code 22 = .ok (.dload 8, 2) := by decide +kernel
theorem d5_24 : decode prog_6_method_2_code 24 = .ok (.putfield 26, 3) := by decide +kernel
theorem d5_27 : decode prog_6_method_2_code 27 = .ok (.aload_n 0, 1) := by decide +kernel
theorem d5_28 : decode prog_6_method_2_code 28 = .ok (.dload 10, 2) := by decide +kernel
theorem d5_30 : decode prog_6_method_2_code 30 = .ok (.putfield 29, 3) := by decide +kernel
theorem d5_33 : decode prog_6_method_2_code 33 = .ok (.aload_n 0, 1) := by decide +kernel
theorem d5_34 : decode prog_6_method_2_code 34 = .ok (.dload 12, 2) := by decide +kernel
theorem d5_36 : decode prog_6_method_2_code 36 = .ok (.putfield 32, 3) := by decide +kernel
theorem d5_39 : decode prog_6_method_2_code 39 = .ok (.aload_n 0, 1) := by decide +kernel
theorem d5_40 : decode prog_6_method_2_code 40 = .ok (.dload 14, 2) := by decide +kernel
theorem d5_42 : decode prog_6_method_2_code 42 = .ok (.putfield 35, 3) := by decide +kernel
theorem d5_45 : decode prog_6_method_2_code 45 = .ok (.aload_n 0, 1) := by decide +kernel
theorem d5_46 : decode prog_6_method_2_code 46 = .ok (.dload 16, 2) := by decide +kernel
theorem d5_48 : decode prog_6_method_2_code 48 = .ok (.putfield 38, 3) := by decide +kernel
theorem d5_51 : decode prog_6_method_2_code 51 = .ok (.aload_n 0, 1) := by decide +kernel
theorem d5_52 : decode prog_6_method_2_code 52 = .ok (.dload 18, 2) := by decide +kernel
theorem d5_54 : decode prog_6_method_2_code 54 = .ok (.putfield 41, 3) := by decide +kernel
theorem d5_57 : decode prog_6_method_2_code 57 = .ok (.return_, 1) := by decide +kernel
theorem d1_0 : decode prog_6_method_1_code 0 = .ok (.aload_n 0, 1) := by decide +kernel
theorem d1_1 : decode prog_6_method_1_code 1 = .ok (.dload_n 1, 1) := by decide +kernel
theorem d1_2 : decode prog_6_method_1_code 2 = .ok (.dload_n 3, 1) := by decide +kernel
theorem d1_3 : decode prog_6_method_1_code 3 = .ok (.dload 5, 2) := by decide +kernel
theorem d1_5 : decode prog_6_method_1_code 5 = .ok (.dload 7, 2) := by decide +kernel
theorem d1_7 : decode prog_6_method_1_code 7 = .ok (.dload 9, 2) := by decide +kernel
theorem d1_9 : decode prog_6_method_1_code 9 = .ok (.dload 11, 2) := by decide +kernel
theorem d1_11 : decode prog_6_method_1_code 11 = .ok (.dload 13, 2) := by decide +kernel
theorem d1_13 : decode prog_6_method_1_code 13 = .ok (.dload 15, 2) := by decide +kernel
theorem d1_15 : decode prog_6_method_1_code 15 = .ok (.dload 17, 2) := by decide +kernel
theorem d1_17 : decode prog_6_method_1_code 17 = .ok (.invokestatic 1, 3) := by decide +kernel
theorem d1_20 : decode prog_6_method_1_code 20 = .ok (.dload_n 1, 1) := by decide +kernel
theorem d1_21 : decode prog_6_method_1_code 21 = .ok (.dload_n 3, 1) := by decide +kernel
theorem d1_22 : decode prog_6_method_1_code 22 = .ok (.dload 5, 2) := by decide +kernel
theorem d1_24 : decode prog_6_method_1_code 24 = .ok (.dload 7, 2) := by decide +kernel
theorem d1_26 : decode prog_6_method_1_code 26 = .ok (.dload 9, 2) := by decide +kernel
theorem d1_28 : decode prog_6_method_1_code 28 = .ok (.dload 11, 2) := by decide +kernel
theorem d1_30 : decode prog_6_method_1_code 30 = .ok (.dload 13, 2) := by decide +kernel
theorem d1_32 : decode prog_6_method_1_code 32 = .ok (.dload 15, 2) := by decide +kernel
theorem d1_34 : decode prog_6_method_1_code 34 = .ok (.dload 17, 2) := by decide +kernel
theorem d1_36 : decode prog_6_method_1_code 36 = .ok (.invokespecial 7, 3) := by decide +kernel
theorem d1_39 : decode prog_6_method_1_code 39 = .ok (.return_, 1) := by decide +kernel
theorem d7_0 : decode prog_6_method_15_code 0 = .ok (.iconst 4, 1) := by decide +kernel
theorem d7_1 : decode prog_6_method_15_code 1 = .ok (.anewarray 196, 3) := by decide +kernel
theorem d7_4 : decode prog_6_method_15_code 4 = .ok (.dup, 1) := by decide +kernel
theorem d7_5 : decode prog_6_method_15_code 5 = .ok (.iconst 0, 1) := by decide +kernel
theorem d7_6 : decode prog_6_method_15_code 6 = .ok (.iconst 4, 1) := by decide +kernel
theorem d7_7 : decode prog_6_method_15_code 7 = .ok (.newarray .double, 2) := by decide +kernel
theorem d7_9 : decode prog_6_method_15_code 9 = .ok (.dup, 1) := by decide +kernel
theorem d7_10 : decode prog_6_method_15_code 10 = .ok (.iconst 0, 1) := by decide +kernel
theorem d7_11 : decode prog_6_method_15_code 11 = .ok (.aload_n 0, 1) := by decide +kernel
theorem d7_12 : decode prog_6_method_15_code 12 = .ok (.getfield 16, 3) := by decide +kernel
theorem d7_15 : decode prog_6_method_15_code 15 = .ok (.dastore, 1) := by decide +kernel
theorem d7_16 : decode prog_6_method_15_code 16 = .ok (.dup, 1) := by decide +kernel
theorem d7_17 : decode prog_6_method_15_code 17 = .ok (.iconst 1, 1) := by decide +kernel
theorem d7_18 : decode prog_6_method_15_code 18 = .ok (.aload_n 0, 1) := by decide +kernel
theorem d7_19 : decode prog_6_method_15_code 19 = .ok (.getfield 20, 3) := by decide +kernel
theorem d7_22 : decode prog_6_method_15_code 22 = .ok (.dastore, 1) := by decide +kernel
theorem d7_23 : decode prog_6_method_15_code 23 = .ok (.dup, 1) := by decide +kernel
theorem d7_24 : decode prog_6_method_15_code 24 = .ok (.iconst 2, 1) := by decide +kernel
theorem d7_25 : decode prog_6_method_15_code 25 = .ok (.aload_n 0, 1) := by decide +kernel
theorem d7_26 : decode prog_6_method_15_code 26 = .ok (.getfield 23, 3) := by decide +kernel
theorem d7_29 : decode prog_6_method_15_code 29 = .ok (.dastore, 1) := by decide +kernel
theorem d7_30 : decode prog_6_method_15_code 30 = .ok (.dup, 1) := by decide +kernel
theorem d7_31 : decode prog_6_method_15_code 31 = .ok (.iconst 3, 1) := by decide +kernel
theorem d7_32 : decode prog_6_method_15_code 32 = .ok (.dconst 0, 1) := by decide +kernel
theorem d7_33 : decode prog_6_method_15_code 33 = .ok (.dastore, 1) := by decide +kernel
theorem d7_34 : decode prog_6_method_15_code 34 = .ok (.aastore, 1) := by decide +kernel
theorem d7_35 : decode prog_6_method_15_code 35 = .ok (.dup, 1) := by decide +kernel
theorem d7_36 : decode prog_6_method_15_code 36 = .ok (.iconst 1, 1) := by decide +kernel
theorem d7_37 : decode prog_6_method_15_code 37 = .ok (.iconst 4, 1) := by decide +kernel
theorem d7_38 : decode prog_6_method_15_code 38 = .ok (.newarray .double, 2) := by decide +kernel
theorem d7_40 : decode prog_6_method_15_code 40 = .ok (.dup, 1) := by decide +kernel
theorem d7_41 : decode prog_6_method_15_code 41 = .ok (.iconst 0, 1) := by decide +kernel
theorem d7_42 : decode prog_6_method_15_code 42 = .ok (.aload_n 0, 1) := by decide +kernel
theorem d7_43 : decode prog_6_method_15_code 43 = .ok (.getfield 26, 3) := by decide +kernel
theorem d7_46 : decode prog_6_method_15_code 46 = .ok (.dastore, 1) := by decide +kernel
theorem d7_47 : decode prog_6_method_15_code 47 = .ok (.dup, 1) := by decide +kernel
theorem d7_48 : decode prog_6_method_15_code 48 = .ok (.iconst 1, 1) := by decide +kernel
theorem d7_49 : decode prog_6_method_15_code 49 = .ok (.aload_n 0, 1) := by decide +kernel
theorem d7_50 : decode prog_6_method_15_code 50 = .ok (.getfield 29, 3) := by decide +kernel
theorem d7_53 : decode prog_6_method_15_code 53 = .ok (.dastore, 1) := by decide +kernel
theorem d7_54 : decode prog_6_method_15_code 54 = .ok (.dup, 1) := by decide +kernel
theorem d7_55 : decode prog_6_method_15_code 55 = .ok (.iconst 2, 1) := by decide +kernel
theorem d7_56 : decode prog_6_method_15_code 56 = .ok (.aload_n 0, 1) := by decide +kernel
theorem d7_57 : decode prog_6_method_15_code 57 = .ok (.getfield 32, 3) := by decide +kernel
theorem d7_60 : decode prog_6_method_15_code 60 = .ok (.dastore, 1) := by decide +kernel
theorem d7_61 : decode prog_6_method_15_code 61 = .ok (.dup, 1) := by decide +kernel
theorem d7_62 : decode prog_6_method_15_code 62 = .ok (.iconst 3, 1) := by decide +kernel
theorem d7_63 : decode prog_6_method_15_code 63 = .ok (.dconst 0, 1) := by decide +kernel
theorem d7_64 : decode prog_6_method_15_code 64 = .ok (.dastore, 1) := by decide +kernel
theorem d7_65 : decode prog_6_method_15_code 65 = .ok (.aastore, 1) := by decide +kernel
theorem d7_66 : decode prog_6_method_15_code 66 = .ok (.dup, 1) := by decide +kernel
theorem d7_67 : decode prog_6_method_15_code 67 = .ok (.iconst 2, 1) := by decide +kernel
theorem d7_68 : decode prog_6_method_15_code 68 = .ok (.iconst 4, 1) := by decide +kernel
theorem d7_69 : decode prog_6_method_15_code 69 = .ok (.newarray .double, 2) := by decide +kernel
theorem d7_71 : decode prog_6_method_15_code 71 = .ok (.dup, 1) := by decide +kernel
theorem d7_72 : decode prog_6_method_15_code 72 = .ok (.iconst 0, 1) := by decide +kernel
theorem d7_73 : decode prog_6_method_15_code 73 = .ok (.aload_n 0, 1) := by decide +kernel
theorem d7_74 : decode prog_6_method_15_code 74 = .ok (.getfield 35, 3) := by decide +kernel
theorem d7_77 : decode prog_6_method_15_code 77 = .ok (.dastore, 1) := by decide +kernel
theorem d7_78 : decode prog_6_method_15_code 78 = .ok (.dup, 1) := by decide +kernel
theorem d7_79 : decode prog_6_method_15_code 79 = .ok (.iconst 1, 1) := by decide +kernel
theorem d7_80 : decode prog_6_method_15_code 80 = .ok (.aload_n 0, 1) := by decide +kernel
theorem d7_81 : decode prog_6_method_15_code 81 = .ok (.getfield 38, 3) := by decide +kernel
theorem d7_84 : decode prog_6_method_15_code 84 = .ok (.dastore, 1) := by decide +kernel
theorem d7_85 : decode prog_6_method_15_code 85 = .ok (.dup, 1) := by decide +kernel
theorem d7_86 : decode prog_6_method_15_code 86 = .ok (.iconst 2, 1) := by decide +kernel
theorem d7_87 : decode prog_6_method_15_code 87 = .ok (.aload_n 0, 1) := by decide +kernel
theorem d7_88 : decode prog_6_method_15_code 88 = .ok (.getfield 41, 3) := by decide +kernel
theorem d7_91 : decode prog_6_method_15_code 91 = .ok (.dastore, 1) := by decide +kernel
theorem d7_92 : decode prog_6_method_15_code 92 = .ok (.dup, 1) := by decide +kernel
theorem d7_93 : decode prog_6_method_15_code 93 = .ok (.iconst 3, 1) := by decide +kernel
theorem d7_94 : decode prog_6_method_15_code 94 = .ok (.dconst 0, 1) := by decide +kernel
theorem d7_95 : decode prog_6_method_15_code 95 = .ok (.dastore, 1) := by decide +kernel
theorem d7_96 : decode prog_6_method_15_code 96 = .ok (.aastore, 1) := by decide +kernel
theorem d7_97 : decode prog_6_method_15_code 97 = .ok (.dup, 1) := by decide +kernel
theorem d7_98 : decode prog_6_method_15_code 98 = .ok (.iconst 3, 1) := by decide +kernel
theorem d7_99 : decode prog_6_method_15_code 99 = .ok (.iconst 4, 1) := by decide +kernel
theorem d7_100 : decode prog_6_method_15_code 100 = .ok (.newarray .double, 2) := by decide +kernel
theorem d7_102 : decode prog_6_method_15_code 102 = .ok (.dup, 1) := by decide +kernel
theorem d7_103 : decode prog_6_method_15_code 103 = .ok (.iconst 0, 1) := by decide +kernel
theorem d7_104 : decode prog_6_method_15_code 104 = .ok (.dconst 0, 1) := by decide +kernel
theorem d7_105 : decode prog_6_method_15_code 105 = .ok (.dastore, 1) := by decide +kernel
theorem d7_106 : decode prog_6_method_15_code 106 = .ok (.dup, 1) := by decide +kernel
theorem d7_107 : decode prog_6_method_15_code 107 = .ok (.iconst 1, 1) := by decide +kernel
theorem d7_108 : decode prog_6_method_15_code 108 = .ok (.dconst 0, 1) := by decide +kernel
theorem d7_109 : decode prog_6_method_15_code 109 = .ok (.dastore, 1) := by decide +kernel
theorem d7_110 : decode prog_6_method_15_code 110 = .ok (.dup, 1) := by decide +kernel
theorem d7_111 : decode prog_6_method_15_code 111 = .ok (.iconst 2, 1) := by decide +kernel
theorem d7_112 : decode prog_6_method_15_code 112 = .ok (.dconst 0, 1) := by decide +kernel
theorem d7_113 : decode prog_6_method_15_code 113 = .ok (.dastore, 1) := by decide +kernel
theorem d7_114 : decode prog_6_method_15_code 114 = .ok (.dup, 1) := by decide +kernel
theorem d7_115 : decode prog_6_method_15_code 115 = .ok (.iconst 3, 1) := by decide +kernel
theorem d7_116 : decode prog_6_method_15_code 116 = .ok (.dconst 1, 1) := by decide +kernel
theorem d7_117 : decode prog_6_method_15_code 117 = .ok (.dastore, 1) := by decide +kernel
theorem d7_118 : decode prog_6_method_15_code 118 = .ok (.aastore, 1) := by decide +kernel
theorem d7_119 : decode prog_6_method_15_code 119 = .ok (.areturn, 1) := by decide +kernel
theorem d8_0 : decode method_3_code 0 = .ok (.aload_n 0, 1) := by decide +kernel
theorem d8_1 : decode method_3_code 1 = .ok (.ifnull 47, 3) := by decide +kernel
theorem d8_4 : decode method_3_code 4 = .ok (.aload_n 0, 1) := by decide +kernel
theorem d8_5 : decode method_3_code 5 = .ok (.arraylength, 1) := by decide +kernel
theorem d8_6 : decode method_3_code 6 = .ok (.iconst 4, 1) := by decide +kernel
theorem d8_7 : decode method_3_code 7 = .ok (.if_icmp .ne 41, 3) := by decide +kernel
theorem d8_10 : decode method_3_code 10 = .ok (.aload_n 0, 1) := by decide +kernel
theorem d8_11 : decode method_3_code 11 = .ok (.iconst 0, 1) := by decide +kernel
theorem d8_12 : decode method_3_code 12 = .ok (.daload, 1) := by decide +kernel
theorem d8_13 : decode method_3_code 13 = .ok (.dload_n 1, 1) := by decide +kernel
theorem d8_14 : decode method_3_code 14 = .ok (.dcmp .l, 1) := by decide +kernel
theorem d8_15 : decode method_3_code 15 = .ok (.ifCond .ne 33, 3) := by decide +kernel
theorem d8_18 : decode method_3_code 18 = .ok (.aload_n 0, 1) := by decide +kernel
theorem d8_19 : decode method_3_code 19 = .ok (.iconst 1, 1) := by decide +kernel
theorem d8_20 : decode method_3_code 20 = .ok (.daload, 1) := by decide +kernel
theorem d8_21 : decode method_3_code 21 = .ok (.dload_n 3, 1) := by decide +kernel
theorem d8_22 : decode method_3_code 22 = .ok (.dcmp .l, 1) := by decide +kernel
theorem d8_23 : decode method_3_code 23 = .ok (.ifCond .ne 25, 3) := by decide +kernel
theorem d8_26 : decode method_3_code 26 = .ok (.aload_n 0, 1) := by decide +kernel
theorem d8_27 : decode method_3_code 27 = .ok (.iconst 2, 1) := by decide +kernel
theorem d8_28 : decode method_3_code 28 = .ok (.daload, 1) := by decide +kernel
theorem d8_29 : decode method_3_code 29 = .ok (.dload 5, 2) := by decide +kernel
theorem d8_31 : decode method_3_code 31 = .ok (.dcmp .l, 1) := by decide +kernel
theorem d8_32 : decode method_3_code 32 = .ok (.ifCond .ne 16, 3) := by decide +kernel
theorem d8_35 : decode method_3_code 35 = .ok (.aload_n 0, 1) := by decide +kernel
theorem d8_36 : decode method_3_code 36 = .ok (.iconst 3, 1) := by decide +kernel
theorem d8_37 : decode method_3_code 37 = .ok (.daload, 1) := by decide +kernel
theorem d8_38 : decode method_3_code 38 = .ok (.dload 7, 2) := by decide +kernel
theorem d8_40 : decode method_3_code 40 = .ok (.dcmp .l, 1) := by decide +kernel
theorem d8_41 : decode method_3_code 41 = .ok (.ifCond .ne 7, 3) := by decide +kernel
theorem d8_44 : decode method_3_code 44 = .ok (.iconst 1, 1) := by decide +kernel
theorem d8_45 : decode method_3_code 45 = .ok (.goto 4, 3) := by decide +kernel
theorem d8_49 : decode method_3_code 49 = .ok (.ireturn, 1) := by decide +kernel
theorem d9_0 : decode prog_6_method_16_code 0 = .ok (.aload_n 0, 1) := by decide +kernel
theorem d9_1 : decode prog_6_method_16_code 1 = .ok (.getfield 16, 3) := by decide +kernel
theorem d9_4 : decode prog_6_method_16_code 4 = .ok (.dreturn, 1) := by decide +kernel
theorem d10_0 : decode prog_6_method_24_code 0 = .ok (.aload_n 0, 1) := by decide +kernel
theorem d10_1 : decode prog_6_method_24_code 1 = .ok (.getfield 41, 3) := by decide +kernel
theorem d10_4 : decode prog_6_method_24_code 4 = .ok (.dreturn, 1) := by decide +kernel
theorem nnc_4611686018427387904 : NoNaN64 4611686018427387904 := by unfold NoNaN64; decide

theorem ef_3 (m : MethodId) (x0 : UInt64) : entryFrame m #[.double x0] 2 = mkF m 0 #[.val (.double x0), .second] [] := by first | (simp [entryFrame, mkF, argsToLocals, Value.category, maxLocals]; done) | rfl
set_option maxRecDepth 65536 in
set_option maxHeartbeats 40000000 in
theorem rm3 (l : Launch) (Z : State) (a0 : Array Value) (hw : ∀ d ∈ tables_1, d.before a0 Z = true) (u : UInt64)   (h0 : Heap) (n0 : Nat) (Z0 : n0 ≤ h0.size)  (f_u : Fin64 u) :
    Own.Con l Z mn_1 [] jdk_117_method_8_code 2 (some .boolean) ({ frames := 1, cells := 0, slots := 0, locals := 13 } : Room) #[.double u] h0 n0 (fun v h => v = some (.int 1) ∧ h0 = h) := by
  refine Own.enter (own := "java/lang/Double") (nm := "isFinite") (plainFor_of_name pn_java_lang_Double) rfl rfl (fun m => ef_3 m u) fun p e s m below meth c T X => ?_
  refine Own.dloadN X d3_0 rfl ?_
  have n_u := f_u.noNaN
  refine Own.absD_ X d3_1 (Own.wd hw 13 rfl) (Own.wd hw 14 rfl) (Own.wd hw 15 rfl) (Own.wd hw 16 rfl) n_u (lenOf pd_0 rfl) rfl (W := 0) (Nat.le_of_eq rfl) (by decide) (by decide) (by decide) (by decide) fun T1 X1 => ?_
  show Own.Go p e below s n0 _ _ _ (T1.setTop (mkF m 4 _ [.double (u &&& 0x7fffffffffffffff)]))
  refine Own.ldc2D X1 d3_4 (Own.wd hw 17 rfl) ?_
  refine Own.dcmpF X1 (pc' := 15) d3_7 d3_8 (by decide) (abs_fin f_u).noNaN nnc_9218868437227405311 (fun q => absurd (show Own.dz 9218868437227405311 < Own.dz (u &&& 0x7fffffffffffffff) from q) (show ¬ (Own.dz 9218868437227405311 < Own.dz (u &&& 0x7fffffffffffffff)) from fun q => absurd q (by have := Own.abs_max f_u; omega))) (fun _ => ?_)
  refine Own.iconst X1 (v := 1) d3_11 rfl ?_
  refine Own.goto_ X1 (pc' := 16) d3_12 (by decide) ?_
  exact Own.retB X1 d3_16 (by decide) ⟨rfl, rfl⟩ (by decide) (by decide)
theorem ef_2 (m : MethodId) (x0 : UInt64) (x1 : UInt64) (x2 : UInt64) (x3 : UInt64) (x4 : UInt64) (x5 : UInt64) (x6 : UInt64) (x7 : UInt64) (x8 : UInt64) : entryFrame m #[.double x0, .double x1, .double x2, .double x3, .double x4, .double x5, .double x6, .double x7, .double x8] 18 = mkF m 0 #[.val (.double x0), .second, .val (.double x1), .second, .val (.double x2), .second, .val (.double x3), .second, .val (.double x4), .second, .val (.double x5), .second, .val (.double x6), .second, .val (.double x7), .second, .val (.double x8), .second] [] := by first | (simp [entryFrame, mkF, argsToLocals, Value.category, maxLocals]; done) | rfl
set_option maxRecDepth 65536 in
set_option maxHeartbeats 40000000 in
theorem rm2 (l : Launch) (Z : State) (a0 : Array Value) (hw : ∀ d ∈ tables_1, d.before a0 Z = true) (p1 : UInt64) (p2 : UInt64) (p3 : UInt64) (p4 : UInt64) (p5 : UInt64) (p6 : UInt64) (p7 : UInt64) (p8 : UInt64) (p9 : UInt64)  (fe : Addr) (h0 : Heap) (n0 : Nat) (Z0 : n0 ≤ h0.size)  (B_p1 : Own.Bd p1 8589934592) (B_p2 : Own.Bd p2 8589934592) (B_p3 : Own.Bd p3 8589934592) (B_p4 : Own.Bd p4 8589934592) (B_p5 : Own.Bd p5 8589934592) (B_p6 : Own.Bd p6 8589934592) (B_p7 : Own.Bd p7 8589934592) (B_p8 : Own.Bd p8 8589934592) (B_p9 : Own.Bd p9 8589934592) (S_F : Sta Z h0 "com/example/swivel/swivel/Matrix3$Entries" "FINITE" "Lcom/example/swivel/swivel/Matrix3$Entries;" (.ref fe)) :
    Own.Con l Z mn_3 [] prog_6_method_3_code 18 (some (.object "com/example/swivel/swivel/Matrix3$Entries")) ({ frames := 2, cells := 0, slots := 0, locals := 26 } : Room) #[.double p1, .double p2, .double p3, .double p4, .double p5, .double p6, .double p7, .double p8, .double p9] h0 n0 (fun v h => v = some (.ref fe) ∧ h0 = h) := by
  refine Own.enter (own := "com/example/swivel/swivel/Matrix3") (nm := "requireFinite") (plainFor_of_name pn_com_example_swivel_swivel_Matrix3) rfl rfl (fun m => ef_2 m p1 p2 p3 p4 p5 p6 p7 p8 p9) fun p e s m below meth c T X => ?_
  refine Own.dloadN X d2_0 rfl ?_
  refine Own.dloadN X d2_1 rfl ?_
  obtain ⟨d2, e_d2⟩ : ∃ v, FP.dadd p1 p2 = v := ⟨_, rfl⟩
  have B_d2 := Own.Bd.add e_d2 B_p1 B_p2 (by decide)
  have f_d2 := B_d2.1
  have n_d2 := f_d2.noNaN
  refine Own.dadd X d2_2 e_d2 n_d2 ?_
  refine Own.dload X d2_3 rfl ?_
  refine Own.dload X d2_5 rfl ?_
  obtain ⟨d7, e_d7⟩ : ∃ v, FP.dadd p3 p4 = v := ⟨_, rfl⟩
  have B_d7 := Own.Bd.add e_d7 B_p3 B_p4 (by decide)
  have f_d7 := B_d7.1
  have n_d7 := f_d7.noNaN
  refine Own.dadd X d2_7 e_d7 n_d7 ?_
  obtain ⟨d8, e_d8⟩ : ∃ v, FP.dadd d2 d7 = v := ⟨_, rfl⟩
  have B_d8 := Own.Bd.add e_d8 B_d2 B_d7 (by decide)
  have f_d8 := B_d8.1
  have n_d8 := f_d8.noNaN
  refine Own.dadd X d2_8 e_d8 n_d8 ?_
  refine Own.dload X d2_9 rfl ?_
  refine Own.dload X d2_11 rfl ?_
  obtain ⟨d13, e_d13⟩ : ∃ v, FP.dadd p5 p6 = v := ⟨_, rfl⟩
  have B_d13 := Own.Bd.add e_d13 B_p5 B_p6 (by decide)
  have f_d13 := B_d13.1
  have n_d13 := f_d13.noNaN
  refine Own.dadd X d2_13 e_d13 n_d13 ?_
  refine Own.dload X d2_14 rfl ?_
  refine Own.dload X d2_16 rfl ?_
  obtain ⟨d18, e_d18⟩ : ∃ v, FP.dadd p7 p8 = v := ⟨_, rfl⟩
  have B_d18 := Own.Bd.add e_d18 B_p7 B_p8 (by decide)
  have f_d18 := B_d18.1
  have n_d18 := f_d18.noNaN
  refine Own.dadd X d2_18 e_d18 n_d18 ?_
  obtain ⟨d19, e_d19⟩ : ∃ v, FP.dadd d13 d18 = v := ⟨_, rfl⟩
  have B_d19 := Own.Bd.add e_d19 B_d13 B_d18 (by decide)
  have f_d19 := B_d19.1
  have n_d19 := f_d19.noNaN
  refine Own.dadd X d2_19 e_d19 n_d19 ?_
  obtain ⟨d20, e_d20⟩ : ∃ v, FP.dadd d8 d19 = v := ⟨_, rfl⟩
  have B_d20 := Own.Bd.add e_d20 B_d8 B_d19 (by decide)
  have f_d20 := B_d20.1
  have n_d20 := f_d20.noNaN
  refine Own.dadd X d2_20 e_d20 n_d20 ?_
  refine Own.dload X d2_21 rfl ?_
  obtain ⟨d23, e_d23⟩ : ∃ v, FP.dadd d20 p9 = v := ⟨_, rfl⟩
  have B_d23 := Own.Bd.add e_d23 B_d20 B_p9 (by decide)
  have f_d23 := B_d23.1
  have n_d23 := f_d23.noNaN
  refine Own.dadd X d2_23 e_d23 n_d23 ?_
  refine Own.callS_ (y := mn_1) X d2_24 (Own.wd hw 9 rfl) (Own.wd hw 10 rfl) (Own.wd hw 11 rfl) (Own.wd hw 12 rfl) (by decide) (rm3 l Z a0 hw d23 h0 n0 Z0  f_d23) (lenOf pd_2 rfl) rfl (argsL := [.double d23]) (rest := []) rfl (W := 0) (Nat.le_of_eq rfl) (by decide) (by decide) (by decide) (by decide) fun T1 h1 v1 X1 q1 => ?_
  obtain ⟨rfl, rfl⟩ := q1
  show Own.Go p e below s n0 _ _ _ (T1.setTop (mkF m 27 _ [.int (1 : Int32)]))
  refine Own.iff_ X1 (pc' := 83) d2_27 (by decide) (fun _ => ?_) (fun q => absurd (show ¬ ((1 : Int) = (0 : Int)) from by decide) q)
  refine Own.getS_ X1 d2_83 (host := "") (Or.inl (Own.wd hw 18 rfl)) Via.refl S_F fun T2 X2 => ?_
  exact Own.retA X2 d2_86 rfl rfl rfl ⟨rfl, rfl⟩ (by decide) (by decide)
theorem ef_5 (m : MethodId) (x0 : Addr) (x1 : Addr) (x2 : UInt64) (x3 : UInt64) (x4 : UInt64) (x5 : UInt64) (x6 : UInt64) (x7 : UInt64) (x8 : UInt64) (x9 : UInt64) (x10 : UInt64) : entryFrame m #[.ref x0, .ref x1, .double x2, .double x3, .double x4, .double x5, .double x6, .double x7, .double x8, .double x9, .double x10] 20 = mkF m 0 #[.val (.ref x0), .val (.ref x1), .val (.double x2), .second, .val (.double x3), .second, .val (.double x4), .second, .val (.double x5), .second, .val (.double x6), .second, .val (.double x7), .second, .val (.double x8), .second, .val (.double x9), .second, .val (.double x10), .second] [] := by first | (simp [entryFrame, mkF, argsToLocals, Value.category, maxLocals]; done) | rfl
set_option maxRecDepth 65536 in
set_option maxHeartbeats 40000000 in
theorem rm5 (l : Launch) (Z : State) (a0 : Array Value) (hw : ∀ d ∈ tables_1, d.before a0 Z = true) (a : Addr) (p0 : Addr) (p1 : UInt64) (p2 : UInt64) (p3 : UInt64) (p4 : UInt64) (p5 : UInt64) (p6 : UInt64) (p7 : UInt64) (p8 : UInt64) (p9 : UInt64)  (h0 : Heap) (n0 : Nat) (Z0 : n0 ≤ h0.size) (ga : n0 ≤ a) (Ea : Exa Z h0 a "com/example/swivel/swivel/Matrix3") (F0_m11 : Fld Z h0 a "com/example/swivel/swivel/Matrix3" "m11" "D" (.double 0)) (F0_m12 : Fld Z h0 a "com/example/swivel/swivel/Matrix3" "m12" "D" (.double 0)) (F0_m13 : Fld Z h0 a "com/example/swivel/swivel/Matrix3" "m13" "D" (.double 0)) (F0_m21 : Fld Z h0 a "com/example/swivel/swivel/Matrix3" "m21" "D" (.double 0)) (F0_m22 : Fld Z h0 a "com/example/swivel/swivel/Matrix3" "m22" "D" (.double 0)) (F0_m23 : Fld Z h0 a "com/example/swivel/swivel/Matrix3" "m23" "D" (.double 0)) (F0_m31 : Fld Z h0 a "com/example/swivel/swivel/Matrix3" "m31" "D" (.double 0)) (F0_m32 : Fld Z h0 a "com/example/swivel/swivel/Matrix3" "m32" "D" (.double 0)) (F0_m33 : Fld Z h0 a "com/example/swivel/swivel/Matrix3" "m33" "D" (.double 0))  :
    Own.Con l Z mn_4 [] prog_6_method_2_code 20 none ({ frames := 1, cells := 0, slots := 0, locals := 12 } : Room) #[.ref a, .ref p0, .double p1, .double p2, .double p3, .double p4, .double p5, .double p6, .double p7, .double p8, .double p9] h0 n0 (fun v h => v = none ∧ Keep h0 h [a] ∧ Fld Z h a "com/example/swivel/swivel/Matrix3" "m11" "D" (.double p1) ∧ Fld Z h a "com/example/swivel/swivel/Matrix3" "m12" "D" (.double p2) ∧ Fld Z h a "com/example/swivel/swivel/Matrix3" "m13" "D" (.double p3) ∧ Fld Z h a "com/example/swivel/swivel/Matrix3" "m21" "D" (.double p4) ∧ Fld Z h a "com/example/swivel/swivel/Matrix3" "m22" "D" (.double p5) ∧ Fld Z h a "com/example/swivel/swivel/Matrix3" "m23" "D" (.double p6) ∧ Fld Z h a "com/example/swivel/swivel/Matrix3" "m31" "D" (.double p7) ∧ Fld Z h a "com/example/swivel/swivel/Matrix3" "m32" "D" (.double p8) ∧ Fld Z h a "com/example/swivel/swivel/Matrix3" "m33" "D" (.double p9)) := by
  refine Own.enter (own := "com/example/swivel/swivel/Matrix3") (nm := "<init>") (plainFor_of_name pn_com_example_swivel_swivel_Matrix3) rfl rfl (fun m => ef_5 m a p0 p1 p2 p3 p4 p5 p6 p7 p8 p9) fun p e s m below meth c T X => ?_
  refine Own.aloadN X d5_0 rfl rfl ?_
  refine Own.initO_ X d5_1 (Own.wd hw 24 rfl) (Own.wd hw 25 rfl) (Own.wd hw 26 rfl) rfl (W := 0) (by decide) (Nat.le_of_eq rfl) (by decide) fun T1 X1 => ?_
  refine Own.aloadN X1 d5_4 rfl rfl ?_
  refine Own.dloadN X1 d5_5 rfl ?_
  refine Own.putF_ X1 d5_6 (host := "") (Or.inl (Own.wd hw 27 rfl)) Via.refl F0_m11 Ea (Or.inr ⟨(Own.wd hw 28 rfl), rfl, rfl⟩) (Own.wd hw 1 rfl) (ty := .double) (by decide) rfl rfl ga fun T2 h2 X2 W2 => ?_
  have F3 := Ea.wr W2
  have F4 := (Keep.refl h0 [a]).wr W2 (Or.inl (List.mem_of_getElem? (i := 0) rfl))
  have F5 := F0_m12.other W2 (Or.inr (slot_ne (Or.inr (Own.wd hw 30 rfl)) (Or.inr (Own.wd hw 28 rfl)) (by decide) (t := .double) (t' := .double) (by decide) (by decide)))
  have F6 := F0_m13.other W2 (Or.inr (slot_ne (Or.inr (Own.wd hw 32 rfl)) (Or.inr (Own.wd hw 28 rfl)) (by decide) (t := .double) (t' := .double) (by decide) (by decide)))
  have F7 := F0_m21.other W2 (Or.inr (slot_ne (Or.inr (Own.wd hw 34 rfl)) (Or.inr (Own.wd hw 28 rfl)) (by decide) (t := .double) (t' := .double) (by decide) (by decide)))
  have F8 := F0_m22.other W2 (Or.inr (slot_ne (Or.inr (Own.wd hw 36 rfl)) (Or.inr (Own.wd hw 28 rfl)) (by decide) (t := .double) (t' := .double) (by decide) (by decide)))
  have F9 := F0_m23.other W2 (Or.inr (slot_ne (Or.inr (Own.wd hw 38 rfl)) (Or.inr (Own.wd hw 28 rfl)) (by decide) (t := .double) (t' := .double) (by decide) (by decide)))
  have F10 := F0_m31.other W2 (Or.inr (slot_ne (Or.inr (Own.wd hw 40 rfl)) (Or.inr (Own.wd hw 28 rfl)) (by decide) (t := .double) (t' := .double) (by decide) (by decide)))
  have F11 := F0_m32.other W2 (Or.inr (slot_ne (Or.inr (Own.wd hw 42 rfl)) (Or.inr (Own.wd hw 28 rfl)) (by decide) (t := .double) (t' := .double) (by decide) (by decide)))
  have F12 := F0_m33.other W2 (Or.inr (slot_ne (Or.inr (Own.wd hw 44 rfl)) (Or.inr (Own.wd hw 28 rfl)) (by decide) (t := .double) (t' := .double) (by decide) (by decide)))
  have F13 : Fld Z h2 a "com/example/swivel/swivel/Matrix3" "m11" "D" (.double p1) := Fld.same W2 F0_m11
  have Z14 : n0 ≤ h2.size := by rw [W2.size]; exact Z0
  refine Own.aloadN X2 d5_9 rfl rfl ?_
  refine Own.dload X2 d5_10 rfl ?_
  refine Own.putF_ X2 d5_12 (host := "") (Or.inl (Own.wd hw 29 rfl)) Via.refl F5 F3 (Or.inr ⟨(Own.wd hw 30 rfl), rfl, rfl⟩) (Own.wd hw 1 rfl) (ty := .double) (by decide) rfl rfl ga fun T15 h15 X15 W15 => ?_
  have F16 := F3.wr W15
  have F17 := F4.wr W15 (Or.inl (List.mem_of_getElem? (i := 0) rfl))
  have F18 := F6.other W15 (Or.inr (slot_ne (Or.inr (Own.wd hw 32 rfl)) (Or.inr (Own.wd hw 30 rfl)) (by decide) (t := .double) (t' := .double) (by decide) (by decide)))
  have F19 := F7.other W15 (Or.inr (slot_ne (Or.inr (Own.wd hw 34 rfl)) (Or.inr (Own.wd hw 30 rfl)) (by decide) (t := .double) (t' := .double) (by decide) (by decide)))
  have F20 := F8.other W15 (Or.inr (slot_ne (Or.inr (Own.wd hw 36 rfl)) (Or.inr (Own.wd hw 30 rfl)) (by decide) (t := .double) (t' := .double) (by decide) (by decide)))
  have F21 := F9.other W15 (Or.inr (slot_ne (Or.inr (Own.wd hw 38 rfl)) (Or.inr (Own.wd hw 30 rfl)) (by decide) (t := .double) (t' := .double) (by decide) (by decide)))
  have F22 := F10.other W15 (Or.inr (slot_ne (Or.inr (Own.wd hw 40 rfl)) (Or.inr (Own.wd hw 30 rfl)) (by decide) (t := .double) (t' := .double) (by decide) (by decide)))
  have F23 := F11.other W15 (Or.inr (slot_ne (Or.inr (Own.wd hw 42 rfl)) (Or.inr (Own.wd hw 30 rfl)) (by decide) (t := .double) (t' := .double) (by decide) (by decide)))
  have F24 := F12.other W15 (Or.inr (slot_ne (Or.inr (Own.wd hw 44 rfl)) (Or.inr (Own.wd hw 30 rfl)) (by decide) (t := .double) (t' := .double) (by decide) (by decide)))
  have F25 := F13.other W15 (Or.inr (slot_ne (Or.inr (Own.wd hw 28 rfl)) (Or.inr (Own.wd hw 30 rfl)) (by decide) (t := .double) (t' := .double) (by decide) (by decide)))
  have F26 : Fld Z h15 a "com/example/swivel/swivel/Matrix3" "m12" "D" (.double p2) := Fld.same W15 F5
  have Z27 : n0 ≤ h15.size := by rw [W15.size]; exact Z14
  refine Own.aloadN X15 d5_15 rfl rfl ?_
  refine Own.dload X15 d5_16 rfl ?_
  refine Own.putF_ X15 d5_18 (host := "") (Or.inl (Own.wd hw 31 rfl)) Via.refl F18 F16 (Or.inr ⟨(Own.wd hw 32 rfl), rfl, rfl⟩) (Own.wd hw 1 rfl) (ty := .double) (by decide) rfl rfl ga fun T28 h28 X28 W28 => ?_
  have F29 := F16.wr W28
  have F30 := F17.wr W28 (Or.inl (List.mem_of_getElem? (i := 0) rfl))
  have F31 := F19.other W28 (Or.inr (slot_ne (Or.inr (Own.wd hw 34 rfl)) (Or.inr (Own.wd hw 32 rfl)) (by decide) (t := .double) (t' := .double) (by decide) (by decide)))
  have F32 := F20.other W28 (Or.inr (slot_ne (Or.inr (Own.wd hw 36 rfl)) (Or.inr (Own.wd hw 32 rfl)) (by decide) (t := .double) (t' := .double) (by decide) (by decide)))
  have F33 := F21.other W28 (Or.inr (slot_ne (Or.inr (Own.wd hw 38 rfl)) (Or.inr (Own.wd hw 32 rfl)) (by decide) (t := .double) (t' := .double) (by decide) (by decide)))
  have F34 := F22.other W28 (Or.inr (slot_ne (Or.inr (Own.wd hw 40 rfl)) (Or.inr (Own.wd hw 32 rfl)) (by decide) (t := .double) (t' := .double) (by decide) (by decide)))
  have F35 := F23.other W28 (Or.inr (slot_ne (Or.inr (Own.wd hw 42 rfl)) (Or.inr (Own.wd hw 32 rfl)) (by decide) (t := .double) (t' := .double) (by decide) (by decide)))
  have F36 := F24.other W28 (Or.inr (slot_ne (Or.inr (Own.wd hw 44 rfl)) (Or.inr (Own.wd hw 32 rfl)) (by decide) (t := .double) (t' := .double) (by decide) (by decide)))
  have F37 := F25.other W28 (Or.inr (slot_ne (Or.inr (Own.wd hw 28 rfl)) (Or.inr (Own.wd hw 32 rfl)) (by decide) (t := .double) (t' := .double) (by decide) (by decide)))
  have F38 := F26.other W28 (Or.inr (slot_ne (Or.inr (Own.wd hw 30 rfl)) (Or.inr (Own.wd hw 32 rfl)) (by decide) (t := .double) (t' := .double) (by decide) (by decide)))
  have F39 : Fld Z h28 a "com/example/swivel/swivel/Matrix3" "m13" "D" (.double p3) := Fld.same W28 F18
  have Z40 : n0 ≤ h28.size := by rw [W28.size]; exact Z27
  refine Own.aloadN X28 d5_21 rfl rfl ?_
  refine Own.dload X28 d5_22 rfl ?_
  refine Own.putF_ X28 d5_24 (host := "") (Or.inl (Own.wd hw 33 rfl)) Via.refl F31 F29 (Or.inr ⟨(Own.wd hw 34 rfl), rfl, rfl⟩) (Own.wd hw 1 rfl) (ty := .double) (by decide) rfl rfl ga fun T41 h41 X41 W41 => ?_
  have F42 := F29.wr W41
  have F43 := F30.wr W41 (Or.inl (List.mem_of_getElem? (i := 0) rfl))
  have F44 := F32.other W41 (Or.inr (slot_ne (Or.inr (Own.wd hw 36 rfl)) (Or.inr (Own.wd hw 34 rfl)) (by decide) (t := .double) (t' := .double) (by decide) (by decide)))
  have F45 := F33.other W41 (Or.inr (slot_ne (Or.inr (Own.wd hw 38 rfl)) (Or.inr (Own.wd hw 34 rfl)) (by decide) (t := .double) (t' := .double) (by decide) (by decide)))
  have F46 := F34.other W41 (Or.inr (slot_ne (Or.inr (Own.wd hw 40 rfl)) (Or.inr (Own.wd hw 34 rfl)) (by decide) (t := .double) (t' := .double) (by decide) (by decide)))
  have F47 := F35.other W41 (Or.inr (slot_ne (Or.inr (Own.wd hw 42 rfl)) (Or.inr (Own.wd hw 34 rfl)) (by decide) (t := .double) (t' := .double) (by decide) (by decide)))
  have F48 := F36.other W41 (Or.inr (slot_ne (Or.inr (Own.wd hw 44 rfl)) (Or.inr (Own.wd hw 34 rfl)) (by decide) (t := .double) (t' := .double) (by decide) (by decide)))
  have F49 := F37.other W41 (Or.inr (slot_ne (Or.inr (Own.wd hw 28 rfl)) (Or.inr (Own.wd hw 34 rfl)) (by decide) (t := .double) (t' := .double) (by decide) (by decide)))
  have F50 := F38.other W41 (Or.inr (slot_ne (Or.inr (Own.wd hw 30 rfl)) (Or.inr (Own.wd hw 34 rfl)) (by decide) (t := .double) (t' := .double) (by decide) (by decide)))
  have F51 := F39.other W41 (Or.inr (slot_ne (Or.inr (Own.wd hw 32 rfl)) (Or.inr (Own.wd hw 34 rfl)) (by decide) (t := .double) (t' := .double) (by decide) (by decide)))
  have F52 : Fld Z h41 a "com/example/swivel/swivel/Matrix3" "m21" "D" (.double p4) := Fld.same W41 F31
  have Z53 : n0 ≤ h41.size := by rw [W41.size]; exact Z40
  refine Own.aloadN X41 d5_27 rfl rfl ?_
  refine Own.dload X41 d5_28 rfl ?_
  refine Own.putF_ X41 d5_30 (host := "") (Or.inl (Own.wd hw 35 rfl)) Via.refl F44 F42 (Or.inr ⟨(Own.wd hw 36 rfl), rfl, rfl⟩) (Own.wd hw 1 rfl) (ty := .double) (by decide) rfl rfl ga fun T54 h54 X54 W54 => ?_
  have F55 := F42.wr W54
  have F56 := F43.wr W54 (Or.inl (List.mem_of_getElem? (i := 0) rfl))
  have F57 := F45.other W54 (Or.inr (slot_ne (Or.inr (Own.wd hw 38 rfl)) (Or.inr (Own.wd hw 36 rfl)) (by decide) (t := .double) (t' := .double) (by decide) (by decide)))
  have F58 := F46.other W54 (Or.inr (slot_ne (Or.inr (Own.wd hw 40 rfl)) (Or.inr (Own.wd hw 36 rfl)) (by decide) (t := .double) (t' := .double) (by decide) (by decide)))
  have F59 := F47.other W54 (Or.inr (slot_ne (Or.inr (Own.wd hw 42 rfl)) (Or.inr (Own.wd hw 36 rfl)) (by decide) (t := .double) (t' := .double) (by decide) (by decide)))
  have F60 := F48.other W54 (Or.inr (slot_ne (Or.inr (Own.wd hw 44 rfl)) (Or.inr (Own.wd hw 36 rfl)) (by decide) (t := .double) (t' := .double) (by decide) (by decide)))
  have F61 := F49.other W54 (Or.inr (slot_ne (Or.inr (Own.wd hw 28 rfl)) (Or.inr (Own.wd hw 36 rfl)) (by decide) (t := .double) (t' := .double) (by decide) (by decide)))
  have F62 := F50.other W54 (Or.inr (slot_ne (Or.inr (Own.wd hw 30 rfl)) (Or.inr (Own.wd hw 36 rfl)) (by decide) (t := .double) (t' := .double) (by decide) (by decide)))
  have F63 := F51.other W54 (Or.inr (slot_ne (Or.inr (Own.wd hw 32 rfl)) (Or.inr (Own.wd hw 36 rfl)) (by decide) (t := .double) (t' := .double) (by decide) (by decide)))
  have F64 := F52.other W54 (Or.inr (slot_ne (Or.inr (Own.wd hw 34 rfl)) (Or.inr (Own.wd hw 36 rfl)) (by decide) (t := .double) (t' := .double) (by decide) (by decide)))
  have F65 : Fld Z h54 a "com/example/swivel/swivel/Matrix3" "m22" "D" (.double p5) := Fld.same W54 F44
  have Z66 : n0 ≤ h54.size := by rw [W54.size]; exact Z53
  refine Own.aloadN X54 d5_33 rfl rfl ?_
  refine Own.dload X54 d5_34 rfl ?_
  refine Own.putF_ X54 d5_36 (host := "") (Or.inl (Own.wd hw 37 rfl)) Via.refl F57 F55 (Or.inr ⟨(Own.wd hw 38 rfl), rfl, rfl⟩) (Own.wd hw 1 rfl) (ty := .double) (by decide) rfl rfl ga fun T67 h67 X67 W67 => ?_
  have F68 := F55.wr W67
  have F69 := F56.wr W67 (Or.inl (List.mem_of_getElem? (i := 0) rfl))
  have F70 := F58.other W67 (Or.inr (slot_ne (Or.inr (Own.wd hw 40 rfl)) (Or.inr (Own.wd hw 38 rfl)) (by decide) (t := .double) (t' := .double) (by decide) (by decide)))
  have F71 := F59.other W67 (Or.inr (slot_ne (Or.inr (Own.wd hw 42 rfl)) (Or.inr (Own.wd hw 38 rfl)) (by decide) (t := .double) (t' := .double) (by decide) (by decide)))
  have F72 := F60.other W67 (Or.inr (slot_ne (Or.inr (Own.wd hw 44 rfl)) (Or.inr (Own.wd hw 38 rfl)) (by decide) (t := .double) (t' := .double) (by decide) (by decide)))
  have F73 := F61.other W67 (Or.inr (slot_ne (Or.inr (Own.wd hw 28 rfl)) (Or.inr (Own.wd hw 38 rfl)) (by decide) (t := .double) (t' := .double) (by decide) (by decide)))
  have F74 := F62.other W67 (Or.inr (slot_ne (Or.inr (Own.wd hw 30 rfl)) (Or.inr (Own.wd hw 38 rfl)) (by decide) (t := .double) (t' := .double) (by decide) (by decide)))
  have F75 := F63.other W67 (Or.inr (slot_ne (Or.inr (Own.wd hw 32 rfl)) (Or.inr (Own.wd hw 38 rfl)) (by decide) (t := .double) (t' := .double) (by decide) (by decide)))
  have F76 := F64.other W67 (Or.inr (slot_ne (Or.inr (Own.wd hw 34 rfl)) (Or.inr (Own.wd hw 38 rfl)) (by decide) (t := .double) (t' := .double) (by decide) (by decide)))
  have F77 := F65.other W67 (Or.inr (slot_ne (Or.inr (Own.wd hw 36 rfl)) (Or.inr (Own.wd hw 38 rfl)) (by decide) (t := .double) (t' := .double) (by decide) (by decide)))
  have F78 : Fld Z h67 a "com/example/swivel/swivel/Matrix3" "m23" "D" (.double p6) := Fld.same W67 F57
  have Z79 : n0 ≤ h67.size := by rw [W67.size]; exact Z66
  refine Own.aloadN X67 d5_39 rfl rfl ?_
  refine Own.dload X67 d5_40 rfl ?_
  refine Own.putF_ X67 d5_42 (host := "") (Or.inl (Own.wd hw 39 rfl)) Via.refl F70 F68 (Or.inr ⟨(Own.wd hw 40 rfl), rfl, rfl⟩) (Own.wd hw 1 rfl) (ty := .double) (by decide) rfl rfl ga fun T80 h80 X80 W80 => ?_
  have F81 := F68.wr W80
  have F82 := F69.wr W80 (Or.inl (List.mem_of_getElem? (i := 0) rfl))
  have F83 := F71.other W80 (Or.inr (slot_ne (Or.inr (Own.wd hw 42 rfl)) (Or.inr (Own.wd hw 40 rfl)) (by decide) (t := .double) (t' := .double) (by decide) (by decide)))
  have F84 := F72.other W80 (Or.inr (slot_ne (Or.inr (Own.wd hw 44 rfl)) (Or.inr (Own.wd hw 40 rfl)) (by decide) (t := .double) (t' := .double) (by decide) (by decide)))
  have F85 := F73.other W80 (Or.inr (slot_ne (Or.inr (Own.wd hw 28 rfl)) (Or.inr (Own.wd hw 40 rfl)) (by decide) (t := .double) (t' := .double) (by decide) (by decide)))
  have F86 := F74.other W80 (Or.inr (slot_ne (Or.inr (Own.wd hw 30 rfl)) (Or.inr (Own.wd hw 40 rfl)) (by decide) (t := .double) (t' := .double) (by decide) (by decide)))
  have F87 := F75.other W80 (Or.inr (slot_ne (Or.inr (Own.wd hw 32 rfl)) (Or.inr (Own.wd hw 40 rfl)) (by decide) (t := .double) (t' := .double) (by decide) (by decide)))
  have F88 := F76.other W80 (Or.inr (slot_ne (Or.inr (Own.wd hw 34 rfl)) (Or.inr (Own.wd hw 40 rfl)) (by decide) (t := .double) (t' := .double) (by decide) (by decide)))
  have F89 := F77.other W80 (Or.inr (slot_ne (Or.inr (Own.wd hw 36 rfl)) (Or.inr (Own.wd hw 40 rfl)) (by decide) (t := .double) (t' := .double) (by decide) (by decide)))
  have F90 := F78.other W80 (Or.inr (slot_ne (Or.inr (Own.wd hw 38 rfl)) (Or.inr (Own.wd hw 40 rfl)) (by decide) (t := .double) (t' := .double) (by decide) (by decide)))
  have F91 : Fld Z h80 a "com/example/swivel/swivel/Matrix3" "m31" "D" (.double p7) := Fld.same W80 F70
  have Z92 : n0 ≤ h80.size := by rw [W80.size]; exact Z79
  refine Own.aloadN X80 d5_45 rfl rfl ?_
  refine Own.dload X80 d5_46 rfl ?_
  refine Own.putF_ X80 d5_48 (host := "") (Or.inl (Own.wd hw 41 rfl)) Via.refl F83 F81 (Or.inr ⟨(Own.wd hw 42 rfl), rfl, rfl⟩) (Own.wd hw 1 rfl) (ty := .double) (by decide) rfl rfl ga fun T93 h93 X93 W93 => ?_
  have F94 := F81.wr W93
  have F95 := F82.wr W93 (Or.inl (List.mem_of_getElem? (i := 0) rfl))
  have F96 := F84.other W93 (Or.inr (slot_ne (Or.inr (Own.wd hw 44 rfl)) (Or.inr (Own.wd hw 42 rfl)) (by decide) (t := .double) (t' := .double) (by decide) (by decide)))
  have F97 := F85.other W93 (Or.inr (slot_ne (Or.inr (Own.wd hw 28 rfl)) (Or.inr (Own.wd hw 42 rfl)) (by decide) (t := .double) (t' := .double) (by decide) (by decide)))
  have F98 := F86.other W93 (Or.inr (slot_ne (Or.inr (Own.wd hw 30 rfl)) (Or.inr (Own.wd hw 42 rfl)) (by decide) (t := .double) (t' := .double) (by decide) (by decide)))
  have F99 := F87.other W93 (Or.inr (slot_ne (Or.inr (Own.wd hw 32 rfl)) (Or.inr (Own.wd hw 42 rfl)) (by decide) (t := .double) (t' := .double) (by decide) (by decide)))
  have F100 := F88.other W93 (Or.inr (slot_ne (Or.inr (Own.wd hw 34 rfl)) (Or.inr (Own.wd hw 42 rfl)) (by decide) (t := .double) (t' := .double) (by decide) (by decide)))
  have F101 := F89.other W93 (Or.inr (slot_ne (Or.inr (Own.wd hw 36 rfl)) (Or.inr (Own.wd hw 42 rfl)) (by decide) (t := .double) (t' := .double) (by decide) (by decide)))
  have F102 := F90.other W93 (Or.inr (slot_ne (Or.inr (Own.wd hw 38 rfl)) (Or.inr (Own.wd hw 42 rfl)) (by decide) (t := .double) (t' := .double) (by decide) (by decide)))
  have F103 := F91.other W93 (Or.inr (slot_ne (Or.inr (Own.wd hw 40 rfl)) (Or.inr (Own.wd hw 42 rfl)) (by decide) (t := .double) (t' := .double) (by decide) (by decide)))
  have F104 : Fld Z h93 a "com/example/swivel/swivel/Matrix3" "m32" "D" (.double p8) := Fld.same W93 F83
  have Z105 : n0 ≤ h93.size := by rw [W93.size]; exact Z92
  refine Own.aloadN X93 d5_51 rfl rfl ?_
  refine Own.dload X93 d5_52 rfl ?_
  refine Own.putF_ X93 d5_54 (host := "") (Or.inl (Own.wd hw 43 rfl)) Via.refl F96 F94 (Or.inr ⟨(Own.wd hw 44 rfl), rfl, rfl⟩) (Own.wd hw 1 rfl) (ty := .double) (by decide) rfl rfl ga fun T106 h106 X106 W106 => ?_
  have F107 := F94.wr W106
  have F108 := F95.wr W106 (Or.inl (List.mem_of_getElem? (i := 0) rfl))
  have F109 := F97.other W106 (Or.inr (slot_ne (Or.inr (Own.wd hw 28 rfl)) (Or.inr (Own.wd hw 44 rfl)) (by decide) (t := .double) (t' := .double) (by decide) (by decide)))
  have F110 := F98.other W106 (Or.inr (slot_ne (Or.inr (Own.wd hw 30 rfl)) (Or.inr (Own.wd hw 44 rfl)) (by decide) (t := .double) (t' := .double) (by decide) (by decide)))
  have F111 := F99.other W106 (Or.inr (slot_ne (Or.inr (Own.wd hw 32 rfl)) (Or.inr (Own.wd hw 44 rfl)) (by decide) (t := .double) (t' := .double) (by decide) (by decide)))
  have F112 := F100.other W106 (Or.inr (slot_ne (Or.inr (Own.wd hw 34 rfl)) (Or.inr (Own.wd hw 44 rfl)) (by decide) (t := .double) (t' := .double) (by decide) (by decide)))
  have F113 := F101.other W106 (Or.inr (slot_ne (Or.inr (Own.wd hw 36 rfl)) (Or.inr (Own.wd hw 44 rfl)) (by decide) (t := .double) (t' := .double) (by decide) (by decide)))
  have F114 := F102.other W106 (Or.inr (slot_ne (Or.inr (Own.wd hw 38 rfl)) (Or.inr (Own.wd hw 44 rfl)) (by decide) (t := .double) (t' := .double) (by decide) (by decide)))
  have F115 := F103.other W106 (Or.inr (slot_ne (Or.inr (Own.wd hw 40 rfl)) (Or.inr (Own.wd hw 44 rfl)) (by decide) (t := .double) (t' := .double) (by decide) (by decide)))
  have F116 := F104.other W106 (Or.inr (slot_ne (Or.inr (Own.wd hw 42 rfl)) (Or.inr (Own.wd hw 44 rfl)) (by decide) (t := .double) (t' := .double) (by decide) (by decide)))
  have F117 : Fld Z h106 a "com/example/swivel/swivel/Matrix3" "m33" "D" (.double p9) := Fld.same W106 F96
  have Z118 : n0 ≤ h106.size := by rw [W106.size]; exact Z105
  exact Own.retV X106 d5_57 ⟨rfl, F108, F109, F110, F111, F112, F113, F114, F115, F116, F117⟩ (by decide) (by decide)
theorem ef_1 (m : MethodId) (x0 : Addr) (x1 : UInt64) (x2 : UInt64) (x3 : UInt64) (x4 : UInt64) (x5 : UInt64) (x6 : UInt64) (x7 : UInt64) (x8 : UInt64) (x9 : UInt64) : entryFrame m #[.ref x0, .double x1, .double x2, .double x3, .double x4, .double x5, .double x6, .double x7, .double x8, .double x9] 19 = mkF m 0 #[.val (.ref x0), .val (.double x1), .second, .val (.double x2), .second, .val (.double x3), .second, .val (.double x4), .second, .val (.double x5), .second, .val (.double x6), .second, .val (.double x7), .second, .val (.double x8), .second, .val (.double x9), .second] [] := by first | (simp [entryFrame, mkF, argsToLocals, Value.category, maxLocals]; done) | rfl
set_option maxRecDepth 65536 in
set_option maxHeartbeats 40000000 in
theorem rm1 (l : Launch) (Z : State) (a0 : Array Value) (hw : ∀ d ∈ tables_1, d.before a0 Z = true) (a : Addr) (p1 : UInt64) (p2 : UInt64) (p3 : UInt64) (p4 : UInt64) (p5 : UInt64) (p6 : UInt64) (p7 : UInt64) (p8 : UInt64) (p9 : UInt64) (fe : Addr) (h0 : Heap) (n0 : Nat) (Z0 : n0 ≤ h0.size) (ga : n0 ≤ a) (Ea : Exa Z h0 a "com/example/swivel/swivel/Matrix3") (F0_m11 : Fld Z h0 a "com/example/swivel/swivel/Matrix3" "m11" "D" (.double 0)) (F0_m12 : Fld Z h0 a "com/example/swivel/swivel/Matrix3" "m12" "D" (.double 0)) (F0_m13 : Fld Z h0 a "com/example/swivel/swivel/Matrix3" "m13" "D" (.double 0)) (F0_m21 : Fld Z h0 a "com/example/swivel/swivel/Matrix3" "m21" "D" (.double 0)) (F0_m22 : Fld Z h0 a "com/example/swivel/swivel/Matrix3" "m22" "D" (.double 0)) (F0_m23 : Fld Z h0 a "com/example/swivel/swivel/Matrix3" "m23" "D" (.double 0)) (F0_m31 : Fld Z h0 a "com/example/swivel/swivel/Matrix3" "m31" "D" (.double 0)) (F0_m32 : Fld Z h0 a "com/example/swivel/swivel/Matrix3" "m32" "D" (.double 0)) (F0_m33 : Fld Z h0 a "com/example/swivel/swivel/Matrix3" "m33" "D" (.double 0)) (B_p1 : Own.Bd p1 8589934592) (B_p2 : Own.Bd p2 8589934592) (B_p3 : Own.Bd p3 8589934592) (B_p4 : Own.Bd p4 8589934592) (B_p5 : Own.Bd p5 8589934592) (B_p6 : Own.Bd p6 8589934592) (B_p7 : Own.Bd p7 8589934592) (B_p8 : Own.Bd p8 8589934592) (B_p9 : Own.Bd p9 8589934592) (S_F : Sta Z h0 "com/example/swivel/swivel/Matrix3$Entries" "FINITE" "Lcom/example/swivel/swivel/Matrix3$Entries;" (.ref fe)) :
    Own.Con l Z mn_7 [] prog_6_method_1_code 19 none ({ frames := 3, cells := 0, slots := 0, locals := 56 } : Room) #[.ref a, .double p1, .double p2, .double p3, .double p4, .double p5, .double p6, .double p7, .double p8, .double p9] h0 n0 (fun v h => v = none ∧ Keep h0 h [a] ∧ Fld Z h a "com/example/swivel/swivel/Matrix3" "m11" "D" (.double p1) ∧ Fld Z h a "com/example/swivel/swivel/Matrix3" "m12" "D" (.double p2) ∧ Fld Z h a "com/example/swivel/swivel/Matrix3" "m13" "D" (.double p3) ∧ Fld Z h a "com/example/swivel/swivel/Matrix3" "m21" "D" (.double p4) ∧ Fld Z h a "com/example/swivel/swivel/Matrix3" "m22" "D" (.double p5) ∧ Fld Z h a "com/example/swivel/swivel/Matrix3" "m23" "D" (.double p6) ∧ Fld Z h a "com/example/swivel/swivel/Matrix3" "m31" "D" (.double p7) ∧ Fld Z h a "com/example/swivel/swivel/Matrix3" "m32" "D" (.double p8) ∧ Fld Z h a "com/example/swivel/swivel/Matrix3" "m33" "D" (.double p9)) := by
  refine Own.enter (own := "com/example/swivel/swivel/Matrix3") (nm := "<init>") (plainFor_of_name pn_com_example_swivel_swivel_Matrix3) rfl rfl (fun m => ef_1 m a p1 p2 p3 p4 p5 p6 p7 p8 p9) fun p e s m below meth c T X => ?_
  refine Own.aloadN X d1_0 rfl rfl ?_
  refine Own.dloadN X d1_1 rfl ?_
  refine Own.dloadN X d1_2 rfl ?_
  refine Own.dload X d1_3 rfl ?_
  refine Own.dload X d1_5 rfl ?_
  refine Own.dload X d1_7 rfl ?_
  refine Own.dload X d1_9 rfl ?_
  refine Own.dload X d1_11 rfl ?_
  refine Own.dload X d1_13 rfl ?_
  refine Own.dload X d1_15 rfl ?_
  refine Own.callS_ (y := mn_3) X d1_17 (Own.wd hw 6 rfl) (Own.wd hw 7 rfl) (Own.wd hw 2 rfl) (Own.wd hw 8 rfl) (by decide) (rm2 l Z a0 hw p1 p2 p3 p4 p5 p6 p7 p8 p9 fe h0 n0 Z0  B_p1 B_p2 B_p3 B_p4 B_p5 B_p6 B_p7 B_p8 B_p9 S_F) (lenOf pd_5 rfl) rfl (argsL := [.double p1, .double p2, .double p3, .double p4, .double p5, .double p6, .double p7, .double p8, .double p9]) (rest := [.ref a]) rfl (W := 1) (Nat.le_of_eq rfl) (by decide) (by decide) (by decide) (by decide) fun T1 h1 v1 X1 q1 => ?_
  obtain ⟨rfl, rfl⟩ := q1
  show Own.Go p e below s n0 _ _ _ (T1.setTop (mkF m 20 _ [.ref fe, .ref a]))
  refine Own.dloadN X1 d1_20 rfl ?_
  refine Own.dloadN X1 d1_21 rfl ?_
  refine Own.dload X1 d1_22 rfl ?_
  refine Own.dload X1 d1_24 rfl ?_
  refine Own.dload X1 d1_26 rfl ?_
  refine Own.dload X1 d1_28 rfl ?_
  refine Own.dload X1 d1_30 rfl ?_
  refine Own.dload X1 d1_32 rfl ?_
  refine Own.dload X1 d1_34 rfl ?_
  refine Own.callI_ (y := mn_4) (a := a) X1 d1_36 rfl (Own.wd hw 21 rfl) (Own.wd hw 22 rfl) (Own.wd hw 2 rfl) (Own.wd hw 23 rfl) (by decide) (rm5 l Z a0 hw a fe p1 p2 p3 p4 p5 p6 p7 p8 p9 h0 n0 Z0 ga Ea F0_m11 F0_m12 F0_m13 F0_m21 F0_m22 F0_m23 F0_m31 F0_m32 F0_m33) (lenOf pd_6 rfl) rfl (argsL := [.ref fe, .double p1, .double p2, .double p3, .double p4, .double p5, .double p6, .double p7, .double p8, .double p9]) (rest := []) rfl (W := 0) (Nat.le_of_eq rfl) (by decide) (by decide) (by decide) (by decide) fun T2 h2 v2 X2 q2 => ?_
  obtain ⟨rfl, K2, G2_0, G2_1, G2_2, G2_3, G2_4, G2_5, G2_6, G2_7, G2_8⟩ := q2
  have F3 := Ea.keep K2
  have F4 := (Keep.refl h0 [a]).trans K2 (allS (Or.inl (List.mem_of_getElem? (i := 0) rfl)) all0)
  have Z5 : n0 ≤ h2.size := Nat.le_trans Z0 K2.1
  show Own.Go p e below s n0 _ _ _ (T2.setTop (mkF m 39 _ []))
  exact Own.retV X2 d1_39 ⟨rfl, F4, G2_0, G2_1, G2_2, G2_3, G2_4, G2_5, G2_6, G2_7, G2_8⟩ (by decide) (by decide)
theorem ef_7 (m : MethodId) (x0 : Addr) : entryFrame m #[.ref x0] 1 = mkF m 0 #[.val (.ref x0)] [] := by first | (simp [entryFrame, mkF, argsToLocals, Value.category, maxLocals]; done) | rfl
set_option maxRecDepth 65536 in
set_option maxHeartbeats 40000000 in
theorem rm7 (l : Launch) (Z : State) (a0 : Array Value) (hw : ∀ d ∈ tables_1, d.before a0 Z = true) (a : Addr) (u11 : UInt64) (u12 : UInt64) (u13 : UInt64) (u21 : UInt64) (u22 : UInt64) (u23 : UInt64) (u31 : UInt64) (u32 : UInt64) (u33 : UInt64) (h0 : Heap) (n0 : Nat) (Z0 : n0 ≤ h0.size) (F_m11 : Fld Z h0 a "com/example/swivel/swivel/Matrix3" "m11" "D" (.double u11)) (F_m12 : Fld Z h0 a "com/example/swivel/swivel/Matrix3" "m12" "D" (.double u12)) (F_m13 : Fld Z h0 a "com/example/swivel/swivel/Matrix3" "m13" "D" (.double u13)) (F_m21 : Fld Z h0 a "com/example/swivel/swivel/Matrix3" "m21" "D" (.double u21)) (F_m22 : Fld Z h0 a "com/example/swivel/swivel/Matrix3" "m22" "D" (.double u22)) (F_m23 : Fld Z h0 a "com/example/swivel/swivel/Matrix3" "m23" "D" (.double u23)) (F_m31 : Fld Z h0 a "com/example/swivel/swivel/Matrix3" "m31" "D" (.double u31)) (F_m32 : Fld Z h0 a "com/example/swivel/swivel/Matrix3" "m32" "D" (.double u32)) (F_m33 : Fld Z h0 a "com/example/swivel/swivel/Matrix3" "m33" "D" (.double u33)) :
    Own.Con l Z mn_8 [] prog_6_method_15_code 1 (some (.array (.array .double))) ({ frames := 0, cells := 5, slots := 20, locals := 0 } : Room) #[.ref a] h0 n0 (fun v h => ∃ (ro rw0 rw1 rw2 rw3 : Addr) (k_ro k_rw0 k_rw1 k_rw2 k_rw3 : ClassId), v = some (.ref ro) ∧ h0.size ≤ ro ∧ h0.size ≤ rw0 ∧ h0.size ≤ rw1 ∧ h0.size ≤ rw2 ∧ h0.size ≤ rw3 ∧ ro ≠ rw0 ∧ ro ≠ rw1 ∧ ro ≠ rw2 ∧ ro ≠ rw3 ∧ rw0 ≠ rw1 ∧ rw0 ≠ rw2 ∧ rw0 ≠ rw3 ∧ rw1 ≠ rw2 ∧ rw1 ≠ rw3 ∧ rw2 ≠ rw3 ∧ Keep h0 h [] ∧ Arv Z h ro k_ro (.array .double) (4 : Int32) [.ref rw0, .ref rw1, .ref rw2, .ref rw3] (.null) ∧ Arv Z h rw0 k_rw0 .double (4 : Int32) [.double u11, .double u12, .double u13, .double 0] (.double 0) ∧ Arv Z h rw1 k_rw1 .double (4 : Int32) [.double u21, .double u22, .double u23, .double 0] (.double 0) ∧ Arv Z h rw2 k_rw2 .double (4 : Int32) [.double u31, .double u32, .double u33, .double 0] (.double 0) ∧ Arv Z h rw3 k_rw3 .double (4 : Int32) [.double 0, .double 0, .double 0, .double 4607182418800017408] (.double 0)) := by
  refine Own.enter (own := "com/example/swivel/swivel/Matrix3") (nm := "homogeneousRows") (plainFor_of_name pn_com_example_swivel_swivel_Matrix3) rfl rfl (fun m => ef_7 m a) fun p e s m below meth c T X => ?_
  refine Own.iconst X (v := 4) d7_0 rfl ?_
  refine Own.newRA_ (ty := .double) X (cap := 4) (ad := "[[D") d7_1 (by decide) (by decide) (Own.wd hw 50 rfl) (Own.wd hw 51 rfl) (by decide) (by decide) (by decide) (by decide) (by decide) fun T1 h1 ro k_ro g_ro X1 E1 V1 A1 O1 => ?_
  have ne2 : a ≠ ro := Nat.ne_of_lt (Nat.lt_of_lt_of_le F_m11.lt (Nat.le_of_eq g_ro.symm))
  have fr3 : n0 ≤ ro := Nat.le_trans Z0 (Nat.le_of_eq g_ro.symm)
  have bn4 : h0.size ≤ ro := Nat.le_trans (Keep.refl h0 []).1 (Nat.le_of_eq g_ro.symm)
  have F5 := F_m11.ext E1
  have F6 := F_m12.ext E1
  have F7 := F_m13.ext E1
  have F8 := F_m21.ext E1
  have F9 := F_m22.ext E1
  have F10 := F_m23.ext E1
  have F11 := F_m31.ext E1
  have F12 := F_m32.ext E1
  have F13 := F_m33.ext E1
  have F14 := (Keep.refl h0 []).ext E1
  have Z15 : n0 ≤ h1.size := Nat.le_trans Z0 E1.1
  have V16 : Arv Z h1 ro k_ro (.array .double) (4 : Int32) [.null, .null, .null, .null] (.null) := V1.pad (pad_rep [] .null 4)
  refine Own.dup X1 d7_4 rfl ?_
  refine Own.iconst X1 (v := 0) d7_5 rfl ?_
  refine Own.iconst X1 (v := 4) d7_6 rfl ?_
  refine Own.newP_ X1 (cap := 4) (ty := .double) (dv := .double 0) (ad := "[D") d7_7 rfl rfl (by decide) (Own.wd hw 52 rfl) (by decide) (by decide) (by decide) (by decide) (by decide) fun T17 h17 rw0 k_rw0 g_rw0 X17 E17 V17 A17 => ?_
  have ne18 : a ≠ rw0 := Nat.ne_of_lt (Nat.lt_of_lt_of_le F5.lt (Nat.le_of_eq g_rw0.symm))
  have ne19 : ro ≠ rw0 := Nat.ne_of_lt (Nat.lt_of_lt_of_le A1.lt (Nat.le_of_eq g_rw0.symm))
  have fr20 : n0 ≤ rw0 := Nat.le_trans Z15 (Nat.le_of_eq g_rw0.symm)
  have bn21 : h0.size ≤ rw0 := Nat.le_trans F14.1 (Nat.le_of_eq g_rw0.symm)
  have F22 := F5.ext E17
  have F23 := F6.ext E17
  have F24 := F7.ext E17
  have F25 := F8.ext E17
  have F26 := F9.ext E17
  have F27 := F10.ext E17
  have F28 := F11.ext E17
  have F29 := F12.ext E17
  have F30 := F13.ext E17
  have F31 := F14.ext E17
  have F32 := A1.ext E17
  have F33 := V16.ext E17
  have Z34 : n0 ≤ h17.size := Nat.le_trans Z15 E17.1
  have V35 : Arv Z h17 rw0 k_rw0 .double (4 : Int32) [.double 0, .double 0, .double 0, .double 0] (.double 0) := V17.pad (pad_rep [] (.double 0) 4)
  refine Own.dup X17 d7_9 rfl ?_
  refine Own.iconst X17 (v := 0) d7_10 rfl ?_
  refine Own.aloadN X17 d7_11 rfl rfl ?_
  refine Own.getF_ X17 d7_12 (host := "") (Or.inl (Own.wd hw 27 rfl)) Via.refl F22 fun T36 X36 => ?_
  refine Own.dastore_ X36 (i := 0) d7_15 V35 (by decide) rfl (Nat.le_of_ble_eq_true rfl) fr20 fun T37 h37 X37 W37 V37 => ?_
  have F38 := F22.other W37 (Or.inl ne18)
  have F39 := F23.other W37 (Or.inl ne18)
  have F40 := F24.other W37 (Or.inl ne18)
  have F41 := F25.other W37 (Or.inl ne18)
  have F42 := F26.other W37 (Or.inl ne18)
  have F43 := F27.other W37 (Or.inl ne18)
  have F44 := F28.other W37 (Or.inl ne18)
  have F45 := F29.other W37 (Or.inl ne18)
  have F46 := F30.other W37 (Or.inl ne18)
  have F47 := F31.wr W37 (Or.inr bn21)
  have F48 := F32.wr W37
  have F49 := F33.other W37 ne19
  have F50 := A17.wr W37
  have Z51 : n0 ≤ h37.size := by rw [W37.size]; exact Z34
  have V52 : Arv Z h37 rw0 k_rw0 .double (4 : Int32) [.double u11, .double 0, .double 0, .double 0] (.double 0) := V37
  refine Own.dup X37 d7_16 rfl ?_
  refine Own.iconst X37 (v := 1) d7_17 rfl ?_
  refine Own.aloadN X37 d7_18 rfl rfl ?_
  refine Own.getF_ X37 d7_19 (host := "") (Or.inl (Own.wd hw 29 rfl)) Via.refl F39 fun T53 X53 => ?_
  refine Own.dastore_ X53 (i := 1) d7_22 V52 (by decide) rfl (Nat.le_of_ble_eq_true rfl) fr20 fun T54 h54 X54 W54 V54 => ?_
  have F55 := F38.other W54 (Or.inl ne18)
  have F56 := F39.other W54 (Or.inl ne18)
  have F57 := F40.other W54 (Or.inl ne18)
  have F58 := F41.other W54 (Or.inl ne18)
  have F59 := F42.other W54 (Or.inl ne18)
  have F60 := F43.other W54 (Or.inl ne18)
  have F61 := F44.other W54 (Or.inl ne18)
  have F62 := F45.other W54 (Or.inl ne18)
  have F63 := F46.other W54 (Or.inl ne18)
  have F64 := F47.wr W54 (Or.inr bn21)
  have F65 := F48.wr W54
  have F66 := F49.other W54 ne19
  have F67 := F50.wr W54
  have Z68 : n0 ≤ h54.size := by rw [W54.size]; exact Z51
  have V69 : Arv Z h54 rw0 k_rw0 .double (4 : Int32) [.double u11, .double u12, .double 0, .double 0] (.double 0) := V54
  refine Own.dup X54 d7_23 rfl ?_
  refine Own.iconst X54 (v := 2) d7_24 rfl ?_
  refine Own.aloadN X54 d7_25 rfl rfl ?_
  refine Own.getF_ X54 d7_26 (host := "") (Or.inl (Own.wd hw 31 rfl)) Via.refl F57 fun T70 X70 => ?_
  refine Own.dastore_ X70 (i := 2) d7_29 V69 (by decide) rfl (Nat.le_of_ble_eq_true rfl) fr20 fun T71 h71 X71 W71 V71 => ?_
  have F72 := F55.other W71 (Or.inl ne18)
  have F73 := F56.other W71 (Or.inl ne18)
  have F74 := F57.other W71 (Or.inl ne18)
  have F75 := F58.other W71 (Or.inl ne18)
  have F76 := F59.other W71 (Or.inl ne18)
  have F77 := F60.other W71 (Or.inl ne18)
  have F78 := F61.other W71 (Or.inl ne18)
  have F79 := F62.other W71 (Or.inl ne18)
  have F80 := F63.other W71 (Or.inl ne18)
  have F81 := F64.wr W71 (Or.inr bn21)
  have F82 := F65.wr W71
  have F83 := F66.other W71 ne19
  have F84 := F67.wr W71
  have Z85 : n0 ≤ h71.size := by rw [W71.size]; exact Z68
  have V86 : Arv Z h71 rw0 k_rw0 .double (4 : Int32) [.double u11, .double u12, .double u13, .double 0] (.double 0) := V71
  refine Own.dup X71 d7_30 rfl ?_
  refine Own.iconst X71 (v := 3) d7_31 rfl ?_
  refine Own.dconst0 X71 d7_32 ?_
  refine Own.dastore_ X71 (i := 3) d7_33 V86 (by decide) rfl (Nat.le_of_ble_eq_true rfl) fr20 fun T87 h87 X87 W87 V87 => ?_
  have F88 := F72.other W87 (Or.inl ne18)
  have F89 := F73.other W87 (Or.inl ne18)
  have F90 := F74.other W87 (Or.inl ne18)
  have F91 := F75.other W87 (Or.inl ne18)
  have F92 := F76.other W87 (Or.inl ne18)
  have F93 := F77.other W87 (Or.inl ne18)
  have F94 := F78.other W87 (Or.inl ne18)
  have F95 := F79.other W87 (Or.inl ne18)
  have F96 := F80.other W87 (Or.inl ne18)
  have F97 := F81.wr W87 (Or.inr bn21)
  have F98 := F82.wr W87
  have F99 := F83.other W87 ne19
  have F100 := F84.wr W87
  have Z101 : n0 ≤ h87.size := by rw [W87.size]; exact Z85
  have V102 : Arv Z h87 rw0 k_rw0 .double (4 : Int32) [.double u11, .double u12, .double u13, .double 0] (.double 0) := V87
  refine Own.aastore_ X87 (i := 0) d7_34 F99 rfl (by decide) rfl (Nat.le_of_ble_eq_true rfl) fr3 rfl (fun cl A' q' => Sto.ofVA A' q' O1 (Ins.self F100)) fun T103 h103 X103 W103 V103 => ?_
  have F104 := F88.other W103 (Or.inl ne2)
  have F105 := F89.other W103 (Or.inl ne2)
  have F106 := F90.other W103 (Or.inl ne2)
  have F107 := F91.other W103 (Or.inl ne2)
  have F108 := F92.other W103 (Or.inl ne2)
  have F109 := F93.other W103 (Or.inl ne2)
  have F110 := F94.other W103 (Or.inl ne2)
  have F111 := F95.other W103 (Or.inl ne2)
  have F112 := F96.other W103 (Or.inl ne2)
  have F113 := F97.wr W103 (Or.inr bn4)
  have F114 := F98.wr W103
  have F115 := F100.wr W103
  have F116 := V102.other W103 (Ne.symm ne19)
  have Z117 : n0 ≤ h103.size := by rw [W103.size]; exact Z101
  have V118 : Arv Z h103 ro k_ro (.array .double) (4 : Int32) [.ref rw0, .null, .null, .null] (.null) := V103
  refine Own.dup X103 d7_35 rfl ?_
  refine Own.iconst X103 (v := 1) d7_36 rfl ?_
  refine Own.iconst X103 (v := 4) d7_37 rfl ?_
  refine Own.newP_ X103 (cap := 4) (ty := .double) (dv := .double 0) (ad := "[D") d7_38 rfl rfl (by decide) (Own.wd hw 52 rfl) (by decide) (by decide) (by decide) (by decide) (by decide) fun T119 h119 rw1 k_rw1 g_rw1 X119 E119 V119 A119 => ?_
  have ne120 : a ≠ rw1 := Nat.ne_of_lt (Nat.lt_of_lt_of_le F104.lt (Nat.le_of_eq g_rw1.symm))
  have ne121 : ro ≠ rw1 := Nat.ne_of_lt (Nat.lt_of_lt_of_le F114.lt (Nat.le_of_eq g_rw1.symm))
  have ne122 : rw0 ≠ rw1 := Nat.ne_of_lt (Nat.lt_of_lt_of_le F115.lt (Nat.le_of_eq g_rw1.symm))
  have fr123 : n0 ≤ rw1 := Nat.le_trans Z117 (Nat.le_of_eq g_rw1.symm)
  have bn124 : h0.size ≤ rw1 := Nat.le_trans F113.1 (Nat.le_of_eq g_rw1.symm)
  have F125 := F104.ext E119
  have F126 := F105.ext E119
  have F127 := F106.ext E119
  have F128 := F107.ext E119
  have F129 := F108.ext E119
  have F130 := F109.ext E119
  have F131 := F110.ext E119
  have F132 := F111.ext E119
  have F133 := F112.ext E119
  have F134 := F113.ext E119
  have F135 := F114.ext E119
  have F136 := F115.ext E119
  have F137 := F116.ext E119
  have F138 := V118.ext E119
  have Z139 : n0 ≤ h119.size := Nat.le_trans Z117 E119.1
  have V140 : Arv Z h119 rw1 k_rw1 .double (4 : Int32) [.double 0, .double 0, .double 0, .double 0] (.double 0) := V119.pad (pad_rep [] (.double 0) 4)
  refine Own.dup X119 d7_40 rfl ?_
  refine Own.iconst X119 (v := 0) d7_41 rfl ?_
  refine Own.aloadN X119 d7_42 rfl rfl ?_
  refine Own.getF_ X119 d7_43 (host := "") (Or.inl (Own.wd hw 33 rfl)) Via.refl F128 fun T141 X141 => ?_
  refine Own.dastore_ X141 (i := 0) d7_46 V140 (by decide) rfl (Nat.le_of_ble_eq_true rfl) fr123 fun T142 h142 X142 W142 V142 => ?_
  have F143 := F125.other W142 (Or.inl ne120)
  have F144 := F126.other W142 (Or.inl ne120)
  have F145 := F127.other W142 (Or.inl ne120)
  have F146 := F128.other W142 (Or.inl ne120)
  have F147 := F129.other W142 (Or.inl ne120)
  have F148 := F130.other W142 (Or.inl ne120)
  have F149 := F131.other W142 (Or.inl ne120)
  have F150 := F132.other W142 (Or.inl ne120)
  have F151 := F133.other W142 (Or.inl ne120)
  have F152 := F134.wr W142 (Or.inr bn124)
  have F153 := F135.wr W142
  have F154 := F136.wr W142
  have F155 := F137.other W142 ne122
  have F156 := F138.other W142 ne121
  have F157 := A119.wr W142
  have Z158 : n0 ≤ h142.size := by rw [W142.size]; exact Z139
  have V159 : Arv Z h142 rw1 k_rw1 .double (4 : Int32) [.double u21, .double 0, .double 0, .double 0] (.double 0) := V142
  refine Own.dup X142 d7_47 rfl ?_
  refine Own.iconst X142 (v := 1) d7_48 rfl ?_
  refine Own.aloadN X142 d7_49 rfl rfl ?_
  refine Own.getF_ X142 d7_50 (host := "") (Or.inl (Own.wd hw 35 rfl)) Via.refl F147 fun T160 X160 => ?_
  refine Own.dastore_ X160 (i := 1) d7_53 V159 (by decide) rfl (Nat.le_of_ble_eq_true rfl) fr123 fun T161 h161 X161 W161 V161 => ?_
  have F162 := F143.other W161 (Or.inl ne120)
  have F163 := F144.other W161 (Or.inl ne120)
  have F164 := F145.other W161 (Or.inl ne120)
  have F165 := F146.other W161 (Or.inl ne120)
  have F166 := F147.other W161 (Or.inl ne120)
  have F167 := F148.other W161 (Or.inl ne120)
  have F168 := F149.other W161 (Or.inl ne120)
  have F169 := F150.other W161 (Or.inl ne120)
  have F170 := F151.other W161 (Or.inl ne120)
  have F171 := F152.wr W161 (Or.inr bn124)
  have F172 := F153.wr W161
  have F173 := F154.wr W161
  have F174 := F155.other W161 ne122
  have F175 := F156.other W161 ne121
  have F176 := F157.wr W161
  have Z177 : n0 ≤ h161.size := by rw [W161.size]; exact Z158
  have V178 : Arv Z h161 rw1 k_rw1 .double (4 : Int32) [.double u21, .double u22, .double 0, .double 0] (.double 0) := V161
  refine Own.dup X161 d7_54 rfl ?_
  refine Own.iconst X161 (v := 2) d7_55 rfl ?_
  refine Own.aloadN X161 d7_56 rfl rfl ?_
  refine Own.getF_ X161 d7_57 (host := "") (Or.inl (Own.wd hw 37 rfl)) Via.refl F167 fun T179 X179 => ?_
  refine Own.dastore_ X179 (i := 2) d7_60 V178 (by decide) rfl (Nat.le_of_ble_eq_true rfl) fr123 fun T180 h180 X180 W180 V180 => ?_
  have F181 := F162.other W180 (Or.inl ne120)
  have F182 := F163.other W180 (Or.inl ne120)
  have F183 := F164.other W180 (Or.inl ne120)
  have F184 := F165.other W180 (Or.inl ne120)
  have F185 := F166.other W180 (Or.inl ne120)
  have F186 := F167.other W180 (Or.inl ne120)
  have F187 := F168.other W180 (Or.inl ne120)
  have F188 := F169.other W180 (Or.inl ne120)
  have F189 := F170.other W180 (Or.inl ne120)
  have F190 := F171.wr W180 (Or.inr bn124)
  have F191 := F172.wr W180
  have F192 := F173.wr W180
  have F193 := F174.other W180 ne122
  have F194 := F175.other W180 ne121
  have F195 := F176.wr W180
  have Z196 : n0 ≤ h180.size := by rw [W180.size]; exact Z177
  have V197 : Arv Z h180 rw1 k_rw1 .double (4 : Int32) [.double u21, .double u22, .double u23, .double 0] (.double 0) := V180
  refine Own.dup X180 d7_61 rfl ?_
  refine Own.iconst X180 (v := 3) d7_62 rfl ?_
  refine Own.dconst0 X180 d7_63 ?_
  refine Own.dastore_ X180 (i := 3) d7_64 V197 (by decide) rfl (Nat.le_of_ble_eq_true rfl) fr123 fun T198 h198 X198 W198 V198 => ?_
  have F199 := F181.other W198 (Or.inl ne120)
  have F200 := F182.other W198 (Or.inl ne120)
  have F201 := F183.other W198 (Or.inl ne120)
  have F202 := F184.other W198 (Or.inl ne120)
  have F203 := F185.other W198 (Or.inl ne120)
  have F204 := F186.other W198 (Or.inl ne120)
  have F205 := F187.other W198 (Or.inl ne120)
  have F206 := F188.other W198 (Or.inl ne120)
  have F207 := F189.other W198 (Or.inl ne120)
  have F208 := F190.wr W198 (Or.inr bn124)
  have F209 := F191.wr W198
  have F210 := F192.wr W198
  have F211 := F193.other W198 ne122
  have F212 := F194.other W198 ne121
  have F213 := F195.wr W198
  have Z214 : n0 ≤ h198.size := by rw [W198.size]; exact Z196
  have V215 : Arv Z h198 rw1 k_rw1 .double (4 : Int32) [.double u21, .double u22, .double u23, .double 0] (.double 0) := V198
  refine Own.aastore_ X198 (i := 1) d7_65 F212 rfl (by decide) rfl (Nat.le_of_ble_eq_true rfl) fr3 rfl (fun cl A' q' => Sto.ofVA A' q' O1 (Ins.self F213)) fun T216 h216 X216 W216 V216 => ?_
  have F217 := F199.other W216 (Or.inl ne2)
  have F218 := F200.other W216 (Or.inl ne2)
  have F219 := F201.other W216 (Or.inl ne2)
  have F220 := F202.other W216 (Or.inl ne2)
  have F221 := F203.other W216 (Or.inl ne2)
  have F222 := F204.other W216 (Or.inl ne2)
  have F223 := F205.other W216 (Or.inl ne2)
  have F224 := F206.other W216 (Or.inl ne2)
  have F225 := F207.other W216 (Or.inl ne2)
  have F226 := F208.wr W216 (Or.inr bn4)
  have F227 := F209.wr W216
  have F228 := F210.wr W216
  have F229 := F211.other W216 (Ne.symm ne19)
  have F230 := F213.wr W216
  have F231 := V215.other W216 (Ne.symm ne121)
  have Z232 : n0 ≤ h216.size := by rw [W216.size]; exact Z214
  have V233 : Arv Z h216 ro k_ro (.array .double) (4 : Int32) [.ref rw0, .ref rw1, .null, .null] (.null) := V216
  refine Own.dup X216 d7_66 rfl ?_
  refine Own.iconst X216 (v := 2) d7_67 rfl ?_
  refine Own.iconst X216 (v := 4) d7_68 rfl ?_
  refine Own.newP_ X216 (cap := 4) (ty := .double) (dv := .double 0) (ad := "[D") d7_69 rfl rfl (by decide) (Own.wd hw 52 rfl) (by decide) (by decide) (by decide) (by decide) (by decide) fun T234 h234 rw2 k_rw2 g_rw2 X234 E234 V234 A234 => ?_
  have ne235 : a ≠ rw2 := Nat.ne_of_lt (Nat.lt_of_lt_of_le F217.lt (Nat.le_of_eq g_rw2.symm))
  have ne236 : ro ≠ rw2 := Nat.ne_of_lt (Nat.lt_of_lt_of_le F227.lt (Nat.le_of_eq g_rw2.symm))
  have ne237 : rw0 ≠ rw2 := Nat.ne_of_lt (Nat.lt_of_lt_of_le F228.lt (Nat.le_of_eq g_rw2.symm))
  have ne238 : rw1 ≠ rw2 := Nat.ne_of_lt (Nat.lt_of_lt_of_le F230.lt (Nat.le_of_eq g_rw2.symm))
  have fr239 : n0 ≤ rw2 := Nat.le_trans Z232 (Nat.le_of_eq g_rw2.symm)
  have bn240 : h0.size ≤ rw2 := Nat.le_trans F226.1 (Nat.le_of_eq g_rw2.symm)
  have F241 := F217.ext E234
  have F242 := F218.ext E234
  have F243 := F219.ext E234
  have F244 := F220.ext E234
  have F245 := F221.ext E234
  have F246 := F222.ext E234
  have F247 := F223.ext E234
  have F248 := F224.ext E234
  have F249 := F225.ext E234
  have F250 := F226.ext E234
  have F251 := F227.ext E234
  have F252 := F228.ext E234
  have F253 := F229.ext E234
  have F254 := F230.ext E234
  have F255 := F231.ext E234
  have F256 := V233.ext E234
  have Z257 : n0 ≤ h234.size := Nat.le_trans Z232 E234.1
  have V258 : Arv Z h234 rw2 k_rw2 .double (4 : Int32) [.double 0, .double 0, .double 0, .double 0] (.double 0) := V234.pad (pad_rep [] (.double 0) 4)
  refine Own.dup X234 d7_71 rfl ?_
  refine Own.iconst X234 (v := 0) d7_72 rfl ?_
  refine Own.aloadN X234 d7_73 rfl rfl ?_
  refine Own.getF_ X234 d7_74 (host := "") (Or.inl (Own.wd hw 39 rfl)) Via.refl F247 fun T259 X259 => ?_
  refine Own.dastore_ X259 (i := 0) d7_77 V258 (by decide) rfl (Nat.le_of_ble_eq_true rfl) fr239 fun T260 h260 X260 W260 V260 => ?_
  have F261 := F241.other W260 (Or.inl ne235)
  have F262 := F242.other W260 (Or.inl ne235)
  have F263 := F243.other W260 (Or.inl ne235)
  have F264 := F244.other W260 (Or.inl ne235)
  have F265 := F245.other W260 (Or.inl ne235)
  have F266 := F246.other W260 (Or.inl ne235)
  have F267 := F247.other W260 (Or.inl ne235)
  have F268 := F248.other W260 (Or.inl ne235)
  have F269 := F249.other W260 (Or.inl ne235)
  have F270 := F250.wr W260 (Or.inr bn240)
  have F271 := F251.wr W260
  have F272 := F252.wr W260
  have F273 := F253.other W260 ne237
  have F274 := F254.wr W260
  have F275 := F255.other W260 ne238
  have F276 := F256.other W260 ne236
  have F277 := A234.wr W260
  have Z278 : n0 ≤ h260.size := by rw [W260.size]; exact Z257
  have V279 : Arv Z h260 rw2 k_rw2 .double (4 : Int32) [.double u31, .double 0, .double 0, .double 0] (.double 0) := V260
  refine Own.dup X260 d7_78 rfl ?_
  refine Own.iconst X260 (v := 1) d7_79 rfl ?_
  refine Own.aloadN X260 d7_80 rfl rfl ?_
  refine Own.getF_ X260 d7_81 (host := "") (Or.inl (Own.wd hw 41 rfl)) Via.refl F268 fun T280 X280 => ?_
  refine Own.dastore_ X280 (i := 1) d7_84 V279 (by decide) rfl (Nat.le_of_ble_eq_true rfl) fr239 fun T281 h281 X281 W281 V281 => ?_
  have F282 := F261.other W281 (Or.inl ne235)
  have F283 := F262.other W281 (Or.inl ne235)
  have F284 := F263.other W281 (Or.inl ne235)
  have F285 := F264.other W281 (Or.inl ne235)
  have F286 := F265.other W281 (Or.inl ne235)
  have F287 := F266.other W281 (Or.inl ne235)
  have F288 := F267.other W281 (Or.inl ne235)
  have F289 := F268.other W281 (Or.inl ne235)
  have F290 := F269.other W281 (Or.inl ne235)
  have F291 := F270.wr W281 (Or.inr bn240)
  have F292 := F271.wr W281
  have F293 := F272.wr W281
  have F294 := F273.other W281 ne237
  have F295 := F274.wr W281
  have F296 := F275.other W281 ne238
  have F297 := F276.other W281 ne236
  have F298 := F277.wr W281
  have Z299 : n0 ≤ h281.size := by rw [W281.size]; exact Z278
  have V300 : Arv Z h281 rw2 k_rw2 .double (4 : Int32) [.double u31, .double u32, .double 0, .double 0] (.double 0) := V281
  refine Own.dup X281 d7_85 rfl ?_
  refine Own.iconst X281 (v := 2) d7_86 rfl ?_
  refine Own.aloadN X281 d7_87 rfl rfl ?_
  refine Own.getF_ X281 d7_88 (host := "") (Or.inl (Own.wd hw 43 rfl)) Via.refl F290 fun T301 X301 => ?_
  refine Own.dastore_ X301 (i := 2) d7_91 V300 (by decide) rfl (Nat.le_of_ble_eq_true rfl) fr239 fun T302 h302 X302 W302 V302 => ?_
  have F303 := F282.other W302 (Or.inl ne235)
  have F304 := F283.other W302 (Or.inl ne235)
  have F305 := F284.other W302 (Or.inl ne235)
  have F306 := F285.other W302 (Or.inl ne235)
  have F307 := F286.other W302 (Or.inl ne235)
  have F308 := F287.other W302 (Or.inl ne235)
  have F309 := F288.other W302 (Or.inl ne235)
  have F310 := F289.other W302 (Or.inl ne235)
  have F311 := F290.other W302 (Or.inl ne235)
  have F312 := F291.wr W302 (Or.inr bn240)
  have F313 := F292.wr W302
  have F314 := F293.wr W302
  have F315 := F294.other W302 ne237
  have F316 := F295.wr W302
  have F317 := F296.other W302 ne238
  have F318 := F297.other W302 ne236
  have F319 := F298.wr W302
  have Z320 : n0 ≤ h302.size := by rw [W302.size]; exact Z299
  have V321 : Arv Z h302 rw2 k_rw2 .double (4 : Int32) [.double u31, .double u32, .double u33, .double 0] (.double 0) := V302
  refine Own.dup X302 d7_92 rfl ?_
  refine Own.iconst X302 (v := 3) d7_93 rfl ?_
  refine Own.dconst0 X302 d7_94 ?_
  refine Own.dastore_ X302 (i := 3) d7_95 V321 (by decide) rfl (Nat.le_of_ble_eq_true rfl) fr239 fun T322 h322 X322 W322 V322 => ?_
  have F323 := F303.other W322 (Or.inl ne235)
  have F324 := F304.other W322 (Or.inl ne235)
  have F325 := F305.other W322 (Or.inl ne235)
  have F326 := F306.other W322 (Or.inl ne235)
  have F327 := F307.other W322 (Or.inl ne235)
  have F328 := F308.other W322 (Or.inl ne235)
  have F329 := F309.other W322 (Or.inl ne235)
  have F330 := F310.other W322 (Or.inl ne235)
  have F331 := F311.other W322 (Or.inl ne235)
  have F332 := F312.wr W322 (Or.inr bn240)
  have F333 := F313.wr W322
  have F334 := F314.wr W322
  have F335 := F315.other W322 ne237
  have F336 := F316.wr W322
  have F337 := F317.other W322 ne238
  have F338 := F318.other W322 ne236
  have F339 := F319.wr W322
  have Z340 : n0 ≤ h322.size := by rw [W322.size]; exact Z320
  have V341 : Arv Z h322 rw2 k_rw2 .double (4 : Int32) [.double u31, .double u32, .double u33, .double 0] (.double 0) := V322
  refine Own.aastore_ X322 (i := 2) d7_96 F338 rfl (by decide) rfl (Nat.le_of_ble_eq_true rfl) fr3 rfl (fun cl A' q' => Sto.ofVA A' q' O1 (Ins.self F339)) fun T342 h342 X342 W342 V342 => ?_
  have F343 := F323.other W342 (Or.inl ne2)
  have F344 := F324.other W342 (Or.inl ne2)
  have F345 := F325.other W342 (Or.inl ne2)
  have F346 := F326.other W342 (Or.inl ne2)
  have F347 := F327.other W342 (Or.inl ne2)
  have F348 := F328.other W342 (Or.inl ne2)
  have F349 := F329.other W342 (Or.inl ne2)
  have F350 := F330.other W342 (Or.inl ne2)
  have F351 := F331.other W342 (Or.inl ne2)
  have F352 := F332.wr W342 (Or.inr bn4)
  have F353 := F333.wr W342
  have F354 := F334.wr W342
  have F355 := F335.other W342 (Ne.symm ne19)
  have F356 := F336.wr W342
  have F357 := F337.other W342 (Ne.symm ne121)
  have F358 := F339.wr W342
  have F359 := V341.other W342 (Ne.symm ne236)
  have Z360 : n0 ≤ h342.size := by rw [W342.size]; exact Z340
  have V361 : Arv Z h342 ro k_ro (.array .double) (4 : Int32) [.ref rw0, .ref rw1, .ref rw2, .null] (.null) := V342
  refine Own.dup X342 d7_97 rfl ?_
  refine Own.iconst X342 (v := 3) d7_98 rfl ?_
  refine Own.iconst X342 (v := 4) d7_99 rfl ?_
  refine Own.newP_ X342 (cap := 4) (ty := .double) (dv := .double 0) (ad := "[D") d7_100 rfl rfl (by decide) (Own.wd hw 52 rfl) (by decide) (by decide) (by decide) (by decide) (by decide) fun T362 h362 rw3 k_rw3 g_rw3 X362 E362 V362 A362 => ?_
  have ne363 : a ≠ rw3 := Nat.ne_of_lt (Nat.lt_of_lt_of_le F343.lt (Nat.le_of_eq g_rw3.symm))
  have ne364 : ro ≠ rw3 := Nat.ne_of_lt (Nat.lt_of_lt_of_le F353.lt (Nat.le_of_eq g_rw3.symm))
  have ne365 : rw0 ≠ rw3 := Nat.ne_of_lt (Nat.lt_of_lt_of_le F354.lt (Nat.le_of_eq g_rw3.symm))
  have ne366 : rw1 ≠ rw3 := Nat.ne_of_lt (Nat.lt_of_lt_of_le F356.lt (Nat.le_of_eq g_rw3.symm))
  have ne367 : rw2 ≠ rw3 := Nat.ne_of_lt (Nat.lt_of_lt_of_le F358.lt (Nat.le_of_eq g_rw3.symm))
  have fr368 : n0 ≤ rw3 := Nat.le_trans Z360 (Nat.le_of_eq g_rw3.symm)
  have bn369 : h0.size ≤ rw3 := Nat.le_trans F352.1 (Nat.le_of_eq g_rw3.symm)
  have F370 := F343.ext E362
  have F371 := F344.ext E362
  have F372 := F345.ext E362
  have F373 := F346.ext E362
  have F374 := F347.ext E362
  have F375 := F348.ext E362
  have F376 := F349.ext E362
  have F377 := F350.ext E362
  have F378 := F351.ext E362
  have F379 := F352.ext E362
  have F380 := F353.ext E362
  have F381 := F354.ext E362
  have F382 := F355.ext E362
  have F383 := F356.ext E362
  have F384 := F357.ext E362
  have F385 := F358.ext E362
  have F386 := F359.ext E362
  have F387 := V361.ext E362
  have Z388 : n0 ≤ h362.size := Nat.le_trans Z360 E362.1
  have V389 : Arv Z h362 rw3 k_rw3 .double (4 : Int32) [.double 0, .double 0, .double 0, .double 0] (.double 0) := V362.pad (pad_rep [] (.double 0) 4)
  refine Own.dup X362 d7_102 rfl ?_
  refine Own.iconst X362 (v := 0) d7_103 rfl ?_
  refine Own.dconst0 X362 d7_104 ?_
  refine Own.dastore_ X362 (i := 0) d7_105 V389 (by decide) rfl (Nat.le_of_ble_eq_true rfl) fr368 fun T390 h390 X390 W390 V390 => ?_
  have F391 := F370.other W390 (Or.inl ne363)
  have F392 := F371.other W390 (Or.inl ne363)
  have F393 := F372.other W390 (Or.inl ne363)
  have F394 := F373.other W390 (Or.inl ne363)
  have F395 := F374.other W390 (Or.inl ne363)
  have F396 := F375.other W390 (Or.inl ne363)
  have F397 := F376.other W390 (Or.inl ne363)
  have F398 := F377.other W390 (Or.inl ne363)
  have F399 := F378.other W390 (Or.inl ne363)
  have F400 := F379.wr W390 (Or.inr bn369)
  have F401 := F380.wr W390
  have F402 := F381.wr W390
  have F403 := F382.other W390 ne365
  have F404 := F383.wr W390
  have F405 := F384.other W390 ne366
  have F406 := F385.wr W390
  have F407 := F386.other W390 ne367
  have F408 := F387.other W390 ne364
  have F409 := A362.wr W390
  have Z410 : n0 ≤ h390.size := by rw [W390.size]; exact Z388
  have V411 : Arv Z h390 rw3 k_rw3 .double (4 : Int32) [.double 0, .double 0, .double 0, .double 0] (.double 0) := V390
  refine Own.dup X390 d7_106 rfl ?_
  refine Own.iconst X390 (v := 1) d7_107 rfl ?_
  refine Own.dconst0 X390 d7_108 ?_
  refine Own.dastore_ X390 (i := 1) d7_109 V411 (by decide) rfl (Nat.le_of_ble_eq_true rfl) fr368 fun T412 h412 X412 W412 V412 => ?_
  have F413 := F391.other W412 (Or.inl ne363)
  have F414 := F392.other W412 (Or.inl ne363)
  have F415 := F393.other W412 (Or.inl ne363)
  have F416 := F394.other W412 (Or.inl ne363)
  have F417 := F395.other W412 (Or.inl ne363)
  have F418 := F396.other W412 (Or.inl ne363)
  have F419 := F397.other W412 (Or.inl ne363)
  have F420 := F398.other W412 (Or.inl ne363)
  have F421 := F399.other W412 (Or.inl ne363)
  have F422 := F400.wr W412 (Or.inr bn369)
  have F423 := F401.wr W412
  have F424 := F402.wr W412
  have F425 := F403.other W412 ne365
  have F426 := F404.wr W412
  have F427 := F405.other W412 ne366
  have F428 := F406.wr W412
  have F429 := F407.other W412 ne367
  have F430 := F408.other W412 ne364
  have F431 := F409.wr W412
  have Z432 : n0 ≤ h412.size := by rw [W412.size]; exact Z410
  have V433 : Arv Z h412 rw3 k_rw3 .double (4 : Int32) [.double 0, .double 0, .double 0, .double 0] (.double 0) := V412
  refine Own.dup X412 d7_110 rfl ?_
  refine Own.iconst X412 (v := 2) d7_111 rfl ?_
  refine Own.dconst0 X412 d7_112 ?_
  refine Own.dastore_ X412 (i := 2) d7_113 V433 (by decide) rfl (Nat.le_of_ble_eq_true rfl) fr368 fun T434 h434 X434 W434 V434 => ?_
  have F435 := F413.other W434 (Or.inl ne363)
  have F436 := F414.other W434 (Or.inl ne363)
  have F437 := F415.other W434 (Or.inl ne363)
  have F438 := F416.other W434 (Or.inl ne363)
  have F439 := F417.other W434 (Or.inl ne363)
  have F440 := F418.other W434 (Or.inl ne363)
  have F441 := F419.other W434 (Or.inl ne363)
  have F442 := F420.other W434 (Or.inl ne363)
  have F443 := F421.other W434 (Or.inl ne363)
  have F444 := F422.wr W434 (Or.inr bn369)
  have F445 := F423.wr W434
  have F446 := F424.wr W434
  have F447 := F425.other W434 ne365
  have F448 := F426.wr W434
  have F449 := F427.other W434 ne366
  have F450 := F428.wr W434
  have F451 := F429.other W434 ne367
  have F452 := F430.other W434 ne364
  have F453 := F431.wr W434
  have Z454 : n0 ≤ h434.size := by rw [W434.size]; exact Z432
  have V455 : Arv Z h434 rw3 k_rw3 .double (4 : Int32) [.double 0, .double 0, .double 0, .double 0] (.double 0) := V434
  refine Own.dup X434 d7_114 rfl ?_
  refine Own.iconst X434 (v := 3) d7_115 rfl ?_
  refine Own.dconst1 X434 d7_116 ?_
  refine Own.dastore_ X434 (i := 3) d7_117 V455 (by decide) rfl (Nat.le_of_ble_eq_true rfl) fr368 fun T456 h456 X456 W456 V456 => ?_
  have F457 := F435.other W456 (Or.inl ne363)
  have F458 := F436.other W456 (Or.inl ne363)
  have F459 := F437.other W456 (Or.inl ne363)
  have F460 := F438.other W456 (Or.inl ne363)
  have F461 := F439.other W456 (Or.inl ne363)
  have F462 := F440.other W456 (Or.inl ne363)
  have F463 := F441.other W456 (Or.inl ne363)
  have F464 := F442.other W456 (Or.inl ne363)
  have F465 := F443.other W456 (Or.inl ne363)
  have F466 := F444.wr W456 (Or.inr bn369)
  have F467 := F445.wr W456
  have F468 := F446.wr W456
  have F469 := F447.other W456 ne365
  have F470 := F448.wr W456
  have F471 := F449.other W456 ne366
  have F472 := F450.wr W456
  have F473 := F451.other W456 ne367
  have F474 := F452.other W456 ne364
  have F475 := F453.wr W456
  have Z476 : n0 ≤ h456.size := by rw [W456.size]; exact Z454
  have V477 : Arv Z h456 rw3 k_rw3 .double (4 : Int32) [.double 0, .double 0, .double 0, .double 4607182418800017408] (.double 0) := V456
  refine Own.aastore_ X456 (i := 3) d7_118 F474 rfl (by decide) rfl (Nat.le_of_ble_eq_true rfl) fr3 rfl (fun cl A' q' => Sto.ofVA A' q' O1 (Ins.self F475)) fun T478 h478 X478 W478 V478 => ?_
  have F479 := F457.other W478 (Or.inl ne2)
  have F480 := F458.other W478 (Or.inl ne2)
  have F481 := F459.other W478 (Or.inl ne2)
  have F482 := F460.other W478 (Or.inl ne2)
  have F483 := F461.other W478 (Or.inl ne2)
  have F484 := F462.other W478 (Or.inl ne2)
  have F485 := F463.other W478 (Or.inl ne2)
  have F486 := F464.other W478 (Or.inl ne2)
  have F487 := F465.other W478 (Or.inl ne2)
  have F488 := F466.wr W478 (Or.inr bn4)
  have F489 := F467.wr W478
  have F490 := F468.wr W478
  have F491 := F469.other W478 (Ne.symm ne19)
  have F492 := F470.wr W478
  have F493 := F471.other W478 (Ne.symm ne121)
  have F494 := F472.wr W478
  have F495 := F473.other W478 (Ne.symm ne236)
  have F496 := F475.wr W478
  have F497 := V477.other W478 (Ne.symm ne364)
  have Z498 : n0 ≤ h478.size := by rw [W478.size]; exact Z476
  have V499 : Arv Z h478 ro k_ro (.array .double) (4 : Int32) [.ref rw0, .ref rw1, .ref rw2, .ref rw3] (.null) := V478
  exact Own.retA X478 d7_119 rfl rfl rfl ⟨ro, rw0, rw1, rw2, rw3, k_ro, k_rw0, k_rw1, k_rw2, k_rw3, rfl, bn4, bn21, bn124, bn240, bn369, ne19, ne121, ne236, ne364, ne122, ne237, ne365, ne238, ne366, ne367, F488, V499, F491, F493, F495, F497⟩ (by decide) (by decide)
theorem ef_8 (m : MethodId) (x0 : Addr) (x1 : UInt64) (x2 : UInt64) (x3 : UInt64) (x4 : UInt64) : entryFrame m #[.ref x0, .double x1, .double x2, .double x3, .double x4] 9 = mkF m 0 #[.val (.ref x0), .val (.double x1), .second, .val (.double x2), .second, .val (.double x3), .second, .val (.double x4), .second] [] := by first | (simp [entryFrame, mkF, argsToLocals, Value.category, maxLocals]; done) | rfl
set_option maxRecDepth 65536 in
set_option maxHeartbeats 40000000 in
theorem rm8 (l : Launch) (Z : State) (a0 : Array Value) (hw : ∀ d ∈ tables_1, d.before a0 Z = true) (ar : Addr) (x0 x1 x2 x3 : UInt64) (k_ar : ClassId) (h0 : Heap) (n0 : Nat) (Z0 : n0 ≤ h0.size) (A_ar : Arv Z h0 ar k_ar .double (4 : Int32) [.double x0, .double x1, .double x2, .double x3] (.double 0)) (n_x0 : NoNaN64 x0) (n_x1 : NoNaN64 x1) (n_x2 : NoNaN64 x2) (n_x3 : NoNaN64 x3) :
    Own.Con l Z mn_9 [] method_3_code 9 (some .boolean) ({ frames := 0, cells := 0, slots := 0, locals := 0 } : Room) #[.ref ar, .double x0, .double x1, .double x2, .double x3] h0 n0 (fun v h => v = some (.int 1) ∧ h0 = h) := by
  refine Own.enter (own := "com/example/swivel/swivel/Matrix3HomogeneousRowsPinLaw") (nm := "row") (plainFor_of_name pn_com_example_swivel_swivel_Matrix3HomogeneousRowsPinLaw) rfl rfl (fun m => ef_8 m ar x0 x1 x2 x3) fun p e s m below meth c T X => ?_
  refine Own.aloadN X d8_0 rfl rfl ?_
  refine Own.ifnullN X d8_1 ?_
  refine Own.aloadN X d8_4 rfl rfl ?_
  refine Own.alen_ X d8_5 A_ar ?_
  refine Own.iconst X (v := 4) d8_6 rfl ?_
  refine Own.icmp_ X (pc' := 48) d8_7 (by decide) (fun q => absurd (show ¬ ((4 : Int) = (4 : Int)) from q) (show ¬ (¬ ((4 : Int) = (4 : Int))) from fun z => z (by decide))) (fun _ => ?_)
  refine Own.aloadN X d8_10 rfl rfl ?_
  refine Own.iconst X (v := 0) d8_11 rfl ?_
  refine Own.daload_ X d8_12 A_ar (by decide) rfl ?_
  refine Own.dloadN X d8_13 rfl ?_
  refine Own.dcmpF X (pc' := 48) d8_14 d8_15 (by decide) n_x0 n_x0 (fun q => absurd (show ¬ (Own.dz x0 = Own.dz x0) from q) (show ¬ (¬ (Own.dz x0 = Own.dz x0)) from fun z => z (rfl))) (fun _ => ?_)
  refine Own.aloadN X d8_18 rfl rfl ?_
  refine Own.iconst X (v := 1) d8_19 rfl ?_
  refine Own.daload_ X d8_20 A_ar (by decide) rfl ?_
  refine Own.dloadN X d8_21 rfl ?_
  refine Own.dcmpF X (pc' := 48) d8_22 d8_23 (by decide) n_x1 n_x1 (fun q => absurd (show ¬ (Own.dz x1 = Own.dz x1) from q) (show ¬ (¬ (Own.dz x1 = Own.dz x1)) from fun z => z (rfl))) (fun _ => ?_)
  refine Own.aloadN X d8_26 rfl rfl ?_
  refine Own.iconst X (v := 2) d8_27 rfl ?_
  refine Own.daload_ X d8_28 A_ar (by decide) rfl ?_
  refine Own.dload X d8_29 rfl ?_
  refine Own.dcmpF X (pc' := 48) d8_31 d8_32 (by decide) n_x2 n_x2 (fun q => absurd (show ¬ (Own.dz x2 = Own.dz x2) from q) (show ¬ (¬ (Own.dz x2 = Own.dz x2)) from fun z => z (rfl))) (fun _ => ?_)
  refine Own.aloadN X d8_35 rfl rfl ?_
  refine Own.iconst X (v := 3) d8_36 rfl ?_
  refine Own.daload_ X d8_37 A_ar (by decide) rfl ?_
  refine Own.dload X d8_38 rfl ?_
  refine Own.dcmpF X (pc' := 48) d8_40 d8_41 (by decide) n_x3 n_x3 (fun q => absurd (show ¬ (Own.dz x3 = Own.dz x3) from q) (show ¬ (¬ (Own.dz x3 = Own.dz x3)) from fun z => z (rfl))) (fun _ => ?_)
  refine Own.iconst X (v := 1) d8_44 rfl ?_
  refine Own.goto_ X (pc' := 49) d8_45 (by decide) ?_
  exact Own.retB X d8_49 (by decide) ⟨rfl, rfl⟩ (by decide) (by decide)
theorem ef_9 (m : MethodId) (x0 : Addr) : entryFrame m #[.ref x0] 1 = mkF m 0 #[.val (.ref x0)] [] := by first | (simp [entryFrame, mkF, argsToLocals, Value.category, maxLocals]; done) | rfl
set_option maxRecDepth 65536 in
set_option maxHeartbeats 40000000 in
theorem rm9 (l : Launch) (Z : State) (a0 : Array Value) (hw : ∀ d ∈ tables_1, d.before a0 Z = true) (a : Addr) (u : UInt64)  (h0 : Heap) (n0 : Nat) (Z0 : n0 ≤ h0.size) (F0_a_m11 : Fld Z h0 a "com/example/swivel/swivel/Matrix3" "m11" "D" (.double u))  :
    Own.Con l Z mn_10 [] prog_6_method_16_code 1 (some .double) ({ frames := 0, cells := 0, slots := 0, locals := 0 } : Room) #[.ref a] h0 n0 (fun v h => v = some (.double u) ∧ h0 = h) := by
  refine Own.enter (own := "com/example/swivel/swivel/Matrix3") (nm := "m11") (plainFor_of_name pn_com_example_swivel_swivel_Matrix3) rfl rfl (fun m => ef_9 m a) fun p e s m below meth c T X => ?_
  refine Own.aloadN X d9_0 rfl rfl ?_
  refine Own.getF_ X d9_1 (host := "") (Or.inl (Own.wd hw 27 rfl)) Via.refl F0_a_m11 fun T1 X1 => ?_
  exact Own.retD X1 d9_4 ⟨rfl, rfl⟩ (by decide) (by decide)
theorem ef_10 (m : MethodId) (x0 : Addr) : entryFrame m #[.ref x0] 1 = mkF m 0 #[.val (.ref x0)] [] := by first | (simp [entryFrame, mkF, argsToLocals, Value.category, maxLocals]; done) | rfl
set_option maxRecDepth 65536 in
set_option maxHeartbeats 40000000 in
theorem rm10 (l : Launch) (Z : State) (a0 : Array Value) (hw : ∀ d ∈ tables_1, d.before a0 Z = true) (a : Addr) (u : UInt64)  (h0 : Heap) (n0 : Nat) (Z0 : n0 ≤ h0.size) (F0_a_m33 : Fld Z h0 a "com/example/swivel/swivel/Matrix3" "m33" "D" (.double u))  :
    Own.Con l Z mn_11 [] prog_6_method_24_code 1 (some .double) ({ frames := 0, cells := 0, slots := 0, locals := 0 } : Room) #[.ref a] h0 n0 (fun v h => v = some (.double u) ∧ h0 = h) := by
  refine Own.enter (own := "com/example/swivel/swivel/Matrix3") (nm := "m33") (plainFor_of_name pn_com_example_swivel_swivel_Matrix3) rfl rfl (fun m => ef_10 m a) fun p e s m below meth c T X => ?_
  refine Own.aloadN X d10_0 rfl rfl ?_
  refine Own.getF_ X d10_1 (host := "") (Or.inl (Own.wd hw 43 rfl)) Via.refl F0_a_m33 fun T1 X1 => ?_
  exact Own.retD X1 d10_4 ⟨rfl, rfl⟩ (by decide) (by decide)
theorem ef_0 (m : MethodId) (x0 : Int64) (x1 : Int64) (x2 : Int64) (x3 : Int32) (x4 : Int32) (x5 : Int32) : entryFrame m #[.long x0, .long x1, .long x2, .int x3, .int x4, .int x5] maxLocals = mkF m 0 #[.val (.long x0), .second, .val (.long x1), .second, .val (.long x2), .second, .val (.int x3), .val (.int x4), .val (.int x5), .unset, .unset, .unset, .unset, .unset, .unset, .unset, .unset, .unset, .unset, .unset, .unset, .unset, .unset, .unset, .unset, .unset, .unset, .unset, .unset, .unset, .unset, .unset] [] := by first | (simp [entryFrame, mkF, argsToLocals, Value.category, maxLocals]; done) | rfl
set_option maxRecDepth 65536 in
set_option maxHeartbeats 40000000 in
theorem rm0 (l : Launch) (Z : State) (a0 : Array Value) (hw : ∀ d ∈ tables_1, d.before a0 Z = true) (i0 i1 i2 : Int64) (i3 i4 i5 : Int32) (h0 : Heap) (n0 : Nat) (Z0 : n0 ≤ h0.size) (fe : Addr) (S_F : Sta Z Z.heap "com/example/swivel/swivel/Matrix3$Entries" "FINITE" "Lcom/example/swivel/swivel/Matrix3$Entries;" (.ref fe)) (O0 : Old Z n0 h0) :
    Own.Con l Z x tables_1 code maxLocals ret room_1 #[.long i0, .long i1, .long i2, .int i3, .int i4, .int i5] h0 n0 (fun v _ => v = some (.int 1)) := by
  refine Own.enter (own := "com/example/swivel/swivel/Matrix3HomogeneousRowsPinLaw") (nm := "law") (plainFor_of_name pn_com_example_swivel_swivel_Matrix3HomogeneousRowsPinLaw) rfl rfl (fun m => ef_0 m i0 i1 i2 i3 i4 i5) fun p e s m below meth c T X => ?_
  refine Own.lloadN X at_0 rfl ?_
  refine Own.bipush X (v := 32) at_1 rfl ?_
  refine Own.lshr X at_3 ?_
  refine Own.l2i X at_4 ?_
  obtain ⟨d5, e_d5⟩ : ∃ v, FP.i2d ((i0 >>> ((32 : Int32).toInt64 &&& 63)).toInt32) = v := ⟨_, rfl⟩
  have B_d5 := (Own.Bd.i2d e_d5).mono (by decide : _ ≤ (8589934592 : Int))
  have f_d5 := B_d5.1
  have n_d5 := f_d5.noNaN
  refine Own.i2d X at_5 e_d5 ?_
  refine Own.dstore X at_6 (l' := #[.val (.long i0), .second, .val (.long i1), .second, .val (.long i2), .second, .val (.int i3), .val (.int i4), .val (.int i5), .val (.double d5), .second, .unset, .unset, .unset, .unset, .unset, .unset, .unset, .unset, .unset, .unset, .unset, .unset, .unset, .unset, .unset, .unset, .unset, .unset, .unset, .unset, .unset]) rfl ?_
  refine Own.lloadN X at_8 rfl ?_
  refine Own.l2i X at_9 ?_
  obtain ⟨d10, e_d10⟩ : ∃ v, FP.i2d (i0.toInt32) = v := ⟨_, rfl⟩
  have B_d10 := (Own.Bd.i2d e_d10).mono (by decide : _ ≤ (8589934592 : Int))
  have f_d10 := B_d10.1
  have n_d10 := f_d10.noNaN
  refine Own.i2d X at_10 e_d10 ?_
  refine Own.dstore X at_11 (l' := #[.val (.long i0), .second, .val (.long i1), .second, .val (.long i2), .second, .val (.int i3), .val (.int i4), .val (.int i5), .val (.double d5), .second, .val (.double d10), .second, .unset, .unset, .unset, .unset, .unset, .unset, .unset, .unset, .unset, .unset, .unset, .unset, .unset, .unset, .unset, .unset, .unset, .unset, .unset]) rfl ?_
  refine Own.lloadN X at_13 rfl ?_
  refine Own.bipush X (v := 32) at_14 rfl ?_
  refine Own.lshr X at_16 ?_
  refine Own.l2i X at_17 ?_
  obtain ⟨d18, e_d18⟩ : ∃ v, FP.i2d ((i1 >>> ((32 : Int32).toInt64 &&& 63)).toInt32) = v := ⟨_, rfl⟩
  have B_d18 := (Own.Bd.i2d e_d18).mono (by decide : _ ≤ (8589934592 : Int))
  have f_d18 := B_d18.1
  have n_d18 := f_d18.noNaN
  refine Own.i2d X at_18 e_d18 ?_
  refine Own.dstore X at_19 (l' := #[.val (.long i0), .second, .val (.long i1), .second, .val (.long i2), .second, .val (.int i3), .val (.int i4), .val (.int i5), .val (.double d5), .second, .val (.double d10), .second, .val (.double d18), .second, .unset, .unset, .unset, .unset, .unset, .unset, .unset, .unset, .unset, .unset, .unset, .unset, .unset, .unset, .unset, .unset, .unset]) rfl ?_
  refine Own.lloadN X at_21 rfl ?_
  refine Own.l2i X at_22 ?_
  obtain ⟨d23, e_d23⟩ : ∃ v, FP.i2d (i1.toInt32) = v := ⟨_, rfl⟩
  have B_d23 := (Own.Bd.i2d e_d23).mono (by decide : _ ≤ (8589934592 : Int))
  have f_d23 := B_d23.1
  have n_d23 := f_d23.noNaN
  refine Own.i2d X at_23 e_d23 ?_
  refine Own.dstore X at_24 (l' := #[.val (.long i0), .second, .val (.long i1), .second, .val (.long i2), .second, .val (.int i3), .val (.int i4), .val (.int i5), .val (.double d5), .second, .val (.double d10), .second, .val (.double d18), .second, .val (.double d23), .second, .unset, .unset, .unset, .unset, .unset, .unset, .unset, .unset, .unset, .unset, .unset, .unset, .unset, .unset, .unset]) rfl ?_
  refine Own.lload X at_26 rfl ?_
  refine Own.bipush X (v := 32) at_28 rfl ?_
  refine Own.lshr X at_30 ?_
  refine Own.l2i X at_31 ?_
  obtain ⟨d32, e_d32⟩ : ∃ v, FP.i2d ((i2 >>> ((32 : Int32).toInt64 &&& 63)).toInt32) = v := ⟨_, rfl⟩
  have B_d32 := (Own.Bd.i2d e_d32).mono (by decide : _ ≤ (8589934592 : Int))
  have f_d32 := B_d32.1
  have n_d32 := f_d32.noNaN
  refine Own.i2d X at_32 e_d32 ?_
  refine Own.dstore X at_33 (l' := #[.val (.long i0), .second, .val (.long i1), .second, .val (.long i2), .second, .val (.int i3), .val (.int i4), .val (.int i5), .val (.double d5), .second, .val (.double d10), .second, .val (.double d18), .second, .val (.double d23), .second, .val (.double d32), .second, .unset, .unset, .unset, .unset, .unset, .unset, .unset, .unset, .unset, .unset, .unset, .unset, .unset]) rfl ?_
  refine Own.lload X at_35 rfl ?_
  refine Own.l2i X at_37 ?_
  obtain ⟨d38, e_d38⟩ : ∃ v, FP.i2d (i2.toInt32) = v := ⟨_, rfl⟩
  have B_d38 := (Own.Bd.i2d e_d38).mono (by decide : _ ≤ (8589934592 : Int))
  have f_d38 := B_d38.1
  have n_d38 := f_d38.noNaN
  refine Own.i2d X at_38 e_d38 ?_
  refine Own.dstore X at_39 (l' := #[.val (.long i0), .second, .val (.long i1), .second, .val (.long i2), .second, .val (.int i3), .val (.int i4), .val (.int i5), .val (.double d5), .second, .val (.double d10), .second, .val (.double d18), .second, .val (.double d23), .second, .val (.double d32), .second, .val (.double d38), .second, .unset, .unset, .unset, .unset, .unset, .unset, .unset, .unset, .unset, .unset, .unset]) rfl ?_
  refine Own.iload X at_41 rfl ?_
  obtain ⟨d43, e_d43⟩ : ∃ v, FP.i2d i3 = v := ⟨_, rfl⟩
  have B_d43 := (Own.Bd.i2d e_d43).mono (by decide : _ ≤ (8589934592 : Int))
  have f_d43 := B_d43.1
  have n_d43 := f_d43.noNaN
  refine Own.i2d X at_43 e_d43 ?_
  refine Own.dstore X at_44 (l' := #[.val (.long i0), .second, .val (.long i1), .second, .val (.long i2), .second, .val (.int i3), .val (.int i4), .val (.int i5), .val (.double d5), .second, .val (.double d10), .second, .val (.double d18), .second, .val (.double d23), .second, .val (.double d32), .second, .val (.double d38), .second, .val (.double d43), .second, .unset, .unset, .unset, .unset, .unset, .unset, .unset, .unset, .unset]) rfl ?_
  refine Own.iload X at_46 rfl ?_
  obtain ⟨d48, e_d48⟩ : ∃ v, FP.i2d i4 = v := ⟨_, rfl⟩
  have B_d48 := (Own.Bd.i2d e_d48).mono (by decide : _ ≤ (8589934592 : Int))
  have f_d48 := B_d48.1
  have n_d48 := f_d48.noNaN
  refine Own.i2d X at_48 e_d48 ?_
  refine Own.dstore X at_49 (l' := #[.val (.long i0), .second, .val (.long i1), .second, .val (.long i2), .second, .val (.int i3), .val (.int i4), .val (.int i5), .val (.double d5), .second, .val (.double d10), .second, .val (.double d18), .second, .val (.double d23), .second, .val (.double d32), .second, .val (.double d38), .second, .val (.double d43), .second, .val (.double d48), .second, .unset, .unset, .unset, .unset, .unset, .unset, .unset]) rfl ?_
  refine Own.iload X at_51 rfl ?_
  obtain ⟨d53, e_d53⟩ : ∃ v, FP.i2d i5 = v := ⟨_, rfl⟩
  have B_d53 := (Own.Bd.i2d e_d53).mono (by decide : _ ≤ (8589934592 : Int))
  have f_d53 := B_d53.1
  have n_d53 := f_d53.noNaN
  refine Own.i2d X at_53 e_d53 ?_
  refine Own.dstore X at_54 (l' := #[.val (.long i0), .second, .val (.long i1), .second, .val (.long i2), .second, .val (.int i3), .val (.int i4), .val (.int i5), .val (.double d5), .second, .val (.double d10), .second, .val (.double d18), .second, .val (.double d23), .second, .val (.double d32), .second, .val (.double d38), .second, .val (.double d43), .second, .val (.double d48), .second, .val (.double d53), .second, .unset, .unset, .unset, .unset, .unset]) rfl ?_
  refine Own.newO_ X at_56 (Own.wd hw 0 rfl) (Own.wd hw 1 rfl) (Own.wd hw 2 rfl) (by decide) (by decide) fun T1 h1 o56 g_o56 X1 E1 A1 D1 => ?_
  have fr2 : n0 ≤ o56 := Nat.le_trans Z0 (Nat.le_of_eq g_o56.symm)
  have F3 := O0.ext E1
  have Z4 : n0 ≤ h1.size := Nat.le_trans Z0 E1.1
  have F5 : Fld Z h1 o56 "com/example/swivel/swivel/Matrix3" "m11" "D" (.double 0) := D1 (Or.inr (Own.wd hw 28 rfl)) (ty := .double) (by decide)
  have F6 : Fld Z h1 o56 "com/example/swivel/swivel/Matrix3" "m12" "D" (.double 0) := D1 (Or.inr (Own.wd hw 30 rfl)) (ty := .double) (by decide)
  have F7 : Fld Z h1 o56 "com/example/swivel/swivel/Matrix3" "m13" "D" (.double 0) := D1 (Or.inr (Own.wd hw 32 rfl)) (ty := .double) (by decide)
  have F8 : Fld Z h1 o56 "com/example/swivel/swivel/Matrix3" "m21" "D" (.double 0) := D1 (Or.inr (Own.wd hw 34 rfl)) (ty := .double) (by decide)
  have F9 : Fld Z h1 o56 "com/example/swivel/swivel/Matrix3" "m22" "D" (.double 0) := D1 (Or.inr (Own.wd hw 36 rfl)) (ty := .double) (by decide)
  have F10 : Fld Z h1 o56 "com/example/swivel/swivel/Matrix3" "m23" "D" (.double 0) := D1 (Or.inr (Own.wd hw 38 rfl)) (ty := .double) (by decide)
  have F11 : Fld Z h1 o56 "com/example/swivel/swivel/Matrix3" "m31" "D" (.double 0) := D1 (Or.inr (Own.wd hw 40 rfl)) (ty := .double) (by decide)
  have F12 : Fld Z h1 o56 "com/example/swivel/swivel/Matrix3" "m32" "D" (.double 0) := D1 (Or.inr (Own.wd hw 42 rfl)) (ty := .double) (by decide)
  have F13 : Fld Z h1 o56 "com/example/swivel/swivel/Matrix3" "m33" "D" (.double 0) := D1 (Or.inr (Own.wd hw 44 rfl)) (ty := .double) (by decide)
  refine Own.dup X1 at_59 rfl ?_
  refine Own.dload X1 at_60 rfl ?_
  refine Own.dload X1 at_62 rfl ?_
  refine Own.dload X1 at_64 rfl ?_
  refine Own.dload X1 at_66 rfl ?_
  refine Own.dload X1 at_68 rfl ?_
  refine Own.dload X1 at_70 rfl ?_
  refine Own.dload X1 at_72 rfl ?_
  refine Own.dload X1 at_74 rfl ?_
  refine Own.dload X1 at_76 rfl ?_
  refine Own.callI_ (y := mn_7) (a := o56) X1 at_78 rfl (Own.wd hw 3 rfl) (Own.wd hw 4 rfl) (Own.wd hw 2 rfl) (Own.wd hw 5 rfl) (by decide) (rm1 l Z a0 hw o56 d5 d10 d18 d23 d32 d38 d43 d48 d53 fe h1 n0 Z4 fr2 A1 F5 F6 F7 F8 F9 F10 F11 F12 F13 B_d5 B_d10 B_d18 B_d23 B_d32 B_d38 B_d43 B_d48 B_d53 (S_F.ext F3.2)) (lenOf pd_12 rfl) rfl (argsL := [.double d5, .double d10, .double d18, .double d23, .double d32, .double d38, .double d43, .double d48, .double d53]) (rest := [.ref o56]) rfl (W := 1) (Nat.le_of_eq rfl) (by decide) (by decide) (by decide) (by decide) fun T14 h14 v14 X14 q14 => ?_
  obtain ⟨rfl, K14, G14_0, G14_1, G14_2, G14_3, G14_4, G14_5, G14_6, G14_7, G14_8⟩ := q14
  have F15 := F3.keep K14 (allS fr2 all0)
  have F16 := A1.keep K14
  have Z17 : n0 ≤ h14.size := Nat.le_trans Z4 K14.1
  show Own.Go p e below s n0 _ _ _ (T14.setTop (mkF m 81 _ [.ref o56]))
  refine Own.astore X14 at_81 rfl (l' := #[.val (.long i0), .second, .val (.long i1), .second, .val (.long i2), .second, .val (.int i3), .val (.int i4), .val (.int i5), .val (.double d5), .second, .val (.double d10), .second, .val (.double d18), .second, .val (.double d23), .second, .val (.double d32), .second, .val (.double d38), .second, .val (.double d43), .second, .val (.double d48), .second, .val (.double d53), .second, .val (.ref o56), .unset, .unset, .unset, .unset]) rfl ?_
  refine Own.aload X14 at_83 rfl rfl ?_
  refine Own.callV_ (y := mn_8) (z := mn_8) (a := o56) X14 at_85 (Own.wd hw 45 rfl) (Own.wd hw 46 rfl) (Own.wd hw 48 rfl) (Own.wd hw 47 rfl) rfl (Own.wd hw 2 rfl) (Own.wd hw 49 rfl) (by decide) F16 (rm7 l Z a0 hw o56 d5 d10 d18 d23 d32 d38 d43 d48 d53 h14 n0 Z17 G14_0 G14_1 G14_2 G14_3 G14_4 G14_5 G14_6 G14_7 G14_8) (lenOf pd_13 rfl) rfl (argsL := []) (rest := []) rfl (W := 0) (Nat.le_of_eq rfl) (by decide) (by decide) (by decide) (by decide) fun T18 h18 v18 X18 q18 => ?_
  obtain ⟨ro_85, rw0_85, rw1_85, rw2_85, rw3_85, k_ro_85, k_rw0_85, k_rw1_85, k_rw2_85, k_rw3_85, rfl, B18_0, B18_1, B18_2, B18_3, B18_4, D18_0, D18_1, D18_2, D18_3, D18_4, D18_5, D18_6, D18_7, D18_8, D18_9, K18, V18_0, V18_1, V18_2, V18_3, V18_4⟩ := q18
  have F19 := F15.keep K18 all0
  have F20 := F16.keep K18
  have F21 := G14_0.keep K18 nin0
  have F22 := G14_1.keep K18 nin0
  have F23 := G14_2.keep K18 nin0
  have F24 := G14_3.keep K18 nin0
  have F25 := G14_4.keep K18 nin0
  have F26 := G14_5.keep K18 nin0
  have F27 := G14_6.keep K18 nin0
  have F28 := G14_7.keep K18 nin0
  have F29 := G14_8.keep K18 nin0
  have Z30 : n0 ≤ h18.size := Nat.le_trans Z17 K18.1
  have ne31 : o56 ≠ ro_85 := Nat.ne_of_lt (Nat.lt_of_lt_of_le F16.lt B18_0)
  have fr32 : n0 ≤ ro_85 := Nat.le_trans Z17 B18_0
  have ne33 : o56 ≠ rw0_85 := Nat.ne_of_lt (Nat.lt_of_lt_of_le F16.lt B18_1)
  have fr34 : n0 ≤ rw0_85 := Nat.le_trans Z17 B18_1
  have ne35 : o56 ≠ rw1_85 := Nat.ne_of_lt (Nat.lt_of_lt_of_le F16.lt B18_2)
  have fr36 : n0 ≤ rw1_85 := Nat.le_trans Z17 B18_2
  have ne37 : o56 ≠ rw2_85 := Nat.ne_of_lt (Nat.lt_of_lt_of_le F16.lt B18_3)
  have fr38 : n0 ≤ rw2_85 := Nat.le_trans Z17 B18_3
  have ne39 : o56 ≠ rw3_85 := Nat.ne_of_lt (Nat.lt_of_lt_of_le F16.lt B18_4)
  have fr40 : n0 ≤ rw3_85 := Nat.le_trans Z17 B18_4
  show Own.Go p e below s n0 _ _ _ (T18.setTop (mkF m 88 _ [.ref ro_85]))
  refine Own.astore X18 at_88 rfl (l' := #[.val (.long i0), .second, .val (.long i1), .second, .val (.long i2), .second, .val (.int i3), .val (.int i4), .val (.int i5), .val (.double d5), .second, .val (.double d10), .second, .val (.double d18), .second, .val (.double d23), .second, .val (.double d32), .second, .val (.double d38), .second, .val (.double d43), .second, .val (.double d48), .second, .val (.double d53), .second, .val (.ref o56), .val (.ref ro_85), .unset, .unset, .unset]) rfl ?_
  refine Own.aload X18 at_90 rfl rfl ?_
  refine Own.callV_ (y := mn_8) (z := mn_8) (a := o56) X18 at_92 (Own.wd hw 45 rfl) (Own.wd hw 46 rfl) (Own.wd hw 48 rfl) (Own.wd hw 47 rfl) rfl (Own.wd hw 2 rfl) (Own.wd hw 49 rfl) (by decide) F20 (rm7 l Z a0 hw o56 d5 d10 d18 d23 d32 d38 d43 d48 d53 h18 n0 Z30 F21 F22 F23 F24 F25 F26 F27 F28 F29) (lenOf pd_13 rfl) rfl (argsL := []) (rest := []) rfl (W := 0) (Nat.le_of_eq rfl) (by decide) (by decide) (by decide) (by decide) fun T41 h41 v41 X41 q41 => ?_
  obtain ⟨ro_92, rw0_92, rw1_92, rw2_92, rw3_92, k_ro_92, k_rw0_92, k_rw1_92, k_rw2_92, k_rw3_92, rfl, B41_0, B41_1, B41_2, B41_3, B41_4, D41_0, D41_1, D41_2, D41_3, D41_4, D41_5, D41_6, D41_7, D41_8, D41_9, K41, V41_0, V41_1, V41_2, V41_3, V41_4⟩ := q41
  have F42 := F19.keep K41 all0
  have F43 := F20.keep K41
  have F44 := F21.keep K41 nin0
  have F45 := F22.keep K41 nin0
  have F46 := F23.keep K41 nin0
  have F47 := F24.keep K41 nin0
  have F48 := F25.keep K41 nin0
  have F49 := F26.keep K41 nin0
  have F50 := F27.keep K41 nin0
  have F51 := F28.keep K41 nin0
  have F52 := F29.keep K41 nin0
  have F53 := V18_0.keep K41 nin0
  have F54 := V18_1.keep K41 nin0
  have F55 := V18_2.keep K41 nin0
  have F56 := V18_3.keep K41 nin0
  have F57 := V18_4.keep K41 nin0
  have Z58 : n0 ≤ h41.size := Nat.le_trans Z30 K41.1
  have ne59 : o56 ≠ ro_92 := Nat.ne_of_lt (Nat.lt_of_lt_of_le F20.lt B41_0)
  have ne60 : ro_85 ≠ ro_92 := Nat.ne_of_lt (Nat.lt_of_lt_of_le V18_0.lt B41_0)
  have ne61 : rw0_85 ≠ ro_92 := Nat.ne_of_lt (Nat.lt_of_lt_of_le V18_1.lt B41_0)
  have ne62 : rw1_85 ≠ ro_92 := Nat.ne_of_lt (Nat.lt_of_lt_of_le V18_2.lt B41_0)
  have ne63 : rw2_85 ≠ ro_92 := Nat.ne_of_lt (Nat.lt_of_lt_of_le V18_3.lt B41_0)
  have ne64 : rw3_85 ≠ ro_92 := Nat.ne_of_lt (Nat.lt_of_lt_of_le V18_4.lt B41_0)
  have fr65 : n0 ≤ ro_92 := Nat.le_trans Z30 B41_0
  have ne66 : o56 ≠ rw0_92 := Nat.ne_of_lt (Nat.lt_of_lt_of_le F20.lt B41_1)
  have ne67 : ro_85 ≠ rw0_92 := Nat.ne_of_lt (Nat.lt_of_lt_of_le V18_0.lt B41_1)
  have ne68 : rw0_85 ≠ rw0_92 := Nat.ne_of_lt (Nat.lt_of_lt_of_le V18_1.lt B41_1)
  have ne69 : rw1_85 ≠ rw0_92 := Nat.ne_of_lt (Nat.lt_of_lt_of_le V18_2.lt B41_1)
  have ne70 : rw2_85 ≠ rw0_92 := Nat.ne_of_lt (Nat.lt_of_lt_of_le V18_3.lt B41_1)
  have ne71 : rw3_85 ≠ rw0_92 := Nat.ne_of_lt (Nat.lt_of_lt_of_le V18_4.lt B41_1)
  have fr72 : n0 ≤ rw0_92 := Nat.le_trans Z30 B41_1
  have ne73 : o56 ≠ rw1_92 := Nat.ne_of_lt (Nat.lt_of_lt_of_le F20.lt B41_2)
  have ne74 : ro_85 ≠ rw1_92 := Nat.ne_of_lt (Nat.lt_of_lt_of_le V18_0.lt B41_2)
  have ne75 : rw0_85 ≠ rw1_92 := Nat.ne_of_lt (Nat.lt_of_lt_of_le V18_1.lt B41_2)
  have ne76 : rw1_85 ≠ rw1_92 := Nat.ne_of_lt (Nat.lt_of_lt_of_le V18_2.lt B41_2)
  have ne77 : rw2_85 ≠ rw1_92 := Nat.ne_of_lt (Nat.lt_of_lt_of_le V18_3.lt B41_2)
  have ne78 : rw3_85 ≠ rw1_92 := Nat.ne_of_lt (Nat.lt_of_lt_of_le V18_4.lt B41_2)
  have fr79 : n0 ≤ rw1_92 := Nat.le_trans Z30 B41_2
  have ne80 : o56 ≠ rw2_92 := Nat.ne_of_lt (Nat.lt_of_lt_of_le F20.lt B41_3)
  have ne81 : ro_85 ≠ rw2_92 := Nat.ne_of_lt (Nat.lt_of_lt_of_le V18_0.lt B41_3)
  have ne82 : rw0_85 ≠ rw2_92 := Nat.ne_of_lt (Nat.lt_of_lt_of_le V18_1.lt B41_3)
  have ne83 : rw1_85 ≠ rw2_92 := Nat.ne_of_lt (Nat.lt_of_lt_of_le V18_2.lt B41_3)
  have ne84 : rw2_85 ≠ rw2_92 := Nat.ne_of_lt (Nat.lt_of_lt_of_le V18_3.lt B41_3)
  have ne85 : rw3_85 ≠ rw2_92 := Nat.ne_of_lt (Nat.lt_of_lt_of_le V18_4.lt B41_3)
  have fr86 : n0 ≤ rw2_92 := Nat.le_trans Z30 B41_3
  have ne87 : o56 ≠ rw3_92 := Nat.ne_of_lt (Nat.lt_of_lt_of_le F20.lt B41_4)
  have ne88 : ro_85 ≠ rw3_92 := Nat.ne_of_lt (Nat.lt_of_lt_of_le V18_0.lt B41_4)
  have ne89 : rw0_85 ≠ rw3_92 := Nat.ne_of_lt (Nat.lt_of_lt_of_le V18_1.lt B41_4)
  have ne90 : rw1_85 ≠ rw3_92 := Nat.ne_of_lt (Nat.lt_of_lt_of_le V18_2.lt B41_4)
  have ne91 : rw2_85 ≠ rw3_92 := Nat.ne_of_lt (Nat.lt_of_lt_of_le V18_3.lt B41_4)
  have ne92 : rw3_85 ≠ rw3_92 := Nat.ne_of_lt (Nat.lt_of_lt_of_le V18_4.lt B41_4)
  have fr93 : n0 ≤ rw3_92 := Nat.le_trans Z30 B41_4
  show Own.Go p e below s n0 _ _ _ (T41.setTop (mkF m 95 _ [.ref ro_92]))
  refine Own.astore X41 at_95 rfl (l' := #[.val (.long i0), .second, .val (.long i1), .second, .val (.long i2), .second, .val (.int i3), .val (.int i4), .val (.int i5), .val (.double d5), .second, .val (.double d10), .second, .val (.double d18), .second, .val (.double d23), .second, .val (.double d32), .second, .val (.double d38), .second, .val (.double d43), .second, .val (.double d48), .second, .val (.double d53), .second, .val (.ref o56), .val (.ref ro_85), .val (.ref ro_92), .unset, .unset]) rfl ?_
  refine Own.aload X41 at_97 rfl rfl ?_
  refine Own.ifnullN X41 at_99 ?_
  refine Own.aload X41 at_102 rfl rfl ?_
  refine Own.ifnullN X41 at_104 ?_
  refine Own.aload X41 at_107 rfl rfl ?_
  refine Own.alen_ X41 at_109 F53 ?_
  refine Own.iconst X41 (v := 4) at_110 rfl ?_
  refine Own.icmp_ X41 (pc' := 121) at_111 (by decide) (fun q => absurd (show ¬ ((4 : Int) = (4 : Int)) from q) (show ¬ (¬ ((4 : Int) = (4 : Int))) from fun z => z (by decide))) (fun _ => ?_)
  refine Own.aload X41 at_114 rfl rfl ?_
  refine Own.alen_ X41 at_116 V41_0 ?_
  refine Own.iconst X41 (v := 4) at_117 rfl ?_
  refine Own.icmp_ X41 (pc' := 123) at_118 (by decide) (fun _ => ?_) (fun q => absurd (show (4 : Int) = (4 : Int) from by decide) q)
  refine Own.aload X41 at_123 rfl rfl ?_
  refine Own.iconst X41 (v := 0) at_125 rfl ?_
  refine Own.aaload_ X41 at_126 F53 rfl (by decide) rfl ?_
  refine Own.dload X41 at_127 rfl ?_
  refine Own.dload X41 at_129 rfl ?_
  refine Own.dload X41 at_131 rfl ?_
  refine Own.dconst0 X41 at_133 ?_
  refine Own.callS_ (y := mn_9) X41 at_134 (Own.wd hw 54 rfl) (Own.wd hw 55 rfl) (Own.wd hw 56 rfl) (Own.wd hw 57 rfl) (by decide) (rm8 l Z a0 hw rw0_85 d5 d10 d18 0 k_rw0_85 h41 n0 Z58 F54 n_d5 n_d10 n_d18 Own.nn_0) (lenOf pd_14 rfl) rfl (argsL := [.ref rw0_85, .double d5, .double d10, .double d18, .double 0]) (rest := []) rfl (W := 0) (Nat.le_of_eq rfl) (by decide) (by decide) (by decide) (by decide) fun T94 h94 v94 X94 q94 => ?_
  obtain ⟨rfl, rfl⟩ := q94
  show Own.Go p e below s n0 _ _ _ (T94.setTop (mkF m 137 _ [.int (1 : Int32)]))
  refine Own.iff_ X94 (pc' := 257) at_137 (by decide) (fun q => absurd (show (1 : Int) = (0 : Int) from q) (show ¬ ((1 : Int) = (0 : Int)) from by decide)) (fun _ => ?_)
  refine Own.aload X94 at_140 rfl rfl ?_
  refine Own.iconst X94 (v := 1) at_142 rfl ?_
  refine Own.aaload_ X94 at_143 F53 rfl (by decide) rfl ?_
  refine Own.dload X94 at_144 rfl ?_
  refine Own.dload X94 at_146 rfl ?_
  refine Own.dload X94 at_148 rfl ?_
  refine Own.dconst0 X94 at_150 ?_
  refine Own.callS_ (y := mn_9) X94 at_151 (Own.wd hw 54 rfl) (Own.wd hw 55 rfl) (Own.wd hw 56 rfl) (Own.wd hw 57 rfl) (by decide) (rm8 l Z a0 hw rw1_85 d23 d32 d38 0 k_rw1_85 h41 n0 Z58 F55 n_d23 n_d32 n_d38 Own.nn_0) (lenOf pd_14 rfl) rfl (argsL := [.ref rw1_85, .double d23, .double d32, .double d38, .double 0]) (rest := []) rfl (W := 0) (Nat.le_of_eq rfl) (by decide) (by decide) (by decide) (by decide) fun T95 h95 v95 X95 q95 => ?_
  obtain ⟨rfl, rfl⟩ := q95
  show Own.Go p e below s n0 _ _ _ (T95.setTop (mkF m 154 _ [.int (1 : Int32)]))
  refine Own.iff_ X95 (pc' := 257) at_154 (by decide) (fun q => absurd (show (1 : Int) = (0 : Int) from q) (show ¬ ((1 : Int) = (0 : Int)) from by decide)) (fun _ => ?_)
  refine Own.aload X95 at_157 rfl rfl ?_
  refine Own.iconst X95 (v := 2) at_159 rfl ?_
  refine Own.aaload_ X95 at_160 F53 rfl (by decide) rfl ?_
  refine Own.dload X95 at_161 rfl ?_
  refine Own.dload X95 at_163 rfl ?_
  refine Own.dload X95 at_165 rfl ?_
  refine Own.dconst0 X95 at_167 ?_
  refine Own.callS_ (y := mn_9) X95 at_168 (Own.wd hw 54 rfl) (Own.wd hw 55 rfl) (Own.wd hw 56 rfl) (Own.wd hw 57 rfl) (by decide) (rm8 l Z a0 hw rw2_85 d43 d48 d53 0 k_rw2_85 h41 n0 Z58 F56 n_d43 n_d48 n_d53 Own.nn_0) (lenOf pd_14 rfl) rfl (argsL := [.ref rw2_85, .double d43, .double d48, .double d53, .double 0]) (rest := []) rfl (W := 0) (Nat.le_of_eq rfl) (by decide) (by decide) (by decide) (by decide) fun T96 h96 v96 X96 q96 => ?_
  obtain ⟨rfl, rfl⟩ := q96
  show Own.Go p e below s n0 _ _ _ (T96.setTop (mkF m 171 _ [.int (1 : Int32)]))
  refine Own.iff_ X96 (pc' := 257) at_171 (by decide) (fun q => absurd (show (1 : Int) = (0 : Int) from q) (show ¬ ((1 : Int) = (0 : Int)) from by decide)) (fun _ => ?_)
  refine Own.aload X96 at_174 rfl rfl ?_
  refine Own.iconst X96 (v := 3) at_176 rfl ?_
  refine Own.aaload_ X96 at_177 F53 rfl (by decide) rfl ?_
  refine Own.dconst0 X96 at_178 ?_
  refine Own.dconst0 X96 at_179 ?_
  refine Own.dconst0 X96 at_180 ?_
  refine Own.dconst1 X96 at_181 ?_
  refine Own.callS_ (y := mn_9) X96 at_182 (Own.wd hw 54 rfl) (Own.wd hw 55 rfl) (Own.wd hw 56 rfl) (Own.wd hw 57 rfl) (by decide) (rm8 l Z a0 hw rw3_85 0 0 0 4607182418800017408 k_rw3_85 h41 n0 Z58 F57 Own.nn_0 Own.nn_0 Own.nn_0 Own.nn_1) (lenOf pd_14 rfl) rfl (argsL := [.ref rw3_85, .double 0, .double 0, .double 0, .double 4607182418800017408]) (rest := []) rfl (W := 0) (Nat.le_of_eq rfl) (by decide) (by decide) (by decide) (by decide) fun T97 h97 v97 X97 q97 => ?_
  obtain ⟨rfl, rfl⟩ := q97
  show Own.Go p e below s n0 _ _ _ (T97.setTop (mkF m 185 _ [.int (1 : Int32)]))
  refine Own.iff_ X97 (pc' := 257) at_185 (by decide) (fun q => absurd (show (1 : Int) = (0 : Int) from q) (show ¬ ((1 : Int) = (0 : Int)) from by decide)) (fun _ => ?_)
  refine Own.aload X97 at_188 rfl rfl ?_
  refine Own.iconst X97 (v := 0) at_190 rfl ?_
  refine Own.aaload_ X97 at_191 V41_0 rfl (by decide) rfl ?_
  refine Own.dload X97 at_192 rfl ?_
  refine Own.dload X97 at_194 rfl ?_
  refine Own.dload X97 at_196 rfl ?_
  refine Own.dconst0 X97 at_198 ?_
  refine Own.callS_ (y := mn_9) X97 at_199 (Own.wd hw 54 rfl) (Own.wd hw 55 rfl) (Own.wd hw 56 rfl) (Own.wd hw 57 rfl) (by decide) (rm8 l Z a0 hw rw0_92 d5 d10 d18 0 k_rw0_92 h41 n0 Z58 V41_1 n_d5 n_d10 n_d18 Own.nn_0) (lenOf pd_14 rfl) rfl (argsL := [.ref rw0_92, .double d5, .double d10, .double d18, .double 0]) (rest := []) rfl (W := 0) (Nat.le_of_eq rfl) (by decide) (by decide) (by decide) (by decide) fun T98 h98 v98 X98 q98 => ?_
  obtain ⟨rfl, rfl⟩ := q98
  show Own.Go p e below s n0 _ _ _ (T98.setTop (mkF m 202 _ [.int (1 : Int32)]))
  refine Own.iff_ X98 (pc' := 257) at_202 (by decide) (fun q => absurd (show (1 : Int) = (0 : Int) from q) (show ¬ ((1 : Int) = (0 : Int)) from by decide)) (fun _ => ?_)
  refine Own.aload X98 at_205 rfl rfl ?_
  refine Own.iconst X98 (v := 1) at_207 rfl ?_
  refine Own.aaload_ X98 at_208 V41_0 rfl (by decide) rfl ?_
  refine Own.dload X98 at_209 rfl ?_
  refine Own.dload X98 at_211 rfl ?_
  refine Own.dload X98 at_213 rfl ?_
  refine Own.dconst0 X98 at_215 ?_
  refine Own.callS_ (y := mn_9) X98 at_216 (Own.wd hw 54 rfl) (Own.wd hw 55 rfl) (Own.wd hw 56 rfl) (Own.wd hw 57 rfl) (by decide) (rm8 l Z a0 hw rw1_92 d23 d32 d38 0 k_rw1_92 h41 n0 Z58 V41_2 n_d23 n_d32 n_d38 Own.nn_0) (lenOf pd_14 rfl) rfl (argsL := [.ref rw1_92, .double d23, .double d32, .double d38, .double 0]) (rest := []) rfl (W := 0) (Nat.le_of_eq rfl) (by decide) (by decide) (by decide) (by decide) fun T99 h99 v99 X99 q99 => ?_
  obtain ⟨rfl, rfl⟩ := q99
  show Own.Go p e below s n0 _ _ _ (T99.setTop (mkF m 219 _ [.int (1 : Int32)]))
  refine Own.iff_ X99 (pc' := 257) at_219 (by decide) (fun q => absurd (show (1 : Int) = (0 : Int) from q) (show ¬ ((1 : Int) = (0 : Int)) from by decide)) (fun _ => ?_)
  refine Own.aload X99 at_222 rfl rfl ?_
  refine Own.iconst X99 (v := 2) at_224 rfl ?_
  refine Own.aaload_ X99 at_225 V41_0 rfl (by decide) rfl ?_
  refine Own.dload X99 at_226 rfl ?_
  refine Own.dload X99 at_228 rfl ?_
  refine Own.dload X99 at_230 rfl ?_
  refine Own.dconst0 X99 at_232 ?_
  refine Own.callS_ (y := mn_9) X99 at_233 (Own.wd hw 54 rfl) (Own.wd hw 55 rfl) (Own.wd hw 56 rfl) (Own.wd hw 57 rfl) (by decide) (rm8 l Z a0 hw rw2_92 d43 d48 d53 0 k_rw2_92 h41 n0 Z58 V41_3 n_d43 n_d48 n_d53 Own.nn_0) (lenOf pd_14 rfl) rfl (argsL := [.ref rw2_92, .double d43, .double d48, .double d53, .double 0]) (rest := []) rfl (W := 0) (Nat.le_of_eq rfl) (by decide) (by decide) (by decide) (by decide) fun T100 h100 v100 X100 q100 => ?_
  obtain ⟨rfl, rfl⟩ := q100
  show Own.Go p e below s n0 _ _ _ (T100.setTop (mkF m 236 _ [.int (1 : Int32)]))
  refine Own.iff_ X100 (pc' := 257) at_236 (by decide) (fun q => absurd (show (1 : Int) = (0 : Int) from q) (show ¬ ((1 : Int) = (0 : Int)) from by decide)) (fun _ => ?_)
  refine Own.aload X100 at_239 rfl rfl ?_
  refine Own.iconst X100 (v := 3) at_241 rfl ?_
  refine Own.aaload_ X100 at_242 V41_0 rfl (by decide) rfl ?_
  refine Own.dconst0 X100 at_243 ?_
  refine Own.dconst0 X100 at_244 ?_
  refine Own.dconst0 X100 at_245 ?_
  refine Own.dconst1 X100 at_246 ?_
  refine Own.callS_ (y := mn_9) X100 at_247 (Own.wd hw 54 rfl) (Own.wd hw 55 rfl) (Own.wd hw 56 rfl) (Own.wd hw 57 rfl) (by decide) (rm8 l Z a0 hw rw3_92 0 0 0 4607182418800017408 k_rw3_92 h41 n0 Z58 V41_4 Own.nn_0 Own.nn_0 Own.nn_0 Own.nn_1) (lenOf pd_14 rfl) rfl (argsL := [.ref rw3_92, .double 0, .double 0, .double 0, .double 4607182418800017408]) (rest := []) rfl (W := 0) (Nat.le_of_eq rfl) (by decide) (by decide) (by decide) (by decide) fun T101 h101 v101 X101 q101 => ?_
  obtain ⟨rfl, rfl⟩ := q101
  show Own.Go p e below s n0 _ _ _ (T101.setTop (mkF m 250 _ [.int (1 : Int32)]))
  refine Own.iff_ X101 (pc' := 257) at_250 (by decide) (fun q => absurd (show (1 : Int) = (0 : Int) from q) (show ¬ ((1 : Int) = (0 : Int)) from by decide)) (fun _ => ?_)
  refine Own.iconst X101 (v := 1) at_253 rfl ?_
  refine Own.goto_ X101 (pc' := 258) at_254 (by decide) ?_
  refine Own.istore X101 at_258 (l' := #[.val (.long i0), .second, .val (.long i1), .second, .val (.long i2), .second, .val (.int i3), .val (.int i4), .val (.int i5), .val (.double d5), .second, .val (.double d10), .second, .val (.double d18), .second, .val (.double d23), .second, .val (.double d32), .second, .val (.double d38), .second, .val (.double d43), .second, .val (.double d48), .second, .val (.double d53), .second, .val (.ref o56), .val (.ref ro_85), .val (.ref ro_92), .val (.int (1 : Int32)), .unset]) rfl ?_
  refine Own.iload X101 at_260 rfl ?_
  refine Own.iff_ X101 (pc' := 267) at_262 (by decide) (fun _ => ?_) (fun q => absurd (show ¬ ((1 : Int) = (0 : Int)) from by decide) q)
  refine Own.aload X101 at_267 rfl rfl ?_
  refine Own.aload X101 at_269 rfl rfl ?_
  refine Own.acmp_ X101 (pc' := 274) (same := false) at_271 rfl rfl (decide_eq_false fun q => ne60 (Value.ref.inj q)) (by decide) (by decide) ?_
  refine Own.aload X101 at_274 rfl rfl ?_
  refine Own.iconst X101 (v := 0) at_276 rfl ?_
  refine Own.aaload_ X101 at_277 F53 rfl (by decide) rfl ?_
  refine Own.aload X101 at_278 rfl rfl ?_
  refine Own.iconst X101 (v := 0) at_280 rfl ?_
  refine Own.aaload_ X101 at_281 V41_0 rfl (by decide) rfl ?_
  refine Own.acmp_ X101 (pc' := 285) (same := false) at_282 rfl rfl (decide_eq_false fun q => ne68 (Value.ref.inj q)) (by decide) (by decide) ?_
  refine Own.aload X101 at_285 rfl rfl ?_
  refine Own.iconst X101 (v := 1) at_287 rfl ?_
  refine Own.aaload_ X101 at_288 F53 rfl (by decide) rfl ?_
  refine Own.aload X101 at_289 rfl rfl ?_
  refine Own.iconst X101 (v := 1) at_291 rfl ?_
  refine Own.aaload_ X101 at_292 V41_0 rfl (by decide) rfl ?_
  refine Own.acmp_ X101 (pc' := 296) (same := false) at_293 rfl rfl (decide_eq_false fun q => ne76 (Value.ref.inj q)) (by decide) (by decide) ?_
  refine Own.aload X101 at_296 rfl rfl ?_
  refine Own.iconst X101 (v := 2) at_298 rfl ?_
  refine Own.aaload_ X101 at_299 F53 rfl (by decide) rfl ?_
  refine Own.aload X101 at_300 rfl rfl ?_
  refine Own.iconst X101 (v := 2) at_302 rfl ?_
  refine Own.aaload_ X101 at_303 V41_0 rfl (by decide) rfl ?_
  refine Own.acmp_ X101 (pc' := 307) (same := false) at_304 rfl rfl (decide_eq_false fun q => ne84 (Value.ref.inj q)) (by decide) (by decide) ?_
  refine Own.aload X101 at_307 rfl rfl ?_
  refine Own.iconst X101 (v := 3) at_309 rfl ?_
  refine Own.aaload_ X101 at_310 F53 rfl (by decide) rfl ?_
  refine Own.aload X101 at_311 rfl rfl ?_
  refine Own.iconst X101 (v := 3) at_313 rfl ?_
  refine Own.aaload_ X101 at_314 V41_0 rfl (by decide) rfl ?_
  refine Own.acmp_ X101 (pc' := 318) (same := false) at_315 rfl rfl (decide_eq_false fun q => ne92 (Value.ref.inj q)) (by decide) (by decide) ?_
  refine Own.iconst X101 (v := 1) at_318 rfl ?_
  refine Own.goto_ X101 (pc' := 323) at_319 (by decide) ?_
  refine Own.istore X101 at_323 (l' := #[.val (.long i0), .second, .val (.long i1), .second, .val (.long i2), .second, .val (.int i3), .val (.int i4), .val (.int i5), .val (.double d5), .second, .val (.double d10), .second, .val (.double d18), .second, .val (.double d23), .second, .val (.double d32), .second, .val (.double d38), .second, .val (.double d43), .second, .val (.double d48), .second, .val (.double d53), .second, .val (.ref o56), .val (.ref ro_85), .val (.ref ro_92), .val (.int (1 : Int32)), .val (.int (1 : Int32))]) rfl ?_
  refine Own.aload X101 at_325 rfl rfl ?_
  refine Own.iconst X101 (v := 0) at_327 rfl ?_
  refine Own.aaload_ X101 at_328 F53 rfl (by decide) rfl ?_
  refine Own.iconst X101 (v := 0) at_329 rfl ?_
  refine Own.aload X101 at_330 rfl rfl ?_
  refine Own.iconst X101 (v := 0) at_332 rfl ?_
  refine Own.aaload_ X101 at_333 F53 rfl (by decide) rfl ?_
  refine Own.iconst X101 (v := 0) at_334 rfl ?_
  refine Own.daload_ X101 at_335 F54 (by decide) rfl ?_
  refine Own.dconst1 X101 at_336 ?_
  obtain ⟨d337, e_d337⟩ : ∃ v, FP.dadd d5 4607182418800017408 = v := ⟨_, rfl⟩
  have n_d337 : NoNaN64 d337 := e_d337 ▸ dadd_out n_d5 Own.fin_1
  refine Own.dadd X101 at_337 e_d337 n_d337 ?_
  refine Own.dastore_ X101 (i := 0) at_338 F54 (by decide) rfl (Nat.le_of_ble_eq_true rfl) fr34 fun T102 h102 X102 W102 V102 => ?_
  have F103 := F42.wr W102 fr34
  have F104 := F43.wr W102
  have F105 := F44.other W102 (Or.inl ne33)
  have F106 := F45.other W102 (Or.inl ne33)
  have F107 := F46.other W102 (Or.inl ne33)
  have F108 := F47.other W102 (Or.inl ne33)
  have F109 := F48.other W102 (Or.inl ne33)
  have F110 := F49.other W102 (Or.inl ne33)
  have F111 := F50.other W102 (Or.inl ne33)
  have F112 := F51.other W102 (Or.inl ne33)
  have F113 := F52.other W102 (Or.inl ne33)
  have F114 := F53.other W102 D18_0
  have F115 := F55.other W102 (Ne.symm D18_4)
  have F116 := F56.other W102 (Ne.symm D18_5)
  have F117 := F57.other W102 (Ne.symm D18_6)
  have F118 := V41_0.other W102 (Ne.symm ne61)
  have F119 := V41_1.other W102 (Ne.symm ne68)
  have F120 := V41_2.other W102 (Ne.symm ne75)
  have F121 := V41_3.other W102 (Ne.symm ne82)
  have F122 := V41_4.other W102 (Ne.symm ne89)
  have Z123 : n0 ≤ h102.size := by rw [W102.size]; exact Z58
  have V124 : Arv Z h102 rw0_85 k_rw0_85 .double (4 : Int32) [.double d337, .double d10, .double d18, .double 0] (.double 0) := V102
  refine Own.aload X102 at_339 rfl rfl ?_
  refine Own.iconst X102 (v := 2) at_341 rfl ?_
  refine Own.aaload_ X102 at_342 F114 rfl (by decide) rfl ?_
  refine Own.iconst X102 (v := 2) at_343 rfl ?_
  refine Own.aload X102 at_344 rfl rfl ?_
  refine Own.iconst X102 (v := 2) at_346 rfl ?_
  refine Own.aaload_ X102 at_347 F114 rfl (by decide) rfl ?_
  refine Own.iconst X102 (v := 2) at_348 rfl ?_
  refine Own.daload_ X102 at_349 F116 (by decide) rfl ?_
  refine Own.dconst1 X102 at_350 ?_
  obtain ⟨d351, e_d351⟩ : ∃ v, FP.dadd d53 4607182418800017408 = v := ⟨_, rfl⟩
  have n_d351 : NoNaN64 d351 := e_d351 ▸ dadd_out n_d53 Own.fin_1
  refine Own.dadd X102 at_351 e_d351 n_d351 ?_
  refine Own.dastore_ X102 (i := 2) at_352 F116 (by decide) rfl (Nat.le_of_ble_eq_true rfl) fr38 fun T125 h125 X125 W125 V125 => ?_
  have F126 := F103.wr W125 fr38
  have F127 := F104.wr W125
  have F128 := F105.other W125 (Or.inl ne37)
  have F129 := F106.other W125 (Or.inl ne37)
  have F130 := F107.other W125 (Or.inl ne37)
  have F131 := F108.other W125 (Or.inl ne37)
  have F132 := F109.other W125 (Or.inl ne37)
  have F133 := F110.other W125 (Or.inl ne37)
  have F134 := F111.other W125 (Or.inl ne37)
  have F135 := F112.other W125 (Or.inl ne37)
  have F136 := F113.other W125 (Or.inl ne37)
  have F137 := F114.other W125 D18_2
  have F138 := F115.other W125 D18_7
  have F139 := F117.other W125 (Ne.symm D18_9)
  have F140 := F118.other W125 (Ne.symm ne63)
  have F141 := F119.other W125 (Ne.symm ne70)
  have F142 := F120.other W125 (Ne.symm ne77)
  have F143 := F121.other W125 (Ne.symm ne84)
  have F144 := F122.other W125 (Ne.symm ne91)
  have F145 := V124.other W125 D18_5
  have Z146 : n0 ≤ h125.size := by rw [W125.size]; exact Z123
  have V147 : Arv Z h125 rw2_85 k_rw2_85 .double (4 : Int32) [.double d43, .double d48, .double d351, .double 0] (.double 0) := V125
  refine Own.aload X125 at_353 rfl rfl ?_
  refine Own.iconst X125 (v := 3) at_355 rfl ?_
  refine Own.aaload_ X125 at_356 F137 rfl (by decide) rfl ?_
  refine Own.iconst X125 (v := 3) at_357 rfl ?_
  refine Own.ldc2D X125 at_358 (Own.wd hw 58 rfl) ?_
  refine Own.dastore_ X125 (i := 3) at_361 F139 (by decide) rfl (Nat.le_of_ble_eq_true rfl) fr40 fun T148 h148 X148 W148 V148 => ?_
  have F149 := F126.wr W148 fr40
  have F150 := F127.wr W148
  have F151 := F128.other W148 (Or.inl ne39)
  have F152 := F129.other W148 (Or.inl ne39)
  have F153 := F130.other W148 (Or.inl ne39)
  have F154 := F131.other W148 (Or.inl ne39)
  have F155 := F132.other W148 (Or.inl ne39)
  have F156 := F133.other W148 (Or.inl ne39)
  have F157 := F134.other W148 (Or.inl ne39)
  have F158 := F135.other W148 (Or.inl ne39)
  have F159 := F136.other W148 (Or.inl ne39)
  have F160 := F137.other W148 D18_3
  have F161 := F138.other W148 D18_8
  have F162 := F140.other W148 (Ne.symm ne64)
  have F163 := F141.other W148 (Ne.symm ne71)
  have F164 := F142.other W148 (Ne.symm ne78)
  have F165 := F143.other W148 (Ne.symm ne85)
  have F166 := F144.other W148 (Ne.symm ne92)
  have F167 := F145.other W148 D18_6
  have F168 := V147.other W148 D18_9
  have Z169 : n0 ≤ h148.size := by rw [W148.size]; exact Z146
  have V170 : Arv Z h148 rw3_85 k_rw3_85 .double (4 : Int32) [.double 0, .double 0, .double 0, .double 4611686018427387904] (.double 0) := V148
  refine Own.iload X148 at_362 rfl ?_
  refine Own.iff_ X148 (pc' := 428) at_364 (by decide) (fun q => absurd (show (1 : Int) = (0 : Int) from q) (show ¬ ((1 : Int) = (0 : Int)) from by decide)) (fun _ => ?_)
  refine Own.aload X148 at_367 rfl rfl ?_
  refine Own.iconst X148 (v := 0) at_369 rfl ?_
  refine Own.aaload_ X148 at_370 F162 rfl (by decide) rfl ?_
  refine Own.iconst X148 (v := 0) at_371 rfl ?_
  refine Own.daload_ X148 at_372 F163 (by decide) rfl ?_
  refine Own.dload X148 at_373 rfl ?_
  refine Own.dcmpF X148 (pc' := 428) at_375 at_376 (by decide) n_d5 n_d5 (fun q => absurd (show ¬ (Own.dz d5 = Own.dz d5) from q) (show ¬ (¬ (Own.dz d5 = Own.dz d5)) from fun z => z (rfl))) (fun _ => ?_)
  refine Own.aload X148 at_379 rfl rfl ?_
  refine Own.iconst X148 (v := 2) at_381 rfl ?_
  refine Own.aaload_ X148 at_382 F162 rfl (by decide) rfl ?_
  refine Own.iconst X148 (v := 2) at_383 rfl ?_
  refine Own.daload_ X148 at_384 F165 (by decide) rfl ?_
  refine Own.dload X148 at_385 rfl ?_
  refine Own.dcmpF X148 (pc' := 428) at_387 at_388 (by decide) n_d53 n_d53 (fun q => absurd (show ¬ (Own.dz d53 = Own.dz d53) from q) (show ¬ (¬ (Own.dz d53 = Own.dz d53)) from fun z => z (rfl))) (fun _ => ?_)
  refine Own.aload X148 at_391 rfl rfl ?_
  refine Own.iconst X148 (v := 3) at_393 rfl ?_
  refine Own.aaload_ X148 at_394 F162 rfl (by decide) rfl ?_
  refine Own.iconst X148 (v := 3) at_395 rfl ?_
  refine Own.daload_ X148 at_396 F166 (by decide) rfl ?_
  refine Own.dconst1 X148 at_397 ?_
  refine Own.dcmpF X148 (pc' := 428) at_398 at_399 (by decide) Own.nn_1 Own.nn_1 (fun q => absurd (show ¬ (Own.dz 4607182418800017408 = Own.dz 4607182418800017408) from q) (show ¬ (¬ (Own.dz 4607182418800017408 = Own.dz 4607182418800017408)) from fun z => z (rfl))) (fun _ => ?_)
  refine Own.aload X148 at_402 rfl rfl ?_
  refine Own.callV_ (y := mn_10) (z := mn_10) (a := o56) X148 at_404 (Own.wd hw 59 rfl) (Own.wd hw 60 rfl) (Own.wd hw 62 rfl) (Own.wd hw 61 rfl) rfl (Own.wd hw 2 rfl) (Own.wd hw 63 rfl) (by decide) F150 (rm9 l Z a0 hw o56 d5 h148 n0 Z169 F151) (lenOf pd_15 rfl) rfl (argsL := []) (rest := []) rfl (W := 0) (Nat.le_of_eq rfl) (by decide) (by decide) (by decide) (by decide) fun T171 h171 v171 X171 q171 => ?_
  obtain ⟨rfl, rfl⟩ := q171
  show Own.Go p e below s n0 _ _ _ (T171.setTop (mkF m 407 _ [.double d5]))
  refine Own.dload X171 at_407 rfl ?_
  refine Own.dcmpF X171 (pc' := 428) at_409 at_410 (by decide) n_d5 n_d5 (fun q => absurd (show ¬ (Own.dz d5 = Own.dz d5) from q) (show ¬ (¬ (Own.dz d5 = Own.dz d5)) from fun z => z (rfl))) (fun _ => ?_)
  refine Own.aload X171 at_413 rfl rfl ?_
  refine Own.callV_ (y := mn_11) (z := mn_11) (a := o56) X171 at_415 (Own.wd hw 64 rfl) (Own.wd hw 65 rfl) (Own.wd hw 67 rfl) (Own.wd hw 66 rfl) rfl (Own.wd hw 2 rfl) (Own.wd hw 68 rfl) (by decide) F150 (rm10 l Z a0 hw o56 d53 h148 n0 Z169 F159) (lenOf pd_15 rfl) rfl (argsL := []) (rest := []) rfl (W := 0) (Nat.le_of_eq rfl) (by decide) (by decide) (by decide) (by decide) fun T172 h172 v172 X172 q172 => ?_
  obtain ⟨rfl, rfl⟩ := q172
  show Own.Go p e below s n0 _ _ _ (T172.setTop (mkF m 418 _ [.double d53]))
  refine Own.dload X172 at_418 rfl ?_
  refine Own.dcmpF X172 (pc' := 428) at_420 at_421 (by decide) n_d53 n_d53 (fun q => absurd (show ¬ (Own.dz d53 = Own.dz d53) from q) (show ¬ (¬ (Own.dz d53 = Own.dz d53)) from fun z => z (rfl))) (fun _ => ?_)
  refine Own.iconst X172 (v := 1) at_424 rfl ?_
  refine Own.goto_ X172 (pc' := 429) at_425 (by decide) ?_
  exact Own.retB X172 at_429 (by decide) rfl (by decide) (by decide)
set_option maxRecDepth 65536 in
set_option maxHeartbeats 40000000 in
theorem comes_1 {Post : Tables → Env → Array Value → State → Outcome → State → Prop} (hpost : ∀ tb e args s v u, (limb_1_1.after args s (.returned v) u = true ∧ limb_1_2.after args s (.returned v) u = true ∧ True) → FrameEnd s (.returned v) u (Jvm.fieldLocs frame_1_writes args s ++ Jvm.arrayLocs frame_1_arrays args s ++ Jvm.staticLocs frame_1_statics s) 32 192 → Post tb e args s (.returned v) u) :
    ArmFor flags0 classFile x code maxLocals ret World_1 tables_1 room_1 Calls_1 rest_1 Pre_1 Post := by
  intro l hfl _ _ p e ha hc hk s m args below hf hA hF happ hP
  obtain ⟨hcalls, hrest, hpre⟩ := hP
  obtain ⟨-, -, -, hnamed, -, -, -, hat⟩ := (Spec.applies_iff hf).mp happ
  obtain ⟨hg, hn⟩ := and_e (Cond.before_iff.mp (show (Jvm.Cond.and given_1 narrow_1).before args s = true from hpre))
  obtain ⟨g0, gs1⟩ := and_e hg
  obtain ⟨g1, gs2⟩ := and_e gs1
  obtain ⟨g2, gs3⟩ := and_e gs2
  obtain ⟨g3, gs4⟩ := and_e gs3
  obtain ⟨g4, gs5⟩ := and_e gs4
  obtain ⟨g5, gs6⟩ := and_e gs5
  have g6 := gs6
  obtain ⟨w0, w1, w2, w3, w4, w5, rfl⟩ : ∃ w0 w1 w2 w3 w4 w5 : Value, args = #[w0, w1, w2, w3, w4, w5] := by
    have hs : args.size = 6 := by simpa [Cond.value, given_1] using g0
    obtain ⟨L⟩ := args
    match L, hs with
    | [w0, w1, w2, w3, w4, w5], _ => exact ⟨w0, w1, w2, w3, w4, w5, rfl⟩
  have hw := fun d (hd : d ∈ tables_1) => atoms_spec (ws := Jvm.Cond.code x code maxLocals ret :: tables_1) hat d (List.mem_cons_of_mem _ hd)
  obtain ⟨i0, ei0⟩ := isL_v g1
  obtain rfl : w0 = (.long i0) := Option.some.inj ei0
  obtain ⟨i1, ei1⟩ := isL_v g2
  obtain rfl : w1 = (.long i1) := Option.some.inj ei1
  obtain ⟨i2, ei2⟩ := isL_v g3
  obtain rfl : w2 = (.long i2) := Option.some.inj ei2
  obtain ⟨i3, ei3⟩ := is_v g4
  obtain rfl : w3 = (.int i3) := Option.some.inj ei3
  obtain ⟨i4, ei4⟩ := is_v g5
  obtain rfl : w4 = (.int i4) := Option.some.inj ei4
  obtain ⟨i5, ei5⟩ := is_v g6
  obtain rfl : w5 = (.int i5) := Option.some.inj ei5
  obtain ⟨fe, v_F⟩ := exa_v hn
  have S_F := Sta.start v_F (Or.inr ⟨(Own.wd hw 19 rfl), (Own.wd hw 20 rfl)⟩)
  obtain ⟨n, o, h1, h2, h3, v, L, rfl, ⟨hQ, N⟩, hq⟩ := rm0 l s _ hw i0 i1 i2 i3 i4 i5 s.heap s.heap.size (Nat.le_refl _) fe S_F (Old.start s) p e ha hc hk s m _ below hf ((Spec.applies_iff_loose hf).mp happ).1 ⟨rfl, State.Warmed39.refl s, rfl⟩ trivial
  obtain rfl := hQ
  refine ⟨n, _, h1, h2, h3, hpost _ _ _ _ _ _ ⟨Cond.after_iff.mpr rfl, Cond.after_iff.mpr (eq_i res_at (Term.int_eval (1)) rfl), trivial⟩ ⟨hq.1, hq.2.1, (hq.2.2.sift fun y hy => Or.inr (N y hy)).mono (by decide) (by decide)⟩⟩
theorem main_1_1 : Claimed_1_1 := comes_1 fun _ _ _ _ _ _ h hF => ⟨h.1, hF⟩
theorem main_1_2 : Claimed_1_2 := comes_1 fun _ _ _ _ _ _ h hF => ⟨h.2.1, hF⟩

end Jvm.Pilot.@@N@@
namespace Jvm.Pilot.@@N@@
open Jvm Jvm.ClassFile Sem Op Lib Jvm.Free Jvm.Stand Jvm.Pilot.@@N@@.Jvm.D
/-! MADE BY PROGRAM (witnessworld.py) out of the Statement's table words and the real class files: 20 classes; the members and pool entries that the words name. The judged class is class 1, her method 1. -/
namespace start1
open Jvm.ClassFile
def u (s : String) : CpInfo := .utf8 (stringToUtf16 s)
/-- a pool by its gaps: so many unusable entries, then the entry; so many at the end -/
def gap : Nat → List CpInfo → List CpInfo
  | 0, r => r
  | n + 1, r => .unusable :: gap n r
def poolList (es : List (Nat × CpInfo)) (last : Nat) : List CpInfo := es.foldr (fun e r => gap e.1 (e.2 :: r)) (gap last [])
def pool (es : List (Nat × CpInfo)) (last : Nat) : Array CpInfo := ⟨poolList es last⟩
def fileOf (pool : Array CpInfo) (this : Nat) (attrs : Array Attribute := #[]) (ms : Array MethodInfo := #[]) (fl : Nat := 33) (sup : Nat := 0) (ifs : Array Nat := #[]) (fds : Array FieldInfo := #[]) : ClassFile where
  minorVersion := 0
  majorVersion := 65
  constantPool := pool
  accessFlags := fl
  thisClass := this
  superClass := sup
  interfaces := ifs
  fields := fds
  methods := ms
  attributes := attrs
def plain (name : String) (sup : Option ClassId) : Class where
  name := name
  kind := .ordinary
  loader := none
  accessFlags := 33
  super := sup
  interfaces := #[]
  cf := none
  fields := #[]
  methods := #[]
  instanceTypes := #[]
  staticTypes := #[]
  resolved := #[]
  callSites := []
  init := .initialized
  statics := none
  mirror := none

def pool0 : Array CpInfo := pool [(5, u "<init>"), (0, u "()V"), (1, .class_ 10), (1, u "java/lang/Object")] 113

def k0c0 : Code := { maxStack := 0, maxLocals := 1, code := object_method_1_code, exceptionTable := #[], attributes := #[] }
def k0m0 : Method := { name := "<init>", desc := "()V", sig := { parameters := [], returnType := none }, accessFlags := 1, code := some k0c0 }
/-- java/lang/Object -/
def k0 : Class := { plain "java/lang/Object" none with
  accessFlags := 33
  interfaces := #[]
  cf := some (fileOf pool0 8 #[] #[{ accessFlags := 1, nameIndex := 5, descriptorIndex := 6, attributes := #[] }] 33 0 #[] #[])
  fields := #[]
  methods := #[k0m0]
  instanceTypes := #[]
  staticTypes := #[]
  resolved := Array.replicate 124 none
  statics := none }

def pool1 : Array CpInfo := pool [(2, .class_ 4), (1, u "java/lang/Object"), (0, u "<init>"), (0, u "()V"), (0, .class_ 8), (0, u "com/example/swivel/swivel/Matrix3"), (0, .methodref 7 10), (0, .nameAndType 5 11), (0, u "(DDDDDDDDD)V"), (0, .methodref 7 13), (0, .nameAndType 14 15), (0, u "homogeneousRows"), (0, u "()[[D"), (0, .methodref 17 18), (0, .class_ 19), (0, .nameAndType 20 21), (0, u "com/example/swivel/swivel/Matrix3HomogeneousRowsPinLaw"), (0, u "row"), (0, u "([DDDDD)Z"), (0, .double 4611686018427387904), (1, .methodref 7 25), (0, .nameAndType 26 27), (0, u "m11"), (0, u "()D"), (0, .methodref 7 29), (0, .nameAndType 30 27), (0, u "m33"), (2, u "law"), (0, u "(JJJIII)Z")] 5

def k1m0 : Method := { name := "<init>", desc := "()V", sig := { parameters := [], returnType := none }, accessFlags := 1, code := none }
def k1c1 : Code := { maxStack := 20, maxLocals := 32, code := code, exceptionTable := #[], attributes := #[] }
def k1m1 : Method := { name := "law", desc := "(JJJIII)Z", sig := { parameters := [.long, .long, .long, .int, .int, .int], returnType := some .boolean }, accessFlags := 9, code := some k1c1 }
def k1c2 : Code := { maxStack := 4, maxLocals := 9, code := method_3_code, exceptionTable := #[], attributes := #[] }
def k1m2 : Method := { name := "row", desc := "([DDDDD)Z", sig := { parameters := [(.array .double), .double, .double, .double, .double], returnType := some .boolean }, accessFlags := 10, code := some k1c2 }
/-- com/example/swivel/swivel/Matrix3HomogeneousRowsPinLaw -/
def k1 : Class := { plain "com/example/swivel/swivel/Matrix3HomogeneousRowsPinLaw" (some 0) with
  accessFlags := 49
  interfaces := #[]
  cf := some (fileOf pool1 17 #[] #[{ accessFlags := 1, nameIndex := 5, descriptorIndex := 6, attributes := #[] }, { accessFlags := 9, nameIndex := 33, descriptorIndex := 34, attributes := #[] }, { accessFlags := 10, nameIndex := 20, descriptorIndex := 21, attributes := #[] }] 49 2 #[] #[])
  fields := #[]
  methods := #[k1m0, k1m1, k1m2]
  instanceTypes := #[]
  staticTypes := #[]
  resolved := Array.replicate 40 none
  statics := none }

def pool2 : Array CpInfo := pool [(1, .methodref 2 3), (0, .class_ 4), (0, .nameAndType 5 6), (0, u "com/example/swivel/swivel/Matrix3"), (0, u "requireFinite"), (0, u "(DDDDDDDDD)Lcom/example/swivel/swivel/Matrix3$Entries;"), (0, .methodref 2 8), (0, .nameAndType 9 10), (0, u "<init>"), (0, u "(Lcom/example/swivel/swivel/Matrix3$Entries;DDDDDDDDD)V"), (0, .methodref 12 13), (0, .class_ 14), (0, .nameAndType 9 15), (0, u "java/lang/Object"), (0, u "()V"), (0, .fieldref 2 17), (0, .nameAndType 18 19), (0, u "m11"), (0, u "D"), (0, .fieldref 2 21), (0, .nameAndType 22 19), (0, u "m12"), (0, .fieldref 2 24), (0, .nameAndType 25 19), (0, u "m13"), (0, .fieldref 2 27), (0, .nameAndType 28 19), (0, u "m21"), (0, .fieldref 2 30), (0, .nameAndType 31 19), (0, u "m22"), (0, .fieldref 2 33), (0, .nameAndType 34 19), (0, u "m23"), (0, .fieldref 2 36), (0, .nameAndType 37 19), (0, u "m31"), (0, .fieldref 2 39), (0, .nameAndType 40 19), (0, u "m32"), (0, .fieldref 2 42), (0, .nameAndType 43 19), (0, u "m33"), (0, .methodref 45 46), (0, .class_ 47), (0, .nameAndType 48 49), (0, u "java/lang/Double"), (0, u "isFinite"), (0, u "(D)Z"), (5, .fieldref 56 57), (0, .class_ 58), (0, .nameAndType 59 60), (0, u "com/example/swivel/swivel/Matrix3$Entries"), (0, u "FINITE"), (0, u "Lcom/example/swivel/swivel/Matrix3$Entries;"), (11, u "()D"), (123, .class_ 197), (0, u "[D"), (11, u "ORTHOGONALITY_TOLERANCE"), (1, u "SERIES_LIMIT"), (2, u "(DDDDDDDDD)V"), (8, u "()[[D"), (0, u "homogeneousRows")] 28

def k2c0 : Code := { maxStack := 20, maxLocals := 19, code := prog_6_method_1_code, exceptionTable := #[], attributes := #[] }
def k2m0 : Method := { name := "<init>", desc := "(DDDDDDDDD)V", sig := { parameters := [.double, .double, .double, .double, .double, .double, .double, .double, .double], returnType := none }, accessFlags := 1, code := some k2c0 }
def k2c1 : Code := { maxStack := 3, maxLocals := 20, code := prog_6_method_2_code, exceptionTable := #[], attributes := #[] }
def k2m1 : Method := { name := "<init>", desc := "(Lcom/example/swivel/swivel/Matrix3$Entries;DDDDDDDDD)V", sig := { parameters := [(.object "com/example/swivel/swivel/Matrix3$Entries"), .double, .double, .double, .double, .double, .double, .double, .double, .double], returnType := none }, accessFlags := 2, code := some k2c1 }
def k2c2 : Code := { maxStack := 8, maxLocals := 18, code := prog_6_method_3_code, exceptionTable := #[], attributes := #[] }
def k2m2 : Method := { name := "requireFinite", desc := "(DDDDDDDDD)Lcom/example/swivel/swivel/Matrix3$Entries;", sig := { parameters := [.double, .double, .double, .double, .double, .double, .double, .double, .double], returnType := some (.object "com/example/swivel/swivel/Matrix3$Entries") }, accessFlags := 10, code := some k2c2 }
def k2c3 : Code := { maxStack := 8, maxLocals := 1, code := prog_6_method_15_code, exceptionTable := #[], attributes := #[] }
def k2m3 : Method := { name := "homogeneousRows", desc := "()[[D", sig := { parameters := [], returnType := some (.array (.array .double)) }, accessFlags := 1, code := some k2c3 }
def k2c4 : Code := { maxStack := 2, maxLocals := 1, code := prog_6_method_16_code, exceptionTable := #[], attributes := #[] }
def k2m4 : Method := { name := "m11", desc := "()D", sig := { parameters := [], returnType := some .double }, accessFlags := 1, code := some k2c4 }
def k2c5 : Code := { maxStack := 2, maxLocals := 1, code := prog_6_method_24_code, exceptionTable := #[], attributes := #[] }
def k2m5 : Method := { name := "m33", desc := "()D", sig := { parameters := [], returnType := some .double }, accessFlags := 1, code := some k2c5 }
/-- com/example/swivel/swivel/Matrix3 -/
def k2 : Class := { plain "com/example/swivel/swivel/Matrix3" (some 0) with
  accessFlags := 49
  interfaces := #[]
  cf := some (fileOf pool2 2 #[.nestMembers #[56]] #[{ accessFlags := 1, nameIndex := 9, descriptorIndex := 214, attributes := #[] }, { accessFlags := 2, nameIndex := 9, descriptorIndex := 10, attributes := #[] }, { accessFlags := 10, nameIndex := 5, descriptorIndex := 6, attributes := #[] }, { accessFlags := 1, nameIndex := 224, descriptorIndex := 223, attributes := #[] }, { accessFlags := 1, nameIndex := 18, descriptorIndex := 72, attributes := #[] }, { accessFlags := 1, nameIndex := 43, descriptorIndex := 72, attributes := #[] }] 49 12 #[] #[{ accessFlags := 26, nameIndex := 209, descriptorIndex := 19, attributes := #[] }, { accessFlags := 26, nameIndex := 211, descriptorIndex := 19, attributes := #[] }, { accessFlags := 18, nameIndex := 18, descriptorIndex := 19, attributes := #[] }, { accessFlags := 18, nameIndex := 22, descriptorIndex := 19, attributes := #[] }, { accessFlags := 18, nameIndex := 25, descriptorIndex := 19, attributes := #[] }, { accessFlags := 18, nameIndex := 28, descriptorIndex := 19, attributes := #[] }, { accessFlags := 18, nameIndex := 31, descriptorIndex := 19, attributes := #[] }, { accessFlags := 18, nameIndex := 34, descriptorIndex := 19, attributes := #[] }, { accessFlags := 18, nameIndex := 37, descriptorIndex := 19, attributes := #[] }, { accessFlags := 18, nameIndex := 40, descriptorIndex := 19, attributes := #[] }, { accessFlags := 18, nameIndex := 43, descriptorIndex := 19, attributes := #[] }])
  fields := #[{ name := "ORTHOGONALITY_TOLERANCE", type := .double, accessFlags := 26, slot := 0, constantValue := 0 }, { name := "SERIES_LIMIT", type := .double, accessFlags := 26, slot := 1, constantValue := 0 }, { name := "m11", type := .double, accessFlags := 18, slot := 0, constantValue := 0 }, { name := "m12", type := .double, accessFlags := 18, slot := 1, constantValue := 0 }, { name := "m13", type := .double, accessFlags := 18, slot := 2, constantValue := 0 }, { name := "m21", type := .double, accessFlags := 18, slot := 3, constantValue := 0 }, { name := "m22", type := .double, accessFlags := 18, slot := 4, constantValue := 0 }, { name := "m23", type := .double, accessFlags := 18, slot := 5, constantValue := 0 }, { name := "m31", type := .double, accessFlags := 18, slot := 6, constantValue := 0 }, { name := "m32", type := .double, accessFlags := 18, slot := 7, constantValue := 0 }, { name := "m33", type := .double, accessFlags := 18, slot := 8, constantValue := 0 }]
  methods := #[k2m0, k2m1, k2m2, k2m3, k2m4, k2m5]
  instanceTypes := #[.double, .double, .double, .double, .double, .double, .double, .double, .double]
  staticTypes := #[.double, .double]
  resolved := Array.replicate 253 none
  statics := none }

def pool3 : Array CpInfo := pool [(1, .class_ 2), (0, u "java/io/Serializable"), (0, .class_ 4), (0, u "java/lang/Object")] 2

/-- java/io/Serializable -/
def k3 : Class := { plain "java/io/Serializable" (some 0) with
  accessFlags := 1537
  interfaces := #[]
  cf := some (fileOf pool3 1 #[] #[] 1537 3 #[] #[])
  fields := #[]
  methods := #[]
  instanceTypes := #[]
  staticTypes := #[]
  resolved := Array.replicate 7 none
  statics := none }

def pool4 : Array CpInfo := pool [(2, .class_ 4), (1, u "java/lang/Object"), (0, u "<init>"), (0, u "()V"), (1, .class_ 10), (1, u "java/lang/Number"), (2, .class_ 14), (0, u "java/io/Serializable"), (0, u "serialVersionUID"), (0, u "J")] 20

def k4m0 : Method := { name := "<init>", desc := "()V", sig := { parameters := [], returnType := none }, accessFlags := 1, code := none }
/-- java/lang/Number -/
def k4 : Class := { plain "java/lang/Number" (some 0) with
  accessFlags := 1057
  interfaces := #[3]
  cf := some (fileOf pool4 8 #[] #[{ accessFlags := 1, nameIndex := 5, descriptorIndex := 6, attributes := #[] }] 1057 2 #[13] #[{ accessFlags := 26, nameIndex := 15, descriptorIndex := 16, attributes := #[] }])
  fields := #[{ name := "serialVersionUID", type := .long, accessFlags := 26, slot := 0, constantValue := 0 }]
  methods := #[k4m0]
  instanceTypes := #[]
  staticTypes := #[.long]
  resolved := Array.replicate 37 none
  statics := none }

def pool5 : Array CpInfo := pool [(1, .class_ 2), (0, u "java/lang/Comparable"), (0, .class_ 4), (0, u "java/lang/Object")] 7

/-- java/lang/Comparable -/
def k5 : Class := { plain "java/lang/Comparable" (some 0) with
  accessFlags := 1537
  interfaces := #[]
  cf := some (fileOf pool5 1 #[] #[] 1537 3 #[] #[])
  fields := #[]
  methods := #[]
  instanceTypes := #[]
  staticTypes := #[]
  resolved := Array.replicate 12 none
  statics := none }

def pool6 : Array CpInfo := pool [(1, .class_ 2), (0, u "java/lang/constant/Constable"), (0, .class_ 4), (0, u "java/lang/Object")] 6

/-- java/lang/constant/Constable -/
def k6 : Class := { plain "java/lang/constant/Constable" (some 0) with
  accessFlags := 1537
  interfaces := #[]
  cf := some (fileOf pool6 1 #[] #[] 1537 3 #[] #[])
  fields := #[]
  methods := #[]
  instanceTypes := #[]
  staticTypes := #[]
  resolved := Array.replicate 11 none
  statics := none }

def pool7 : Array CpInfo := pool [(1, .class_ 2), (0, u "java/lang/constant/ConstantDesc"), (0, .class_ 4), (0, u "java/lang/Object")] 32

/-- java/lang/constant/ConstantDesc -/
def k7 : Class := { plain "java/lang/constant/ConstantDesc" (some 0) with
  accessFlags := 1537
  interfaces := #[]
  cf := some (fileOf pool7 1 #[] #[] 1537 3 #[] #[])
  fields := #[]
  methods := #[]
  instanceTypes := #[]
  staticTypes := #[]
  resolved := Array.replicate 37 none
  statics := none }

def pool8 : Array CpInfo := pool [(1, .class_ 2), (0, u "java/lang/Double"), (10, u "isFinite"), (0, u "(D)Z"), (8, .class_ 25), (1, u "java/lang/Math"), (12, .methodref 23 39), (0, .nameAndType 40 41), (0, u "abs"), (0, u "(D)D"), (69, .double 9218868437227405311), (2, .class_ 116), (1, u "java/lang/Number"), (3, u "value"), (0, u "D"), (51, u "TYPE"), (0, u "Ljava/lang/Class;"), (0, .class_ 176), (0, u "java/lang/Comparable"), (0, .class_ 178), (0, u "java/lang/constant/Constable"), (0, .class_ 180), (0, u "java/lang/constant/ConstantDesc"), (0, u "POSITIVE_INFINITY"), (3, u "NEGATIVE_INFINITY"), (2, u "NaN"), (2, u "MAX_VALUE"), (0, u "MIN_NORMAL"), (0, u "MIN_VALUE"), (2, u "SIZE"), (0, u "I"), (1, u "PRECISION"), (1, u "MAX_EXPONENT"), (1, u "MIN_EXPONENT"), (1, u "BYTES"), (3, u "serialVersionUID"), (0, u "J")] 79

def k8c0 : Code := { maxStack := 4, maxLocals := 2, code := jdk_117_method_8_code, exceptionTable := #[], attributes := #[] }
def k8m0 : Method := { name := "isFinite", desc := "(D)Z", sig := { parameters := [.double], returnType := some .boolean }, accessFlags := 9, code := some k8c0 }
/-- java/lang/Double -/
def k8 : Class := { plain "java/lang/Double" (some 4) with
  accessFlags := 49
  interfaces := #[5, 6, 7]
  cf := some (fileOf pool8 1 #[] #[{ accessFlags := 9, nameIndex := 13, descriptorIndex := 14, attributes := #[] }] 49 114 #[175, 177, 179] #[{ accessFlags := 25, nameIndex := 181, descriptorIndex := 121, attributes := #[] }, { accessFlags := 25, nameIndex := 185, descriptorIndex := 121, attributes := #[] }, { accessFlags := 25, nameIndex := 188, descriptorIndex := 121, attributes := #[] }, { accessFlags := 25, nameIndex := 191, descriptorIndex := 121, attributes := #[] }, { accessFlags := 25, nameIndex := 192, descriptorIndex := 121, attributes := #[] }, { accessFlags := 25, nameIndex := 193, descriptorIndex := 121, attributes := #[] }, { accessFlags := 25, nameIndex := 196, descriptorIndex := 197, attributes := #[] }, { accessFlags := 25, nameIndex := 199, descriptorIndex := 197, attributes := #[] }, { accessFlags := 25, nameIndex := 201, descriptorIndex := 197, attributes := #[] }, { accessFlags := 25, nameIndex := 203, descriptorIndex := 197, attributes := #[] }, { accessFlags := 25, nameIndex := 205, descriptorIndex := 197, attributes := #[] }, { accessFlags := 25, nameIndex := 173, descriptorIndex := 174, attributes := #[] }, { accessFlags := 18, nameIndex := 120, descriptorIndex := 121, attributes := #[] }, { accessFlags := 26, nameIndex := 209, descriptorIndex := 210, attributes := #[] }])
  fields := #[{ name := "POSITIVE_INFINITY", type := .double, accessFlags := 25, slot := 0, constantValue := 0 }, { name := "NEGATIVE_INFINITY", type := .double, accessFlags := 25, slot := 1, constantValue := 0 }, { name := "NaN", type := .double, accessFlags := 25, slot := 2, constantValue := 0 }, { name := "MAX_VALUE", type := .double, accessFlags := 25, slot := 3, constantValue := 0 }, { name := "MIN_NORMAL", type := .double, accessFlags := 25, slot := 4, constantValue := 0 }, { name := "MIN_VALUE", type := .double, accessFlags := 25, slot := 5, constantValue := 0 }, { name := "SIZE", type := .int, accessFlags := 25, slot := 6, constantValue := 0 }, { name := "PRECISION", type := .int, accessFlags := 25, slot := 7, constantValue := 0 }, { name := "MAX_EXPONENT", type := .int, accessFlags := 25, slot := 8, constantValue := 0 }, { name := "MIN_EXPONENT", type := .int, accessFlags := 25, slot := 9, constantValue := 0 }, { name := "BYTES", type := .int, accessFlags := 25, slot := 10, constantValue := 0 }, { name := "TYPE", type := (.object "java/lang/Class"), accessFlags := 25, slot := 11, constantValue := 0 }, { name := "value", type := .double, accessFlags := 18, slot := 0, constantValue := 0 }, { name := "serialVersionUID", type := .long, accessFlags := 26, slot := 12, constantValue := 0 }]
  methods := #[k8m0]
  instanceTypes := #[.double]
  staticTypes := #[.double, .double, .double, .double, .double, .double, .int, .int, .int, .int, .int, (.object "java/lang/Class"), .long]
  resolved := Array.replicate 290 none
  statics := none }

def pool9 : Array CpInfo := pool [(1, .class_ 2), (0, u "java/lang/Math"), (1, .class_ 6), (1, u "java/lang/Object"), (0, u "<init>"), (0, u "()V"), (5, u "(D)D"), (83, .class_ 100), (1, u "java/lang/Math$RandomNumberGeneratorHolder"), (23, u "abs"), (47, u "negativeZeroFloatBits"), (0, u "J"), (2, u "negativeZeroDoubleBits"), (68, u "$assertionsDisabled"), (0, u "Z"), (91, u "twoToTheDoubleScaleDown"), (0, u "D"), (4, u "twoToTheDoubleScaleUp"), (9, u "E"), (3, u "PI"), (2, u "TAU"), (2, u "DEGREES_TO_RADIANS"), (0, u "RADIANS_TO_DEGREES")] 94

def k9m0 : Method := { name := "<init>", desc := "()V", sig := { parameters := [], returnType := none }, accessFlags := 2, code := none }
def k9c1 : Code := { maxStack := 4, maxLocals := 2, code := jdk_29_method_64_code, exceptionTable := #[], attributes := #[] }
def k9m1 : Method := { name := "abs", desc := "(D)D", sig := { parameters := [.double], returnType := some .double }, accessFlags := 9, code := some k9c1 }
/-- java/lang/Math -/
def k9 : Class := { plain "java/lang/Math" (some 0) with
  accessFlags := 49
  interfaces := #[]
  cf := some (fileOf pool9 1 #[.nestMembers #[98]] #[{ accessFlags := 2, nameIndex := 7, descriptorIndex := 8, attributes := #[] }, { accessFlags := 9, nameIndex := 124, descriptorIndex := 14, attributes := #[] }] 49 4 #[] #[{ accessFlags := 25, nameIndex := 354, descriptorIndex := 339, attributes := #[] }, { accessFlags := 25, nameIndex := 358, descriptorIndex := 339, attributes := #[] }, { accessFlags := 25, nameIndex := 361, descriptorIndex := 339, attributes := #[] }, { accessFlags := 26, nameIndex := 364, descriptorIndex := 339, attributes := #[] }, { accessFlags := 26, nameIndex := 365, descriptorIndex := 339, attributes := #[] }, { accessFlags := 26, nameIndex := 172, descriptorIndex := 173, attributes := #[] }, { accessFlags := 26, nameIndex := 176, descriptorIndex := 173, attributes := #[] }, { accessFlags := 8, nameIndex := 344, descriptorIndex := 339, attributes := #[] }, { accessFlags := 8, nameIndex := 338, descriptorIndex := 339, attributes := #[] }, { accessFlags := 4120, nameIndex := 245, descriptorIndex := 246, attributes := #[] }])
  fields := #[{ name := "E", type := .double, accessFlags := 25, slot := 0, constantValue := 0 }, { name := "PI", type := .double, accessFlags := 25, slot := 1, constantValue := 0 }, { name := "TAU", type := .double, accessFlags := 25, slot := 2, constantValue := 0 }, { name := "DEGREES_TO_RADIANS", type := .double, accessFlags := 26, slot := 3, constantValue := 0 }, { name := "RADIANS_TO_DEGREES", type := .double, accessFlags := 26, slot := 4, constantValue := 0 }, { name := "negativeZeroFloatBits", type := .long, accessFlags := 26, slot := 5, constantValue := 0 }, { name := "negativeZeroDoubleBits", type := .long, accessFlags := 26, slot := 6, constantValue := 0 }, { name := "twoToTheDoubleScaleUp", type := .double, accessFlags := 8, slot := 7, constantValue := 0 }, { name := "twoToTheDoubleScaleDown", type := .double, accessFlags := 8, slot := 8, constantValue := 0 }, { name := "$assertionsDisabled", type := .boolean, accessFlags := 4120, slot := 9, constantValue := 0 }]
  methods := #[k9m0, k9m1]
  instanceTypes := #[]
  staticTypes := #[.double, .double, .double, .double, .double, .long, .long, .double, .double, .boolean]
  resolved := Array.replicate 460 none
  statics := none }

def pool10 : Array CpInfo := pool [(2, .class_ 4), (1, u "java/lang/Enum"), (0, u "name"), (0, u "Ljava/lang/String;"), (2, u "ordinal"), (0, u "I"), (1, .class_ 14), (1, u "java/lang/Object"), (4, u "hash"), (86, .class_ 108), (1, u "java/lang/Enum$EnumDesc"), (2, .class_ 112), (0, u "java/lang/constant/Constable"), (0, .class_ 114), (0, u "java/lang/Comparable"), (0, .class_ 116), (0, u "java/io/Serializable")] 87

/-- java/lang/Enum -/
def k10 : Class := { plain "java/lang/Enum" (some 0) with
  accessFlags := 1057
  interfaces := #[6, 5, 3]
  cf := some (fileOf pool10 2 #[.nestMembers #[106]] #[] 1057 12 #[111, 113, 115] #[{ accessFlags := 18, nameIndex := 5, descriptorIndex := 6, attributes := #[] }, { accessFlags := 18, nameIndex := 9, descriptorIndex := 10, attributes := #[] }, { accessFlags := 2, nameIndex := 19, descriptorIndex := 10, attributes := #[] }])
  fields := #[{ name := "name", type := (.object "java/lang/String"), accessFlags := 18, slot := 0, constantValue := 0 }, { name := "ordinal", type := .int, accessFlags := 18, slot := 1, constantValue := 0 }, { name := "hash", type := .int, accessFlags := 2, slot := 2, constantValue := 0 }]
  methods := #[]
  instanceTypes := #[(.object "java/lang/String"), .int, .int]
  staticTypes := #[]
  resolved := Array.replicate 204 none
  statics := none }

def pool11 : Array CpInfo := pool [(1, .class_ 2), (0, u "com/example/swivel/swivel/Matrix3$Entries"), (2, u "FINITE"), (0, u "Lcom/example/swivel/swivel/Matrix3$Entries;"), (2, u "$VALUES"), (0, u "[Lcom/example/swivel/swivel/Matrix3$Entries;"), (6, .class_ 19), (1, u "java/lang/Enum"), (24, .class_ 45), (0, u "com/example/swivel/swivel/Matrix3")] 2

/-- com/example/swivel/swivel/Matrix3$Entries -/
def k11 : Class := { plain "com/example/swivel/swivel/Matrix3$Entries" (some 10) with
  accessFlags := 16432
  interfaces := #[]
  cf := some (fileOf pool11 1 #[.nestHost 44] #[] 16432 17 #[] #[{ accessFlags := 16409, nameIndex := 5, descriptorIndex := 6, attributes := #[] }, { accessFlags := 4122, nameIndex := 9, descriptorIndex := 10, attributes := #[] }])
  fields := #[{ name := "FINITE", type := (.object "com/example/swivel/swivel/Matrix3$Entries"), accessFlags := 16409, slot := 0, constantValue := 0 }, { name := "$VALUES", type := (.array (.object "com/example/swivel/swivel/Matrix3$Entries")), accessFlags := 4122, slot := 1, constantValue := 0 }]
  methods := #[]
  instanceTypes := #[(.object "java/lang/String"), .int, .int]
  staticTypes := #[(.object "com/example/swivel/swivel/Matrix3$Entries"), (.array (.object "com/example/swivel/swivel/Matrix3$Entries"))]
  resolved := Array.replicate 48 none
  statics := some 0 }

def pool12 : Array CpInfo := pool [(1, u "java/lang/Cloneable"), (0, .class_ 1), (0, u "java/lang/Object"), (0, .class_ 3)] 3

/-- java/lang/Cloneable -/
def k12 : Class := { plain "java/lang/Cloneable" (some 0) with
  accessFlags := 1537
  interfaces := #[]
  cf := some (fileOf pool12 2 #[] #[] 1537 4 #[] #[])
  fields := #[]
  methods := #[]
  instanceTypes := #[]
  staticTypes := #[]
  resolved := Array.replicate 8 none
  statics := none }

/-- the primitive byte -/
def k13 : Class := { plain "byte" none with kind := .primitive 'B', accessFlags := 0x411 }
/-- [B -/
def k14 : Class := { plain "[B" (some 0) with kind := .array 13 .byte, interfaces := #[12, 3], accessFlags := 1041 }

/-- the primitive double -/
def k15 : Class := { plain "double" none with kind := .primitive 'D', accessFlags := 0x411 }
/-- [D -/
def k16 : Class := { plain "[D" (some 0) with kind := .array 15 .double, interfaces := #[12, 3], accessFlags := 1041 }

/-- the primitive int -/
def k17 : Class := { plain "int" none with kind := .primitive 'I', accessFlags := 0x411 }
/-- [I -/
def k18 : Class := { plain "[I" (some 0) with kind := .array 17 .int, interfaces := #[12, 3], accessFlags := 1041 }

/-- [[D -/
def k19 : Class := { plain "[[D" (some 0) with kind := .array 16 (.array .double), interfaces := #[12, 3], accessFlags := 1041 }

def heap : Heap := #[{ cls := 11, slots := #[.ref 1, .null], vm := .statics 11 },
  { cls := 11, slots := #[.null, .int 0, .int 0], vm := .none }]
def classes : Array Class := #[k0, k1, k2, k3, k4, k5, k6, k7, k8, k9, k10, k11, k12, k13, k14, k15, k16, k17, k18, k19]
def interned : List (Array UInt16 × Addr) := []
def slotsUsed : Nat := 5
def theMethod : MethodId := ⟨1, 1⟩
def args0 : Array Value := #[.long 5, .long 7, .long 0, .int 3, .int 2, .int 9]
def aboutOver (below : List Frame) : State where
  vm := { classes := classes, interned := interned.toArray }
  heap := heap
  slotsUsed := slotsUsed
  threads := #[{ frames := .invoking theMethod args0 :: below }]
def below0 : List Frame := [.native { method := ⟨0, 0⟩, args := #[] }]
def about1 : State := aboutOver below0
def p0 : Program := .bare "" "" ""
def e0 : Env := launch0.env 0 0 0
theorem w_frames : about1.frames = Frame.invoking theMethod args0 :: below0 := rfl
set_option maxRecDepth 65536 in
theorem w_args : argsFit about1.vm theMethod args0 = true := by decide +kernel
set_option maxRecDepth 65536 in
theorem w_heap : heapFits about1 = true := by decide +kernel
set_option maxRecDepth 65536 in
theorem w_runnable : about1.curStatus? = some .runnable := by decide +kernel
set_option maxRecDepth 65536 in
theorem w_alone : about1.alone = true := by decide +kernel
set_option maxRecDepth 65536 in
theorem w_named : about1.methodNamed? x = some theMethod := by decide +kernel
set_option maxRecDepth 65536 in
theorem w_hears : about1.hears theMethod below0 = true := by decide +kernel
set_option maxRecDepth 65536 in
theorem w_ripe : about1.ripe theMethod args0 below0 = true := by decide +kernel
theorem w_running : about1.status = .running := rfl
set_option maxRecDepth 65536 in
theorem w_room : about1.hasRoom e0.platform room_1 = true :=
  launch0.hasRoom_least _ room_1 (by decide +kernel) (by decide +kernel) (by decide +kernel) (by decide +kernel) (by decide +kernel) (by decide +kernel)
theorem allAtoms_all (ts : List Jvm.Cond) (a : Array Jvm.Value) (st : Jvm.State) : (allAtoms ts).before a st = ts.all (fun c => c.before a st) := by
  induction ts with
  | nil => rfl
  | cons c t ih =>
    show (Jvm.Cond.and c (allAtoms t)).before a st = _
    rw [Jvm.Cond.before_and, ih, List.all_cons]
def words1 : List Jvm.Cond := Jvm.Cond.code x code maxLocals ret :: tables_1
/-- a 'code' word, met by the world's own term for the bytes: nothing is compared byte by byte -/
theorem code_word {y : MethodName} {bytes : ByteArray} {mx : Nat} {rt : Option FieldType} {a : Array Value} {s : State} {m : MethodId} {meth : Method} {c : Code} (h1 : s.methodNamed? y = some m) (h2 : s.vm.method? m = some meth) (h3 : meth.code = some c) (h4 : c.code = bytes)
    (h5 : (c.maxLocals == mx && c.exceptionTable.isEmpty && decide (c.maxStack ≤ mostOperands) && decide (meth.sig.returnType = rt) && !meth.locks && decide (parseMethodDescriptor y.desc = some meth.sig)) = true) : (Jvm.Cond.code y bytes mx rt).before a s = true := by
  simp only [Bool.and_eq_true, beq_iff_eq, Bool.not_eq_true', decide_eq_true_eq] at h5
  obtain ⟨⟨⟨⟨⟨g1, g2⟩, g3⟩, g4⟩, g5⟩, g6⟩ := h5
  simp [Cond.before, Cond.holds, Cond.value, h1, h2, h3, h4, g1, g2, g3, g4, g5, g6]
def isCode : Jvm.Cond → Bool
  | .code _ _ _ _ => true
  | _ => false
theorem all_split {L : List Jvm.Cond} {P : Jvm.Cond → Bool} (h1 : L.all (fun c => isCode c || P c) = true) (h2 : ∀ c ∈ L.filter isCode, P c = true) : L.all P = true := by
  refine List.all_eq_true.mpr fun c hc => ?_
  have h := List.all_eq_true.mp h1 c hc
  rcases Bool.eq_false_or_eq_true (isCode c) with hi | hi
  · exact h2 c (List.mem_filter.mpr ⟨hc, hi⟩)
  · simpa [hi] using h
set_option maxRecDepth 65536 in
theorem w_c0 : (Jvm.Cond.code x code maxLocals ret).before args0 about1 = true := code_word (m := ⟨1, 1⟩) (meth := k1m1) (c := k1c1) (by decide +kernel) rfl rfl rfl (by decide +kernel)
set_option maxRecDepth 65536 in
theorem w_c1 : (Jvm.Cond.code ({ cls := "com/example/swivel/swivel/Matrix3", name := "<init>", desc := "(DDDDDDDDD)V" } : Jvm.MethodName) prog_6_method_1_code (19 : Nat) (Option.none : Option Jvm.ClassFile.FieldType)).before args0 about1 = true := code_word (m := ⟨2, 0⟩) (meth := k2m0) (c := k2c0) (by decide +kernel) rfl rfl rfl (by decide +kernel)
set_option maxRecDepth 65536 in
theorem w_c2 : (Jvm.Cond.code ({ cls := "com/example/swivel/swivel/Matrix3", name := "requireFinite", desc := "(DDDDDDDDD)Lcom/example/swivel/swivel/Matrix3$Entries;" } : Jvm.MethodName) prog_6_method_3_code (18 : Nat) (Option.some (Jvm.ClassFile.FieldType.object "com/example/swivel/swivel/Matrix3$Entries"))).before args0 about1 = true := code_word (m := ⟨2, 2⟩) (meth := k2m2) (c := k2c2) (by decide +kernel) rfl rfl rfl (by decide +kernel)
set_option maxRecDepth 65536 in
theorem w_c3 : (Jvm.Cond.code ({ cls := "java/lang/Double", name := "isFinite", desc := "(D)Z" } : Jvm.MethodName) jdk_117_method_8_code (2 : Nat) (Option.some Jvm.ClassFile.FieldType.boolean)).before args0 about1 = true := code_word (m := ⟨8, 0⟩) (meth := k8m0) (c := k8c0) (by decide +kernel) rfl rfl rfl (by decide +kernel)
set_option maxRecDepth 65536 in
theorem w_c4 : (Jvm.Cond.code ({ cls := "java/lang/Math", name := "abs", desc := "(D)D" } : Jvm.MethodName) jdk_29_method_64_code (2 : Nat) (Option.some Jvm.ClassFile.FieldType.double)).before args0 about1 = true := code_word (m := ⟨9, 1⟩) (meth := k9m1) (c := k9c1) (by decide +kernel) rfl rfl rfl (by decide +kernel)
set_option maxRecDepth 65536 in
theorem w_c5 : (Jvm.Cond.code ({ cls := "com/example/swivel/swivel/Matrix3", name := "<init>", desc := "(Lcom/example/swivel/swivel/Matrix3$Entries;DDDDDDDDD)V" } : Jvm.MethodName) prog_6_method_2_code (20 : Nat) (Option.none : Option Jvm.ClassFile.FieldType)).before args0 about1 = true := code_word (m := ⟨2, 1⟩) (meth := k2m1) (c := k2c1) (by decide +kernel) rfl rfl rfl (by decide +kernel)
set_option maxRecDepth 65536 in
theorem w_c6 : (Jvm.Cond.code ({ cls := "java/lang/Object", name := "<init>", desc := "()V" } : Jvm.MethodName) object_method_1_code (1 : Nat) (Option.none : Option Jvm.ClassFile.FieldType)).before args0 about1 = true := code_word (m := ⟨0, 0⟩) (meth := k0m0) (c := k0c0) (by decide +kernel) rfl rfl rfl (by decide +kernel)
set_option maxRecDepth 65536 in
theorem w_c7 : (Jvm.Cond.code ({ cls := "com/example/swivel/swivel/Matrix3", name := "homogeneousRows", desc := "()[[D" } : Jvm.MethodName) prog_6_method_15_code (1 : Nat) (Option.some (Jvm.ClassFile.FieldType.array (Jvm.ClassFile.FieldType.array Jvm.ClassFile.FieldType.double)))).before args0 about1 = true := code_word (m := ⟨2, 3⟩) (meth := k2m3) (c := k2c3) (by decide +kernel) rfl rfl rfl (by decide +kernel)
set_option maxRecDepth 65536 in
theorem w_c8 : (Jvm.Cond.code ({ cls := "com/example/swivel/swivel/Matrix3HomogeneousRowsPinLaw", name := "row", desc := "([DDDDD)Z" } : Jvm.MethodName) method_3_code (9 : Nat) (Option.some Jvm.ClassFile.FieldType.boolean)).before args0 about1 = true := code_word (m := ⟨1, 2⟩) (meth := k1m2) (c := k1c2) (by decide +kernel) rfl rfl rfl (by decide +kernel)
set_option maxRecDepth 65536 in
theorem w_c9 : (Jvm.Cond.code ({ cls := "com/example/swivel/swivel/Matrix3", name := "m11", desc := "()D" } : Jvm.MethodName) prog_6_method_16_code (1 : Nat) (Option.some Jvm.ClassFile.FieldType.double)).before args0 about1 = true := code_word (m := ⟨2, 4⟩) (meth := k2m4) (c := k2c4) (by decide +kernel) rfl rfl rfl (by decide +kernel)
set_option maxRecDepth 65536 in
theorem w_c10 : (Jvm.Cond.code ({ cls := "com/example/swivel/swivel/Matrix3", name := "m33", desc := "()D" } : Jvm.MethodName) prog_6_method_24_code (1 : Nat) (Option.some Jvm.ClassFile.FieldType.double)).before args0 about1 = true := code_word (m := ⟨2, 5⟩) (meth := k2m5) (c := k2c5) (by decide +kernel) rfl rfl rfl (by decide +kernel)
def codes1 : List Jvm.Cond := [Jvm.Cond.code x code maxLocals ret, Jvm.Cond.code ({ cls := "com/example/swivel/swivel/Matrix3", name := "<init>", desc := "(DDDDDDDDD)V" } : Jvm.MethodName) prog_6_method_1_code (19 : Nat) (Option.none : Option Jvm.ClassFile.FieldType), Jvm.Cond.code ({ cls := "com/example/swivel/swivel/Matrix3", name := "requireFinite", desc := "(DDDDDDDDD)Lcom/example/swivel/swivel/Matrix3$Entries;" } : Jvm.MethodName) prog_6_method_3_code (18 : Nat) (Option.some (Jvm.ClassFile.FieldType.object "com/example/swivel/swivel/Matrix3$Entries")), Jvm.Cond.code ({ cls := "java/lang/Double", name := "isFinite", desc := "(D)Z" } : Jvm.MethodName) jdk_117_method_8_code (2 : Nat) (Option.some Jvm.ClassFile.FieldType.boolean), Jvm.Cond.code ({ cls := "java/lang/Math", name := "abs", desc := "(D)D" } : Jvm.MethodName) jdk_29_method_64_code (2 : Nat) (Option.some Jvm.ClassFile.FieldType.double), Jvm.Cond.code ({ cls := "com/example/swivel/swivel/Matrix3", name := "<init>", desc := "(Lcom/example/swivel/swivel/Matrix3$Entries;DDDDDDDDD)V" } : Jvm.MethodName) prog_6_method_2_code (20 : Nat) (Option.none : Option Jvm.ClassFile.FieldType), Jvm.Cond.code ({ cls := "java/lang/Object", name := "<init>", desc := "()V" } : Jvm.MethodName) object_method_1_code (1 : Nat) (Option.none : Option Jvm.ClassFile.FieldType), Jvm.Cond.code ({ cls := "com/example/swivel/swivel/Matrix3", name := "homogeneousRows", desc := "()[[D" } : Jvm.MethodName) prog_6_method_15_code (1 : Nat) (Option.some (Jvm.ClassFile.FieldType.array (Jvm.ClassFile.FieldType.array Jvm.ClassFile.FieldType.double))), Jvm.Cond.code ({ cls := "com/example/swivel/swivel/Matrix3HomogeneousRowsPinLaw", name := "row", desc := "([DDDDD)Z" } : Jvm.MethodName) method_3_code (9 : Nat) (Option.some Jvm.ClassFile.FieldType.boolean), Jvm.Cond.code ({ cls := "com/example/swivel/swivel/Matrix3", name := "m11", desc := "()D" } : Jvm.MethodName) prog_6_method_16_code (1 : Nat) (Option.some Jvm.ClassFile.FieldType.double), Jvm.Cond.code ({ cls := "com/example/swivel/swivel/Matrix3", name := "m33", desc := "()D" } : Jvm.MethodName) prog_6_method_24_code (1 : Nat) (Option.some Jvm.ClassFile.FieldType.double)]
set_option maxRecDepth 65536 in
theorem codes_eq : words1.filter isCode = codes1 := rfl
theorem w_codes : ∀ c ∈ words1.filter isCode, c.before args0 about1 = true := by
  rw [codes_eq]
  intro c hc
  simp only [codes1, List.mem_cons, List.not_mem_nil, or_false] at hc
  rcases hc with rfl | rfl | rfl | rfl | rfl | rfl | rfl | rfl | rfl | rfl | rfl
  · exact w_c0
  · exact w_c1
  · exact w_c2
  · exact w_c3
  · exact w_c4
  · exact w_c5
  · exact w_c6
  · exact w_c7
  · exact w_c8
  · exact w_c9
  · exact w_c10
set_option maxRecDepth 65536 in
theorem w_t1 : (words1.take 24).all (fun c => isCode c || c.before args0 about1) = true := by decide +kernel
set_option maxRecDepth 65536 in
theorem w_t2 : ((words1.drop 24).take 24).all (fun c => isCode c || c.before args0 about1) = true := by decide +kernel
set_option maxRecDepth 65536 in
theorem w_t3 : ((words1.drop 24).drop 24).all (fun c => isCode c || c.before args0 about1) = true := by decide +kernel
theorem w_tables : (allAtoms (Jvm.Cond.code x code maxLocals ret :: tables_1)).before args0 about1 = true := by
  rw [allAtoms_all]
  show words1.all (fun c => c.before args0 about1) = true
  refine all_split ?_ w_codes
  rw [← List.take_append_drop 24 words1, List.all_append, w_t1, ← List.take_append_drop 24 (words1.drop 24), List.all_append, w_t2, w_t3]
  rfl
set_option maxRecDepth 65536 in
theorem w_case : (Jvm.Cond.and given_1 narrow_1).before args0 about1 = true := by decide +kernel
theorem w_applies : (headSpec (Jvm.Cond.code x code maxLocals ret :: tables_1) room_1).applies x e0.platform about1 = true :=
  (Spec.applies_iff w_frames).mpr ⟨w_running, w_runnable, w_alone, w_named, w_hears, w_ripe, w_room, w_tables⟩
theorem atStart : AtStart classFile x code maxLocals ret World_1 tables_1 room_1 Calls_1 rest_1 Pre_1 launch0 p0 e0 about1 theMethod args0 below0 :=
  ⟨lists_1, trivial, launch0.admits_env _ _ _, launch0.least_env, fairChoices_fair.cas, fairChoices_fair.clock, w_frames, w_args, w_heap, w_applies, trivial, trivial, w_case⟩
end start1
theorem witness_1 : WitnessClaimed_1 := ⟨start1.p0, start1.e0, start1.about1, start1.theMethod, start1.args0, start1.below0, start1.atStart⟩
end Jvm.Pilot.@@N@@
