import JvmDerived
import JvmDerived.Pilot.@@N@@Statement
import JvmDerived.Pilot.@@N@@Code
set_option linter.unusedVariables false
set_option linter.unusedSimpArgs false
namespace Jvm.Own
open Sem ClassFile Op Lib Jvm.Stand Jvm.Free Jvm.LawKit Jvm.RoadKit Jvm.Free.Fl
/-- where a walk stands -/
def St (p : Program) (l : Launch) (e : Env) (R : Room) (s : State) (m : MethodId) (args : Array Value) (below : List Frame) (meth : Method) (c : Code) (Z : State) (B : ByteArray) (own nm : String) (ml : Nat) (ret : Option FieldType) (n0 : Nat) (T : State) (h : Heap) (k n : Nat) : Prop :=
  (p.tables.exec = Jvm.exec ∧ c.code = B ∧ Z.Warmed39 s.vm ∧ s.vm.findClass own = some m.cls ∧ c.maxLocals = ml ∧ meth.sig.returnType = ret ∧ meth.locks = false ∧ meth.name = nm) ∧ ∃ locs, Stand p l e R s m args below meth c T locs k n ∧ T.heap = h ∧ Fr n0 locs
/-- what is left to show of a walk: it ends, and what it leaves is Q -/
def Go (p : Program) (e : Env) (below : List Frame) (s : State) (n0 : Nat) (Q : Option Value → Heap → Prop) (kC kS : Nat) (t : State) : Prop :=
  ∃ s₂ o, Steps p.tables e below t s₂ ∧ s₂.status = .running ∧ Ended s₂ below o ∧ ∃ v L, o = .returned v ∧ (Q v s₂.heap ∧ Fr n0 L) ∧ FrameEnd s o s₂ L kC kS
/-- a body's contract -/
def Con (l : Launch) (Z : State) (y : MethodName) (ws : List Jvm.Cond) (B : ByteArray) (ml : Nat) (ret : Option FieldType) (rm : Room) (as : Array Value) (h0 : Heap) (n0 : Nat) (Q : Option Value → Heap → Prop) : Prop :=
  MetFree l y (head1 (Cond.code y B ml ret :: ws) rm) (fun a U => a = as ∧ Z.Warmed39 U.vm ∧ U.heap = h0) (fun _ _ _ _ _ => True) (fun _ U o U' => ∃ v L, o = .returned v ∧ (Q v U'.heap ∧ Fr n0 L) ∧ FrameEnd U o U' L rm.cells rm.slots)
theorem wd {ws : List Jvm.Cond} {a0 : Array Value} {Z : State} (hw : ∀ d ∈ ws, d.before a0 Z = true) (i : Nat) {d : Jvm.Cond} (q : ws[i]? = some d) : d.before a0 Z = true := hw d (List.mem_of_getElem? q)
section Kit
variable {p : Program} {l : Launch} {e : Env} {R : Room} {s : State} {m : MethodId} {args : Array Value} {below : List Frame} {meth : Method} {c : Code} {Z : State} {B : ByteArray} {own nm : String} {ml : Nat} {ret : Option FieldType} {n0 : Nat} {T : State} {h : Heap} {k n : Nat} {Q : Option Value → Heap → Prop} {kC kS : Nat}
theorem Go.st {t t' : State} (r : Go p e below s n0 Q kC kS t') (q : ∀ u, Steps p.tables e below t' u → Steps p.tables e below t u) : Go p e below s n0 Q kC kS t := by
  obtain ⟨s₂, o, h1, h2⟩ := r; exact ⟨s₂, o, q _ h1, h2⟩
theorem St.more {k' n' : Nat} (X : St p l e R s m args below meth c Z B own nm ml ret n0 T h k n) (hk : k ≤ k') (hn : n ≤ n') : St p l e R s m args below meth c Z B own nm ml ret n0 T h k' n' := by
  obtain ⟨q, locs, X, r⟩ := X; exact ⟨q, locs, X.more hk hn, r⟩
theorem St.z (X : St p l e R s m args below meth c Z B own nm ml ret n0 T h k n) : Z.Warmed39 s.vm := X.1.2.2.1

theorem iloadN (X : St p l e R s m args below meth c Z B own nm ml ret n0 T h k n) {pc : Nat} {Ls : Array Slot} {st : List Value} {j : Fin 4} {v : Int32} (hd : decode B pc = .ok (.iload_n j, 1)) (hl : Ls[j.val]? = some (.val (.int v)))
    (r : Go p e below s n0 Q kC kS (T.setTop (mkF m (pc + 1) Ls (.int v :: st)))) : Go p e below s n0 Q kC kS (T.setTop (mkF m pc Ls (st))) := by
  obtain ⟨⟨hx, rfl, -⟩, locs, X, -⟩ := X
  exact r.st fun u kk => XS.iloadN X.here hx rfl hd hl kk
theorem iload (X : St p l e R s m args below meth c Z B own nm ml ret n0 T h k n) {pc : Nat} {Ls : Array Slot} {st : List Value} {j : Nat} {v : Int32} (hd : decode B pc = .ok (.iload j, 2)) (hl : Ls[j]? = some (.val (.int v)))
    (r : Go p e below s n0 Q kC kS (T.setTop (mkF m (pc + 2) Ls (.int v :: st)))) : Go p e below s n0 Q kC kS (T.setTop (mkF m pc Ls (st))) := by
  obtain ⟨⟨hx, rfl, -⟩, locs, X, -⟩ := X
  exact r.st fun u kk => XS.iload X.here hx rfl hd hl kk
theorem istoreN (X : St p l e R s m args below meth c Z B own nm ml ret n0 T h k n) {pc : Nat} {Ls : Array Slot} {st : List Value} {j : Fin 4} {v : Int32} {l' : Array Slot} (hd : decode B pc = .ok (.istore_n j, 1)) (hl : storeLocals Ls j.val (.int v) = some l')
    (r : Go p e below s n0 Q kC kS (T.setTop (mkF m (pc + 1) l' (st)))) : Go p e below s n0 Q kC kS (T.setTop (mkF m pc Ls (.int v :: st))) := by
  obtain ⟨⟨hx, rfl, -⟩, locs, X, -⟩ := X
  exact r.st fun u kk => XS.istoreN X.here hx rfl hd rfl hl kk
theorem istore (X : St p l e R s m args below meth c Z B own nm ml ret n0 T h k n) {pc : Nat} {Ls : Array Slot} {st : List Value} {j : Nat} {v : Int32} {l' : Array Slot} (hd : decode B pc = .ok (.istore j, 2)) (hl : storeLocals Ls j (.int v) = some l')
    (r : Go p e below s n0 Q kC kS (T.setTop (mkF m (pc + 2) l' (st)))) : Go p e below s n0 Q kC kS (T.setTop (mkF m pc Ls (.int v :: st))) := by
  obtain ⟨⟨hx, rfl, -⟩, locs, X, -⟩ := X
  exact r.st fun u kk => XS.istore X.here hx rfl hd rfl hl kk
theorem lloadN (X : St p l e R s m args below meth c Z B own nm ml ret n0 T h k n) {pc : Nat} {Ls : Array Slot} {st : List Value} {j : Fin 4} {v : Int64} (hd : decode B pc = .ok (.lload_n j, 1)) (hl : Ls[j.val]? = some (.val (.long v)))
    (r : Go p e below s n0 Q kC kS (T.setTop (mkF m (pc + 1) Ls (.long v :: st)))) : Go p e below s n0 Q kC kS (T.setTop (mkF m pc Ls (st))) := by
  obtain ⟨⟨hx, rfl, -⟩, locs, X, -⟩ := X
  exact r.st fun u kk => XS.lloadN X.here hx rfl hd hl kk
theorem lload (X : St p l e R s m args below meth c Z B own nm ml ret n0 T h k n) {pc : Nat} {Ls : Array Slot} {st : List Value} {j : Nat} {v : Int64} (hd : decode B pc = .ok (.lload j, 2)) (hl : Ls[j]? = some (.val (.long v)))
    (r : Go p e below s n0 Q kC kS (T.setTop (mkF m (pc + 2) Ls (.long v :: st)))) : Go p e below s n0 Q kC kS (T.setTop (mkF m pc Ls (st))) := by
  obtain ⟨⟨hx, rfl, -⟩, locs, X, -⟩ := X
  exact r.st fun u kk => XS.lload X.here hx rfl hd hl kk
theorem lstoreN (X : St p l e R s m args below meth c Z B own nm ml ret n0 T h k n) {pc : Nat} {Ls : Array Slot} {st : List Value} {j : Fin 4} {v : Int64} {l' : Array Slot} (hd : decode B pc = .ok (.lstore_n j, 1)) (hl : storeLocals Ls j.val (.long v) = some l')
    (r : Go p e below s n0 Q kC kS (T.setTop (mkF m (pc + 1) l' (st)))) : Go p e below s n0 Q kC kS (T.setTop (mkF m pc Ls (.long v :: st))) := by
  obtain ⟨⟨hx, rfl, -⟩, locs, X, -⟩ := X
  exact r.st fun u kk => XS.lstoreN X.here hx rfl hd rfl hl kk
theorem lstore (X : St p l e R s m args below meth c Z B own nm ml ret n0 T h k n) {pc : Nat} {Ls : Array Slot} {st : List Value} {j : Nat} {v : Int64} {l' : Array Slot} (hd : decode B pc = .ok (.lstore j, 2)) (hl : storeLocals Ls j (.long v) = some l')
    (r : Go p e below s n0 Q kC kS (T.setTop (mkF m (pc + 2) l' (st)))) : Go p e below s n0 Q kC kS (T.setTop (mkF m pc Ls (.long v :: st))) := by
  obtain ⟨⟨hx, rfl, -⟩, locs, X, -⟩ := X
  exact r.st fun u kk => XS.lstore X.here hx rfl hd rfl hl kk
theorem dloadN (X : St p l e R s m args below meth c Z B own nm ml ret n0 T h k n) {pc : Nat} {Ls : Array Slot} {st : List Value} {j : Fin 4} {v : UInt64} (hd : decode B pc = .ok (.dload_n j, 1)) (hl : Ls[j.val]? = some (.val (.double v)))
    (r : Go p e below s n0 Q kC kS (T.setTop (mkF m (pc + 1) Ls (.double v :: st)))) : Go p e below s n0 Q kC kS (T.setTop (mkF m pc Ls (st))) := by
  obtain ⟨⟨hx, rfl, -⟩, locs, X, -⟩ := X
  exact r.st fun u kk => XS.dloadN X.here hx rfl hd hl kk
theorem dload (X : St p l e R s m args below meth c Z B own nm ml ret n0 T h k n) {pc : Nat} {Ls : Array Slot} {st : List Value} {j : Nat} {v : UInt64} (hd : decode B pc = .ok (.dload j, 2)) (hl : Ls[j]? = some (.val (.double v)))
    (r : Go p e below s n0 Q kC kS (T.setTop (mkF m (pc + 2) Ls (.double v :: st)))) : Go p e below s n0 Q kC kS (T.setTop (mkF m pc Ls (st))) := by
  obtain ⟨⟨hx, rfl, -⟩, locs, X, -⟩ := X
  exact r.st fun u kk => XS.dload X.here hx rfl hd hl kk
theorem dstoreN (X : St p l e R s m args below meth c Z B own nm ml ret n0 T h k n) {pc : Nat} {Ls : Array Slot} {st : List Value} {j : Fin 4} {v : UInt64} {l' : Array Slot} (hd : decode B pc = .ok (.dstore_n j, 1)) (hl : storeLocals Ls j.val (.double v) = some l')
    (r : Go p e below s n0 Q kC kS (T.setTop (mkF m (pc + 1) l' (st)))) : Go p e below s n0 Q kC kS (T.setTop (mkF m pc Ls (.double v :: st))) := by
  obtain ⟨⟨hx, rfl, -⟩, locs, X, -⟩ := X
  exact r.st fun u kk => XS.dstoreN X.here hx rfl hd rfl hl kk
theorem dstore (X : St p l e R s m args below meth c Z B own nm ml ret n0 T h k n) {pc : Nat} {Ls : Array Slot} {st : List Value} {j : Nat} {v : UInt64} {l' : Array Slot} (hd : decode B pc = .ok (.dstore j, 2)) (hl : storeLocals Ls j (.double v) = some l')
    (r : Go p e below s n0 Q kC kS (T.setTop (mkF m (pc + 2) l' (st)))) : Go p e below s n0 Q kC kS (T.setTop (mkF m pc Ls (.double v :: st))) := by
  obtain ⟨⟨hx, rfl, -⟩, locs, X, -⟩ := X
  exact r.st fun u kk => XS.dstore X.here hx rfl hd rfl hl kk
theorem aloadN (X : St p l e R s m args below meth c Z B own nm ml ret n0 T h k n) {pc : Nat} {Ls : Array Slot} {st : List Value} {j : Fin 4} {v : Value} (hd : decode B pc = .ok (.aload_n j, 1)) (hl : Ls[j.val]? = some (.val v)) (hv : v.isRef = true)
    (r : Go p e below s n0 Q kC kS (T.setTop (mkF m (pc + 1) Ls (v :: st)))) : Go p e below s n0 Q kC kS (T.setTop (mkF m pc Ls (st))) := by
  obtain ⟨⟨hx, rfl, -⟩, locs, X, -⟩ := X
  exact r.st fun u kk => XS.aloadN X.here hx rfl hd hl hv kk
theorem aload (X : St p l e R s m args below meth c Z B own nm ml ret n0 T h k n) {pc : Nat} {Ls : Array Slot} {st : List Value} {j : Nat} {v : Value} (hd : decode B pc = .ok (.aload j, 2)) (hl : Ls[j]? = some (.val v)) (hv : v.isRef = true)
    (r : Go p e below s n0 Q kC kS (T.setTop (mkF m (pc + 2) Ls (v :: st)))) : Go p e below s n0 Q kC kS (T.setTop (mkF m pc Ls (st))) := by
  obtain ⟨⟨hx, rfl, -⟩, locs, X, -⟩ := X
  exact r.st fun u kk => XS.aload X.here hx rfl hd hl hv kk
theorem astoreN (X : St p l e R s m args below meth c Z B own nm ml ret n0 T h k n) {pc : Nat} {Ls : Array Slot} {st : List Value} {j : Fin 4} {v : Value} {l' : Array Slot} (hd : decode B pc = .ok (.astore_n j, 1)) (hv : v.isRef = true) (hl : storeLocals Ls j.val v = some l')
    (r : Go p e below s n0 Q kC kS (T.setTop (mkF m (pc + 1) l' (st)))) : Go p e below s n0 Q kC kS (T.setTop (mkF m pc Ls (v :: st))) := by
  obtain ⟨⟨hx, rfl, -⟩, locs, X, -⟩ := X
  exact r.st fun u kk => XS.astoreN X.here hx rfl hd rfl hv hl kk
theorem astore (X : St p l e R s m args below meth c Z B own nm ml ret n0 T h k n) {pc : Nat} {Ls : Array Slot} {st : List Value} {j : Nat} {v : Value} {l' : Array Slot} (hd : decode B pc = .ok (.astore j, 2)) (hv : v.isRef = true) (hl : storeLocals Ls j v = some l')
    (r : Go p e below s n0 Q kC kS (T.setTop (mkF m (pc + 2) l' (st)))) : Go p e below s n0 Q kC kS (T.setTop (mkF m pc Ls (v :: st))) := by
  obtain ⟨⟨hx, rfl, -⟩, locs, X, -⟩ := X
  exact r.st fun u kk => XS.astore X.here hx rfl hd rfl hv hl kk
theorem iconst (X : St p l e R s m args below meth c Z B own nm ml ret n0 T h k n) {pc : Nat} {Ls : Array Slot} {st : List Value} {i : Int} (v : Int32) (hd : decode B pc = .ok (.iconst i, 1)) (hv : Int32.ofInt i = v)
    (r : Go p e below s n0 Q kC kS (T.setTop (mkF m (pc + 1) Ls (.int v :: st)))) : Go p e below s n0 Q kC kS (T.setTop (mkF m pc Ls (st))) := by
  obtain ⟨⟨hx, rfl, -⟩, locs, X, -⟩ := X
  subst hv
  exact r.st fun u kk => XS.iconst X.here hx rfl hd kk
theorem bipush (X : St p l e R s m args below meth c Z B own nm ml ret n0 T h k n) {pc : Nat} {Ls : Array Slot} {st : List Value} {i : Int} (v : Int32) (hd : decode B pc = .ok (.bipush i, 2)) (hv : (Int8.ofInt i).toInt32 = v)
    (r : Go p e below s n0 Q kC kS (T.setTop (mkF m (pc + 2) Ls (.int v :: st)))) : Go p e below s n0 Q kC kS (T.setTop (mkF m pc Ls (st))) := by
  obtain ⟨⟨hx, rfl, -⟩, locs, X, -⟩ := X
  subst hv
  exact r.st fun u kk => XS.bipush X.here hx rfl hd kk
theorem sipush (X : St p l e R s m args below meth c Z B own nm ml ret n0 T h k n) {pc : Nat} {Ls : Array Slot} {st : List Value} {i : Int} (v : Int32) (hd : decode B pc = .ok (.sipush i, 3)) (hv : (Int16.ofInt i).toInt32 = v)
    (r : Go p e below s n0 Q kC kS (T.setTop (mkF m (pc + 3) Ls (.int v :: st)))) : Go p e below s n0 Q kC kS (T.setTop (mkF m pc Ls (st))) := by
  obtain ⟨⟨hx, rfl, -⟩, locs, X, -⟩ := X
  subst hv
  exact r.st fun u kk => XS.sipush X.here hx rfl hd kk
theorem lconst (X : St p l e R s m args below meth c Z B own nm ml ret n0 T h k n) {pc : Nat} {Ls : Array Slot} {st : List Value} {i : Fin 2} (v : Int64) (hd : decode B pc = .ok (.lconst i, 1)) (hv : Int64.ofNat i = v)
    (r : Go p e below s n0 Q kC kS (T.setTop (mkF m (pc + 1) Ls (.long v :: st)))) : Go p e below s n0 Q kC kS (T.setTop (mkF m pc Ls (st))) := by
  obtain ⟨⟨hx, rfl, -⟩, locs, X, -⟩ := X
  subst hv
  exact r.st fun u kk => XS.lconst X.here hx rfl hd kk
theorem dconst0 (X : St p l e R s m args below meth c Z B own nm ml ret n0 T h k n) {pc : Nat} {Ls : Array Slot} {st : List Value}  (hd : decode B pc = .ok (.dconst 0, 1)) 
    (r : Go p e below s n0 Q kC kS (T.setTop (mkF m (pc + 1) Ls (.double 0 :: st)))) : Go p e below s n0 Q kC kS (T.setTop (mkF m pc Ls (st))) := by
  obtain ⟨⟨hx, rfl, -⟩, locs, X, -⟩ := X
  exact r.st fun u kk => XS.dconst0 X.here hx rfl hd rfl kk
theorem dconst1 (X : St p l e R s m args below meth c Z B own nm ml ret n0 T h k n) {pc : Nat} {Ls : Array Slot} {st : List Value}  (hd : decode B pc = .ok (.dconst 1, 1)) 
    (r : Go p e below s n0 Q kC kS (T.setTop (mkF m (pc + 1) Ls (.double 4607182418800017408 :: st)))) : Go p e below s n0 Q kC kS (T.setTop (mkF m pc Ls (st))) := by
  obtain ⟨⟨hx, rfl, -⟩, locs, X, -⟩ := X
  exact r.st fun u kk => XS.dconst1 X.here hx rfl hd rfl kk
theorem aconstNull (X : St p l e R s m args below meth c Z B own nm ml ret n0 T h k n) {pc : Nat} {Ls : Array Slot} {st : List Value}  (hd : decode B pc = .ok (.aconst_null, 1)) 
    (r : Go p e below s n0 Q kC kS (T.setTop (mkF m (pc + 1) Ls (.null :: st)))) : Go p e below s n0 Q kC kS (T.setTop (mkF m pc Ls (st))) := by
  obtain ⟨⟨hx, rfl, -⟩, locs, X, -⟩ := X
  exact r.st fun u kk => XS.aconstNull X.here hx rfl hd kk
theorem iadd (X : St p l e R s m args below meth c Z B own nm ml ret n0 T h k n) {pc : Nat} {Ls : Array Slot} {st : List Value} {x y : Int32} (hd : decode B pc = .ok (.iadd, 1)) 
    (r : Go p e below s n0 Q kC kS (T.setTop (mkF m (pc + 1) Ls (.int (x + y) :: st)))) : Go p e below s n0 Q kC kS (T.setTop (mkF m pc Ls (.int y :: .int x :: st))) := by
  obtain ⟨⟨hx, rfl, -⟩, locs, X, -⟩ := X
  exact r.st fun u kk => XS.iadd X.here hx rfl hd rfl kk
theorem isub (X : St p l e R s m args below meth c Z B own nm ml ret n0 T h k n) {pc : Nat} {Ls : Array Slot} {st : List Value} {x y : Int32} (hd : decode B pc = .ok (.isub, 1)) 
    (r : Go p e below s n0 Q kC kS (T.setTop (mkF m (pc + 1) Ls (.int (x - y) :: st)))) : Go p e below s n0 Q kC kS (T.setTop (mkF m pc Ls (.int y :: .int x :: st))) := by
  obtain ⟨⟨hx, rfl, -⟩, locs, X, -⟩ := X
  exact r.st fun u kk => XS.isub X.here hx rfl hd rfl kk
theorem imul (X : St p l e R s m args below meth c Z B own nm ml ret n0 T h k n) {pc : Nat} {Ls : Array Slot} {st : List Value} {x y : Int32} (hd : decode B pc = .ok (.imul, 1)) 
    (r : Go p e below s n0 Q kC kS (T.setTop (mkF m (pc + 1) Ls (.int (x * y) :: st)))) : Go p e below s n0 Q kC kS (T.setTop (mkF m pc Ls (.int y :: .int x :: st))) := by
  obtain ⟨⟨hx, rfl, -⟩, locs, X, -⟩ := X
  exact r.st fun u kk => XS.imul X.here hx rfl hd rfl kk
theorem iand (X : St p l e R s m args below meth c Z B own nm ml ret n0 T h k n) {pc : Nat} {Ls : Array Slot} {st : List Value} {x y : Int32} (hd : decode B pc = .ok (.iand, 1)) 
    (r : Go p e below s n0 Q kC kS (T.setTop (mkF m (pc + 1) Ls (.int (x &&& y) :: st)))) : Go p e below s n0 Q kC kS (T.setTop (mkF m pc Ls (.int y :: .int x :: st))) := by
  obtain ⟨⟨hx, rfl, -⟩, locs, X, -⟩ := X
  exact r.st fun u kk => XS.iand X.here hx rfl hd rfl kk
theorem ior (X : St p l e R s m args below meth c Z B own nm ml ret n0 T h k n) {pc : Nat} {Ls : Array Slot} {st : List Value} {x y : Int32} (hd : decode B pc = .ok (.ior, 1)) 
    (r : Go p e below s n0 Q kC kS (T.setTop (mkF m (pc + 1) Ls (.int (x ||| y) :: st)))) : Go p e below s n0 Q kC kS (T.setTop (mkF m pc Ls (.int y :: .int x :: st))) := by
  obtain ⟨⟨hx, rfl, -⟩, locs, X, -⟩ := X
  exact r.st fun u kk => Jvm.Free.XT.ior X.here hx rfl hd rfl kk
theorem ixor (X : St p l e R s m args below meth c Z B own nm ml ret n0 T h k n) {pc : Nat} {Ls : Array Slot} {st : List Value} {x y : Int32} (hd : decode B pc = .ok (.ixor, 1)) 
    (r : Go p e below s n0 Q kC kS (T.setTop (mkF m (pc + 1) Ls (.int (x ^^^ y) :: st)))) : Go p e below s n0 Q kC kS (T.setTop (mkF m pc Ls (.int y :: .int x :: st))) := by
  obtain ⟨⟨hx, rfl, -⟩, locs, X, -⟩ := X
  exact r.st fun u kk => Jvm.Free.XT.ixor X.here hx rfl hd rfl kk
theorem ishl (X : St p l e R s m args below meth c Z B own nm ml ret n0 T h k n) {pc : Nat} {Ls : Array Slot} {st : List Value} {x y : Int32} (hd : decode B pc = .ok (.ishl, 1)) 
    (r : Go p e below s n0 Q kC kS (T.setTop (mkF m (pc + 1) Ls (.int (x <<< (y &&& 31)) :: st)))) : Go p e below s n0 Q kC kS (T.setTop (mkF m pc Ls (.int y :: .int x :: st))) := by
  obtain ⟨⟨hx, rfl, -⟩, locs, X, -⟩ := X
  exact r.st fun u kk => Jvm.Free.XT.ishl X.here hx rfl hd rfl kk
theorem ishr (X : St p l e R s m args below meth c Z B own nm ml ret n0 T h k n) {pc : Nat} {Ls : Array Slot} {st : List Value} {x y : Int32} (hd : decode B pc = .ok (.ishr, 1)) 
    (r : Go p e below s n0 Q kC kS (T.setTop (mkF m (pc + 1) Ls (.int (x >>> (y &&& 31)) :: st)))) : Go p e below s n0 Q kC kS (T.setTop (mkF m pc Ls (.int y :: .int x :: st))) := by
  obtain ⟨⟨hx, rfl, -⟩, locs, X, -⟩ := X
  exact r.st fun u kk => Jvm.Free.XT.ishr X.here hx rfl hd rfl kk
theorem iushr (X : St p l e R s m args below meth c Z B own nm ml ret n0 T h k n) {pc : Nat} {Ls : Array Slot} {st : List Value} {x y : Int32} (hd : decode B pc = .ok (.iushr, 1)) 
    (r : Go p e below s n0 Q kC kS (T.setTop (mkF m (pc + 1) Ls (.int (Jvm.Free.XT.ushr x y) :: st)))) : Go p e below s n0 Q kC kS (T.setTop (mkF m pc Ls (.int y :: .int x :: st))) := by
  obtain ⟨⟨hx, rfl, -⟩, locs, X, -⟩ := X
  exact r.st fun u kk => Jvm.Free.XT.iushr X.here hx rfl hd rfl kk
theorem irem (X : St p l e R s m args below meth c Z B own nm ml ret n0 T h k n) {pc : Nat} {Ls : Array Slot} {st : List Value} {x y : Int32} (hd : decode B pc = .ok (.irem, 1)) (hy : y ≠ 0)
    (r : Go p e below s n0 Q kC kS (T.setTop (mkF m (pc + 1) Ls (.int (x % y) :: st)))) : Go p e below s n0 Q kC kS (T.setTop (mkF m pc Ls (.int y :: .int x :: st))) := by
  obtain ⟨⟨hx, rfl, -⟩, locs, X, -⟩ := X
  exact r.st fun u kk => iremM X hx rfl hd rfl hy kk
theorem ladd (X : St p l e R s m args below meth c Z B own nm ml ret n0 T h k n) {pc : Nat} {Ls : Array Slot} {st : List Value} {x y : Int64} (hd : decode B pc = .ok (.ladd, 1)) 
    (r : Go p e below s n0 Q kC kS (T.setTop (mkF m (pc + 1) Ls (.long (x + y) :: st)))) : Go p e below s n0 Q kC kS (T.setTop (mkF m pc Ls (.long y :: .long x :: st))) := by
  obtain ⟨⟨hx, rfl, -⟩, locs, X, -⟩ := X
  exact r.st fun u kk => Jvm.Free.XT.ladd X.here hx rfl hd rfl kk
theorem lsub (X : St p l e R s m args below meth c Z B own nm ml ret n0 T h k n) {pc : Nat} {Ls : Array Slot} {st : List Value} {x y : Int64} (hd : decode B pc = .ok (.lsub, 1)) 
    (r : Go p e below s n0 Q kC kS (T.setTop (mkF m (pc + 1) Ls (.long (x - y) :: st)))) : Go p e below s n0 Q kC kS (T.setTop (mkF m pc Ls (.long y :: .long x :: st))) := by
  obtain ⟨⟨hx, rfl, -⟩, locs, X, -⟩ := X
  exact r.st fun u kk => Jvm.Free.XT.lsub X.here hx rfl hd rfl kk
theorem lmul (X : St p l e R s m args below meth c Z B own nm ml ret n0 T h k n) {pc : Nat} {Ls : Array Slot} {st : List Value} {x y : Int64} (hd : decode B pc = .ok (.lmul, 1)) 
    (r : Go p e below s n0 Q kC kS (T.setTop (mkF m (pc + 1) Ls (.long (x * y) :: st)))) : Go p e below s n0 Q kC kS (T.setTop (mkF m pc Ls (.long y :: .long x :: st))) := by
  obtain ⟨⟨hx, rfl, -⟩, locs, X, -⟩ := X
  exact r.st fun u kk => Jvm.Free.XT.lmul X.here hx rfl hd rfl kk
theorem land (X : St p l e R s m args below meth c Z B own nm ml ret n0 T h k n) {pc : Nat} {Ls : Array Slot} {st : List Value} {x y : Int64} (hd : decode B pc = .ok (.land, 1)) 
    (r : Go p e below s n0 Q kC kS (T.setTop (mkF m (pc + 1) Ls (.long (x &&& y) :: st)))) : Go p e below s n0 Q kC kS (T.setTop (mkF m pc Ls (.long y :: .long x :: st))) := by
  obtain ⟨⟨hx, rfl, -⟩, locs, X, -⟩ := X
  exact r.st fun u kk => Jvm.Free.XT.land X.here hx rfl hd rfl kk
theorem lrem (X : St p l e R s m args below meth c Z B own nm ml ret n0 T h k n) {pc : Nat} {Ls : Array Slot} {st : List Value} {x y : Int64} (hd : decode B pc = .ok (.lrem, 1)) (hy : y ≠ 0)
    (r : Go p e below s n0 Q kC kS (T.setTop (mkF m (pc + 1) Ls (.long (x - (x / y) * y) :: st)))) : Go p e below s n0 Q kC kS (T.setTop (mkF m pc Ls (.long y :: .long x :: st))) := by
  obtain ⟨⟨hx, rfl, -⟩, locs, X, -⟩ := X
  exact r.st fun u kk => Jvm.Free.XT.lrem X.here hx rfl hd rfl hy kk
theorem lneg (X : St p l e R s m args below meth c Z B own nm ml ret n0 T h k n) {pc : Nat} {Ls : Array Slot} {st : List Value} {x : Int64} (hd : decode B pc = .ok (.lneg, 1)) 
    (r : Go p e below s n0 Q kC kS (T.setTop (mkF m (pc + 1) Ls (.long (-x) :: st)))) : Go p e below s n0 Q kC kS (T.setTop (mkF m pc Ls (.long x :: st))) := by
  obtain ⟨⟨hx, rfl, -⟩, locs, X, -⟩ := X
  exact r.st fun u kk => Jvm.Free.XT.lneg X.here hx rfl hd rfl kk
theorem i2l (X : St p l e R s m args below meth c Z B own nm ml ret n0 T h k n) {pc : Nat} {Ls : Array Slot} {st : List Value} {x : Int32} (hd : decode B pc = .ok (.i2l, 1)) 
    (r : Go p e below s n0 Q kC kS (T.setTop (mkF m (pc + 1) Ls (.long (x.toInt64) :: st)))) : Go p e below s n0 Q kC kS (T.setTop (mkF m pc Ls (.int x :: st))) := by
  obtain ⟨⟨hx, rfl, -⟩, locs, X, -⟩ := X
  exact r.st fun u kk => Jvm.Free.XT.i2l X.here hx rfl hd rfl kk
theorem l2i (X : St p l e R s m args below meth c Z B own nm ml ret n0 T h k n) {pc : Nat} {Ls : Array Slot} {st : List Value} {x : Int64} (hd : decode B pc = .ok (.l2i, 1)) 
    (r : Go p e below s n0 Q kC kS (T.setTop (mkF m (pc + 1) Ls (.int (x.toInt32) :: st)))) : Go p e below s n0 Q kC kS (T.setTop (mkF m pc Ls (.long x :: st))) := by
  obtain ⟨⟨hx, rfl, -⟩, locs, X, -⟩ := X
  exact r.st fun u kk => Jvm.Free.XT.l2i X.here hx rfl hd rfl kk
theorem i2s (X : St p l e R s m args below meth c Z B own nm ml ret n0 T h k n) {pc : Nat} {Ls : Array Slot} {st : List Value} {x : Int32} (hd : decode B pc = .ok (.i2s, 1)) 
    (r : Go p e below s n0 Q kC kS (T.setTop (mkF m (pc + 1) Ls (.int (x.toInt16.toInt32) :: st)))) : Go p e below s n0 Q kC kS (T.setTop (mkF m pc Ls (.int x :: st))) := by
  obtain ⟨⟨hx, rfl, -⟩, locs, X, -⟩ := X
  exact r.st fun u kk => Jvm.Free.XT.i2s X.here hx rfl hd rfl kk
theorem i2c (X : St p l e R s m args below meth c Z B own nm ml ret n0 T h k n) {pc : Nat} {Ls : Array Slot} {st : List Value} {x : Int32} (hd : decode B pc = .ok (.i2c, 1)) 
    (r : Go p e below s n0 Q kC kS (T.setTop (mkF m (pc + 1) Ls (.int (x.toUInt32.toUInt16.toUInt32.toInt32) :: st)))) : Go p e below s n0 Q kC kS (T.setTop (mkF m pc Ls (.int x :: st))) := by
  obtain ⟨⟨hx, rfl, -⟩, locs, X, -⟩ := X
  exact r.st fun u kk => Jvm.Free.XT.i2c X.here hx rfl hd rfl kk
theorem lshr (X : St p l e R s m args below meth c Z B own nm ml ret n0 T h k n) {pc : Nat} {Ls : Array Slot} {st : List Value} {x : Int64} {y : Int32} (hd : decode B pc = .ok (.lshr, 1)) 
    (r : Go p e below s n0 Q kC kS (T.setTop (mkF m (pc + 1) Ls (.long (x >>> (y.toInt64 &&& 63)) :: st)))) : Go p e below s n0 Q kC kS (T.setTop (mkF m pc Ls (.int y :: .long x :: st))) := by
  obtain ⟨⟨hx, rfl, -⟩, locs, X, -⟩ := X
  exact r.st fun u kk => Jvm.Free.XT.lshr X.here hx rfl hd rfl kk
theorem lshl (X : St p l e R s m args below meth c Z B own nm ml ret n0 T h k n) {pc : Nat} {Ls : Array Slot} {st : List Value} {x : Int64} {y : Int32} (hd : decode B pc = .ok (.lshl, 1)) 
    (r : Go p e below s n0 Q kC kS (T.setTop (mkF m (pc + 1) Ls (.long (x <<< (y.toInt64 &&& 63)) :: st)))) : Go p e below s n0 Q kC kS (T.setTop (mkF m pc Ls (.int y :: .long x :: st))) := by
  obtain ⟨⟨hx, rfl, -⟩, locs, X, -⟩ := X
  exact r.st fun u kk => Jvm.Free.XT.lshl X.here hx rfl hd rfl kk
theorem i2d (X : St p l e R s m args below meth c Z B own nm ml ret n0 T h k n) {pc : Nat} {Ls : Array Slot} {st : List Value} {x : Int32} {v : UInt64} (hd : decode B pc = .ok (.i2d, 1)) (hv : FP.i2d x = v)
    (r : Go p e below s n0 Q kC kS (T.setTop (mkF m (pc + 1) Ls (.double v :: st)))) : Go p e below s n0 Q kC kS (T.setTop (mkF m pc Ls (.int x :: st))) := by
  obtain ⟨⟨hx, rfl, -⟩, locs, X, -⟩ := X
  exact r.st fun u kk => XS.i2dS X.here hx rfl hd rfl hv kk
theorem l2d (X : St p l e R s m args below meth c Z B own nm ml ret n0 T h k n) {pc : Nat} {Ls : Array Slot} {st : List Value} {x : Int64} {v : UInt64} (hd : decode B pc = .ok (.l2d, 1)) (hv : FP.l2d x = v)
    (r : Go p e below s n0 Q kC kS (T.setTop (mkF m (pc + 1) Ls (.double v :: st)))) : Go p e below s n0 Q kC kS (T.setTop (mkF m pc Ls (.long x :: st))) := by
  obtain ⟨⟨hx, rfl, -⟩, locs, X, -⟩ := X
  exact r.st fun u kk => XS.l2dS X.here hx rfl hd rfl hv kk
theorem dneg (X : St p l e R s m args below meth c Z B own nm ml ret n0 T h k n) {pc : Nat} {Ls : Array Slot} {st : List Value} {x v : UInt64} (hd : decode B pc = .ok (.dneg, 1)) (hv : FP.dneg x = v)
    (r : Go p e below s n0 Q kC kS (T.setTop (mkF m (pc + 1) Ls (.double v :: st)))) : Go p e below s n0 Q kC kS (T.setTop (mkF m pc Ls (.double x :: st))) := by
  obtain ⟨⟨hx, rfl, -⟩, locs, X, -⟩ := X
  exact r.st fun u kk => XS.dnegS X.here hx rfl hd rfl hv kk
theorem dadd (X : St p l e R s m args below meth c Z B own nm ml ret n0 T h k n) {pc : Nat} {Ls : Array Slot} {st : List Value} {x y v : UInt64} (hd : decode B pc = .ok (.dadd, 1)) (hv : FP.dadd x y = v) (hn : NoNaN64 v)
    (r : Go p e below s n0 Q kC kS (T.setTop (mkF m (pc + 1) Ls (.double v :: st)))) : Go p e below s n0 Q kC kS (T.setTop (mkF m pc Ls (.double y :: .double x :: st))) := by
  obtain ⟨⟨hx, rfl, -⟩, locs, X, -⟩ := X
  exact r.st fun u kk => XS.daddS X.here hx rfl hd rfl (hv.symm ▸ hn) hv kk
theorem dsub (X : St p l e R s m args below meth c Z B own nm ml ret n0 T h k n) {pc : Nat} {Ls : Array Slot} {st : List Value} {x y v : UInt64} (hd : decode B pc = .ok (.dsub, 1)) (hv : FP.dsub x y = v) (hn : NoNaN64 v)
    (r : Go p e below s n0 Q kC kS (T.setTop (mkF m (pc + 1) Ls (.double v :: st)))) : Go p e below s n0 Q kC kS (T.setTop (mkF m pc Ls (.double y :: .double x :: st))) := by
  obtain ⟨⟨hx, rfl, -⟩, locs, X, -⟩ := X
  exact r.st fun u kk => XS.dsubS X.here hx rfl hd rfl (hv.symm ▸ hn) hv kk
theorem dmul (X : St p l e R s m args below meth c Z B own nm ml ret n0 T h k n) {pc : Nat} {Ls : Array Slot} {st : List Value} {x y v : UInt64} (hd : decode B pc = .ok (.dmul, 1)) (hv : FP.dmul x y = v) (hn : NoNaN64 v)
    (r : Go p e below s n0 Q kC kS (T.setTop (mkF m (pc + 1) Ls (.double v :: st)))) : Go p e below s n0 Q kC kS (T.setTop (mkF m pc Ls (.double y :: .double x :: st))) := by
  obtain ⟨⟨hx, rfl, -⟩, locs, X, -⟩ := X
  exact r.st fun u kk => XS.dmulS X.here hx rfl hd rfl (hv.symm ▸ hn) hv kk
theorem ddiv (X : St p l e R s m args below meth c Z B own nm ml ret n0 T h k n) {pc : Nat} {Ls : Array Slot} {st : List Value} {x y v : UInt64} (hd : decode B pc = .ok (.ddiv, 1)) (hv : FP.ddiv x y = v) (hn : NoNaN64 v)
    (r : Go p e below s n0 Q kC kS (T.setTop (mkF m (pc + 1) Ls (.double v :: st)))) : Go p e below s n0 Q kC kS (T.setTop (mkF m pc Ls (.double y :: .double x :: st))) := by
  obtain ⟨⟨hx, rfl, -⟩, locs, X, -⟩ := X
  exact r.st fun u kk => XS.ddivS X.here hx rfl hd rfl (hv.symm ▸ hn) hv kk
theorem dup (X : St p l e R s m args below meth c Z B own nm ml ret n0 T h k n) {pc : Nat} {Ls : Array Slot} {st : List Value} {x : Value} (hd : decode B pc = .ok (.dup, 1)) (hc : x.category = 1)
    (r : Go p e below s n0 Q kC kS (T.setTop (mkF m (pc + 1) Ls (x :: x :: st)))) : Go p e below s n0 Q kC kS (T.setTop (mkF m pc Ls (x :: st))) := by
  obtain ⟨⟨hx, rfl, -⟩, locs, X, -⟩ := X
  exact r.st fun u kk => XS.dup X.here hx rfl hd rfl hc kk
theorem pop (X : St p l e R s m args below meth c Z B own nm ml ret n0 T h k n) {pc : Nat} {Ls : Array Slot} {st : List Value} {x : Value} (hd : decode B pc = .ok (.pop, 1)) (hc : x.category = 1)
    (r : Go p e below s n0 Q kC kS (T.setTop (mkF m (pc + 1) Ls (st)))) : Go p e below s n0 Q kC kS (T.setTop (mkF m pc Ls (x :: st))) := by
  obtain ⟨⟨hx, rfl, -⟩, locs, X, -⟩ := X
  exact r.st fun u kk => Jvm.Free.XT.pop X.here hx rfl hd rfl hc kk
theorem iinc (X : St p l e R s m args below meth c Z B own nm ml ret n0 T h k n) {pc : Nat} {Ls : Array Slot} {st : List Value} {j : Nat} {cst : Int} {x : Int32} {l' : Array Slot} (hd : decode B pc = .ok (.iinc j cst, 3)) (hl : Ls[j]? = some (.val (.int x))) (hl' : storeLocals Ls j (.int (x + Int32.ofInt cst)) = some l')
    (r : Go p e below s n0 Q kC kS (T.setTop (mkF m (pc + 3) l' (st)))) : Go p e below s n0 Q kC kS (T.setTop (mkF m pc Ls (st))) := by
  obtain ⟨⟨hx, rfl, -⟩, locs, X, -⟩ := X
  exact r.st fun u kk => XS.iinc X.here hx rfl hd hl hl' kk
theorem goto_ (X : St p l e R s m args below meth c Z B own nm ml ret n0 T h k n) {pc pc' : Nat} {Ls : Array Slot} {st : List Value} {o : Int} (hd : decode B pc = .ok (.goto o, 3)) (hp : (decide (0 ≤ (pc : Int) + o) && decide (((pc : Int) + o).toNat = pc')) = true)
    (r : Go p e below s n0 Q kC kS (T.setTop (mkF m pc' Ls st))) : Go p e below s n0 Q kC kS (T.setTop (mkF m pc Ls st)) := by
  obtain ⟨⟨hx, rfl, -⟩, locs, X, -⟩ := X
  simp only [Bool.and_eq_true, decide_eq_true_eq] at hp
  exact r.st fun u kk => XS.goto X.here hx rfl rfl hd hp.1 hp.2 kk
/-- what a comparison asks, of whole numbers -/
def cmpI : ClassFile.Cond → Int → Int → Prop
  | .eq, a, b => a = b
  | .ne, a, b => ¬ (a = b)
  | .lt, a, b => a < b
  | .ge, a, b => b ≤ a
  | .gt, a, b => b < a
  | .le, a, b => a ≤ b
theorem holds_I (cd : ClassFile.Cond) (x y : Int32) : if_icmp.holds cd x y = true ↔ cmpI cd x.toInt y.toInt := by
  cases cd <;> simp [if_icmp.holds, cmpI, Int32.lt_iff_toInt_lt, Int32.le_iff_toInt_le, ← Int32.toInt_inj]
theorem holds_0 (cd : ClassFile.Cond) (x : Int32) : ifCond.holds cd x = true ↔ cmpI cd x.toInt 0 := by
  rw [if0]; exact holds_I cd x 0
theorem iff_ (X : St p l e R s m args below meth c Z B own nm ml ret n0 T h k n) {pc pc' : Nat} {Ls : Array Slot} {st : List Value} {cd : ClassFile.Cond} {o : Int} {x : Int32} (hd : decode B pc = .ok (.ifCond cd o, 3)) (hp : (decide (0 ≤ (pc : Int) + o) && decide (((pc : Int) + o).toNat = pc')) = true)
    (r1 : cmpI cd x.toInt 0 → Go p e below s n0 Q kC kS (T.setTop (mkF m pc' Ls st))) (r2 : ¬ cmpI cd x.toInt 0 → Go p e below s n0 Q kC kS (T.setTop (mkF m (pc + 3) Ls st))) : Go p e below s n0 Q kC kS (T.setTop (mkF m pc Ls (.int x :: st))) := by
  obtain ⟨⟨hx, rfl, -⟩, locs, X, -⟩ := X
  simp only [Bool.and_eq_true, decide_eq_true_eq] at hp
  by_cases q : ifCond.holds cd x = true
  · exact (r1 ((holds_0 cd x).mp q)).st fun u kk => XS.ifYes X.here hx rfl rfl hd rfl q hp.1 hp.2 kk
  · exact (r2 fun z => q ((holds_0 cd x).mpr z)).st fun u kk => XS.ifNo X.here hx rfl hd rfl (by simpa using q) kk
theorem icmp_ (X : St p l e R s m args below meth c Z B own nm ml ret n0 T h k n) {pc pc' : Nat} {Ls : Array Slot} {st : List Value} {cd : ClassFile.Cond} {o : Int} {x y : Int32} (hd : decode B pc = .ok (.if_icmp cd o, 3)) (hp : (decide (0 ≤ (pc : Int) + o) && decide (((pc : Int) + o).toNat = pc')) = true)
    (r1 : cmpI cd x.toInt y.toInt → Go p e below s n0 Q kC kS (T.setTop (mkF m pc' Ls st))) (r2 : ¬ cmpI cd x.toInt y.toInt → Go p e below s n0 Q kC kS (T.setTop (mkF m (pc + 3) Ls st))) : Go p e below s n0 Q kC kS (T.setTop (mkF m pc Ls (.int y :: .int x :: st))) := by
  obtain ⟨⟨hx, rfl, -⟩, locs, X, -⟩ := X
  simp only [Bool.and_eq_true, decide_eq_true_eq] at hp
  by_cases q : if_icmp.holds cd x y = true
  · exact (r1 ((holds_I cd x y).mp q)).st fun u kk => XS.icmpYes X.here hx rfl rfl hd rfl q hp.1 hp.2 kk
  · exact (r2 fun z => q ((holds_I cd x y).mpr z)).st fun u kk => XS.icmpNo X.here hx rfl hd rfl (by simpa using q) kk
/-- a boolean of the walk: 1 where P, else 0 -/
abbrev bo (P : Prop) [Decidable P] : Int32 := if P then 1 else 0
theorem bo_I (P : Prop) [Decidable P] : (bo P).toInt = if P then 1 else 0 := by unfold bo; split <;> rfl
theorem bo_t {P : Prop} [Decidable P] (q : P) : (1 : Int32) = bo P := (if_pos q).symm
theorem bo_f {P : Prop} [Decidable P] (q : ¬ P) : (0 : Int32) = bo P := (if_neg q).symm
theorem bo_c {P P' : Prop} [Decidable P] [Decidable P'] (q : P ↔ P') : bo P = bo P' := by unfold bo; by_cases z : P <;> simp [z, q.mp, q.mpr, ← q]
theorem nar_bo (P : Prop) [Decidable P] : narrow .boolean (.int (bo P)) = .int (bo P) := by unfold bo; split <;> rfl
theorem fits_bo (P : Prop) [Decidable P] : fits .boolean (.int (bo P)) = true := by unfold bo; split <;> rfl
theorem nar_z {z : Int32} (q : z &&& 1 = z) : narrow .boolean (.int z) = .int z := by show Value.int (z &&& 1) = _; rw [q]
theorem fits_z {z : Int32} (q : z &&& 1 = z) : fits .boolean (.int z) = true := by rcases and_one z with w | w <;> rw [q] at w <;> subst w <;> rfl
theorem bo0 (P : Prop) [Decidable P] : (bo P).toInt = 0 ↔ ¬ P := by rw [bo_I]; by_cases q : P <;> simp [q]
theorem ifeqB (X : St p l e R s m args below meth c Z B own nm ml ret n0 T h k n) {pc pc' : Nat} {Ls : Array Slot} {st : List Value} {o : Int} {P : Prop} [Decidable P] (hd : decode B pc = .ok (.ifCond .eq o, 3)) (hp : (decide (0 ≤ (pc : Int) + o) && decide (((pc : Int) + o).toNat = pc')) = true)
    (r1 : ¬ P → Go p e below s n0 Q kC kS (T.setTop (mkF m pc' Ls st))) (r2 : P → Go p e below s n0 Q kC kS (T.setTop (mkF m (pc + 3) Ls st))) : Go p e below s n0 Q kC kS (T.setTop (mkF m pc Ls (.int (bo P) :: st))) := by
  refine iff_ X hd hp (fun q => r1 fun z => ?_) (fun q => r2 (Classical.byContradiction fun z => q ?_))
  · rw [cmpI, bo_I, if_pos z] at q; cases q
  · rw [cmpI, bo_I, if_neg z]
theorem ifneB (X : St p l e R s m args below meth c Z B own nm ml ret n0 T h k n) {pc pc' : Nat} {Ls : Array Slot} {st : List Value} {o : Int} {P : Prop} [Decidable P] (hd : decode B pc = .ok (.ifCond .ne o, 3)) (hp : (decide (0 ≤ (pc : Int) + o) && decide (((pc : Int) + o).toNat = pc')) = true)
    (r1 : P → Go p e below s n0 Q kC kS (T.setTop (mkF m pc' Ls st))) (r2 : ¬ P → Go p e below s n0 Q kC kS (T.setTop (mkF m (pc + 3) Ls st))) : Go p e below s n0 Q kC kS (T.setTop (mkF m pc Ls (.int (bo P) :: st))) := by
  refine iff_ X hd hp (fun q => r1 (Classical.byContradiction fun z => q ?_)) (fun q => r2 fun z => q ?_)
  · rw [bo_I, if_neg z]
  · rw [cmpI, bo_I, if_pos z]; decide
theorem bo_eq (P P' : Prop) [Decidable P] [Decidable P'] : (bo P).toInt = (bo P').toInt ↔ (P ↔ P') := by
  rw [bo_I, bo_I]; by_cases a : P <;> by_cases b : P' <;> simp [a, b]
theorem icmpneB (X : St p l e R s m args below meth c Z B own nm ml ret n0 T h k n) {pc pc' : Nat} {Ls : Array Slot} {st : List Value} {o : Int} {P P' : Prop} [Decidable P] [Decidable P'] (hd : decode B pc = .ok (.if_icmp .ne o, 3)) (hp : (decide (0 ≤ (pc : Int) + o) && decide (((pc : Int) + o).toNat = pc')) = true)
    (r1 : ¬ (P ↔ P') → Go p e below s n0 Q kC kS (T.setTop (mkF m pc' Ls st))) (r2 : (P ↔ P') → Go p e below s n0 Q kC kS (T.setTop (mkF m (pc + 3) Ls st))) : Go p e below s n0 Q kC kS (T.setTop (mkF m pc Ls (.int (bo P') :: .int (bo P) :: st))) := by
  refine icmp_ X hd hp (fun q => r1 fun z => q ((bo_eq P P').mpr z)) (fun q => r2 (Classical.byContradiction fun z => q fun w => z ((bo_eq P P').mp w)))
theorem icmpeqB (X : St p l e R s m args below meth c Z B own nm ml ret n0 T h k n) {pc pc' : Nat} {Ls : Array Slot} {st : List Value} {o : Int} {P P' : Prop} [Decidable P] [Decidable P'] (hd : decode B pc = .ok (.if_icmp .eq o, 3)) (hp : (decide (0 ≤ (pc : Int) + o) && decide (((pc : Int) + o).toNat = pc')) = true)
    (r1 : (P ↔ P') → Go p e below s n0 Q kC kS (T.setTop (mkF m pc' Ls st))) (r2 : ¬ (P ↔ P') → Go p e below s n0 Q kC kS (T.setTop (mkF m (pc + 3) Ls st))) : Go p e below s n0 Q kC kS (T.setTop (mkF m pc Ls (.int (bo P') :: .int (bo P) :: st))) := by
  refine icmp_ X hd hp (fun q => r1 ((bo_eq P P').mp q)) (fun q => r2 fun z => q ((bo_eq P P').mpr z))
theorem ifnullY (X : St p l e R s m args below meth c Z B own nm ml ret n0 T h k n) {pc pc' : Nat} {Ls : Array Slot} {st : List Value} {o : Int} (hd : decode B pc = .ok (.ifnull o, 3)) (hp : (decide (0 ≤ (pc : Int) + o) && decide (((pc : Int) + o).toNat = pc')) = true)
    (r : Go p e below s n0 Q kC kS (T.setTop (mkF m pc' Ls st))) : Go p e below s n0 Q kC kS (T.setTop (mkF m pc Ls (.null :: st))) := by
  obtain ⟨⟨hx, rfl, -⟩, locs, X, -⟩ := X
  simp only [Bool.and_eq_true, decide_eq_true_eq] at hp
  exact r.st fun u kk => XS.ifnullYes X.here hx rfl rfl hd rfl hp.1 hp.2 kk
theorem ifnonnullY (X : St p l e R s m args below meth c Z B own nm ml ret n0 T h k n) {pc pc' : Nat} {Ls : Array Slot} {st : List Value} {o : Int} {b : Addr} (hd : decode B pc = .ok (.ifnonnull o, 3)) (hp : (decide (0 ≤ (pc : Int) + o) && decide (((pc : Int) + o).toNat = pc')) = true)
    (r : Go p e below s n0 Q kC kS (T.setTop (mkF m pc' Ls st))) : Go p e below s n0 Q kC kS (T.setTop (mkF m pc Ls (.ref b :: st))) := by
  obtain ⟨⟨hx, rfl, -⟩, locs, X, -⟩ := X
  simp only [Bool.and_eq_true, decide_eq_true_eq] at hp
  exact r.st fun u kk => Jvm.Free.XT.ifnonnullYes X.here hx rfl rfl hd rfl hp.1 hp.2 kk
theorem ifnullN (X : St p l e R s m args below meth c Z B own nm ml ret n0 T h k n) {pc : Nat} {Ls : Array Slot} {st : List Value} {o : Int} {b : Addr} (hd : decode B pc = .ok (.ifnull o, 3)) 
    (r : Go p e below s n0 Q kC kS (T.setTop (mkF m (pc + 3) Ls (st)))) : Go p e below s n0 Q kC kS (T.setTop (mkF m pc Ls (.ref b :: st))) := by
  obtain ⟨⟨hx, rfl, -⟩, locs, X, -⟩ := X
  exact r.st fun u kk => XS.ifnullNo X.here hx rfl hd rfl kk
theorem ifnonnullN (X : St p l e R s m args below meth c Z B own nm ml ret n0 T h k n) {pc : Nat} {Ls : Array Slot} {st : List Value} {o : Int} (hd : decode B pc = .ok (.ifnonnull o, 3)) 
    (r : Go p e below s n0 Q kC kS (T.setTop (mkF m (pc + 3) Ls (st)))) : Go p e below s n0 Q kC kS (T.setTop (mkF m pc Ls (.null :: st))) := by
  obtain ⟨⟨hx, rfl, -⟩, locs, X, -⟩ := X
  exact r.st fun u kk => Jvm.Free.XT.ifnonnullNo X.here hx rfl hd rfl kk
/-- a double's number, in units of 2^-1074 -/
def dz (x : UInt64) : Int := FP.Core.zval FP.Core.b64 (FP.Core.val64 x)
theorem nn_val {x : UInt64} (q : NoNaN64 x) : FP.Core.val64 x ≠ .nan := (FP.Core.notNaN_iff x).mp (noNaN64_no.mp q)
theorem dcmp_dz {x y : UInt64} (nx : NoNaN64 x) (ny : NoNaN64 y) : FP.dcmp x y = some (compare (dz x) (dz y)) := FP.Core.dcmp_zval (nn_val nx) (nn_val ny)
theorem cmpV_dz {x y : UInt64} (nx : NoNaN64 x) (ny : NoNaN64 y) (cd : ClassFile.Cond) (o : CmpOp) : cmpI cd (cmpValue (FP.dcmp x y) o).toInt 0 ↔ cmpI cd (dz x) (dz y) := by
  rw [dcmp_dz nx ny]
  have key : (cmpValue (some (compare (dz x) (dz y))) o).toInt = if dz x < dz y then -1 else if dz x = dz y then 0 else 1 := by
    rw [FP.Core.compare_ite]; split
    · cases o <;> rfl
    · split
      · cases o <;> rfl
      · cases o <;> rfl
  rw [key]
  split
  · cases cd <;> simp [cmpI] <;> omega
  · split
    · cases cd <;> simp [cmpI] <;> omega
    · cases cd <;> simp [cmpI] <;> omega
/-- dcmpl | dcmpg and the branch behind it, of two that are no NaN -/
theorem dcmpF (X : St p l e R s m args below meth c Z B own nm ml ret n0 T h k n) {pc pc' : Nat} {Ls : Array Slot} {st : List Value} {cd : ClassFile.Cond} {op : CmpOp} {o : Int} {x y : UInt64} (hd1 : decode B pc = .ok (.dcmp op, 1)) (hd : decode B (pc + 1) = .ok (.ifCond cd o, 3)) (hp : (decide (0 ≤ ((pc + 1 : Nat) : Int) + o) && decide ((((pc + 1 : Nat) : Int) + o).toNat = pc')) = true) (nx : NoNaN64 x) (ny : NoNaN64 y)
    (r1 : cmpI cd (dz x) (dz y) → Go p e below s n0 Q kC kS (T.setTop (mkF m pc' Ls st))) (r2 : ¬ cmpI cd (dz x) (dz y) → Go p e below s n0 Q kC kS (T.setTop (mkF m (pc + 1 + 3) Ls st))) : Go p e below s n0 Q kC kS (T.setTop (mkF m pc Ls (.double y :: .double x :: st))) := by
  have r : Go p e below s n0 Q kC kS (T.setTop (mkF m (pc + 1) Ls (.int (cmpValue (FP.dcmp x y) op) :: st))) :=
    iff_ X hd hp (fun q => r1 ((cmpV_dz nx ny cd op).mp q)) (fun q => r2 fun z => q ((cmpV_dz nx ny cd op).mpr z))
  obtain ⟨⟨hx, rfl, -⟩, locs, X, -⟩ := X
  exact r.st fun u kk => XS.dcmpS X.here hx rfl hd1 rfl rfl kk
theorem cmpL_I (x y : Int64) (cd : ClassFile.Cond) : cmpI cd (Jvm.Free.XT.cmpL x y).toInt 0 ↔ cmpI cd x.toInt y.toInt := by
  have key : (Jvm.Free.XT.cmpL x y).toInt = if y.toInt < x.toInt then 1 else if x.toInt = y.toInt then 0 else -1 := by
    simp only [Jvm.Free.XT.cmpL, Int64.lt_iff_toInt_lt, ← Int64.toInt_inj]
    split
    · rfl
    · split <;> rfl
  rw [key]
  split
  · cases cd <;> simp [cmpI] <;> omega
  · split
    · cases cd <;> simp [cmpI] <;> omega
    · cases cd <;> simp [cmpI] <;> omega
theorem lcmpF (X : St p l e R s m args below meth c Z B own nm ml ret n0 T h k n) {pc pc' : Nat} {Ls : Array Slot} {st : List Value} {cd : ClassFile.Cond} {o : Int} {x y : Int64} (hd1 : decode B pc = .ok (.lcmp, 1)) (hd : decode B (pc + 1) = .ok (.ifCond cd o, 3)) (hp : (decide (0 ≤ ((pc + 1 : Nat) : Int) + o) && decide ((((pc + 1 : Nat) : Int) + o).toNat = pc')) = true)
    (r1 : cmpI cd x.toInt y.toInt → Go p e below s n0 Q kC kS (T.setTop (mkF m pc' Ls st))) (r2 : ¬ cmpI cd x.toInt y.toInt → Go p e below s n0 Q kC kS (T.setTop (mkF m (pc + 1 + 3) Ls st))) : Go p e below s n0 Q kC kS (T.setTop (mkF m pc Ls (.long y :: .long x :: st))) := by
  have r : Go p e below s n0 Q kC kS (T.setTop (mkF m (pc + 1) Ls (.int (Jvm.Free.XT.cmpL x y) :: st))) :=
    iff_ X hd hp (fun q => r1 ((cmpL_I x y cd).mp q)) (fun q => r2 fun z => q ((cmpL_I x y cd).mpr z))
  obtain ⟨⟨hx, rfl, -⟩, locs, X, -⟩ := X
  exact r.st fun u kk => Jvm.Free.XT.lcmp X.here hx rfl hd1 rfl kk
theorem ldcI (X : St p l e R s m args below meth c Z B own nm ml ret n0 T h k n) {a0 : Array Value} {pc index : Nat} {Ls : Array Slot} {st : List Value} {v : Int32} (hd : decode B pc = .ok (.ldc index, 2)) (w : (Cond.constant own index v).before a0 Z = true)
    (r : Go p e below s n0 Q kC kS (T.setTop (mkF m (pc + 2) Ls (.int v :: st)))) : Go p e below s n0 Q kC kS (T.setTop (mkF m pc Ls st)) := by
  obtain ⟨⟨hx, rfl, hZ, hown, -⟩, locs, X, -⟩ := X
  exact r.st fun u kk => X.ldcInt (g := mkF m pc Ls st) hx hown (mvT hZ w) rfl hd u kk
theorem ldc2J (X : St p l e R s m args below meth c Z B own nm ml ret n0 T h k n) {a0 : Array Value} {pc index : Nat} {Ls : Array Slot} {st : List Value} {v : Int64} (hd : decode B pc = .ok (.ldc2_w index, 3)) (w : (Cond.constantLong own index v).before a0 Z = true)
    (r : Go p e below s n0 Q kC kS (T.setTop (mkF m (pc + 3) Ls (.long v :: st)))) : Go p e below s n0 Q kC kS (T.setTop (mkF m pc Ls st)) := by
  obtain ⟨⟨hx, rfl, hZ, hown, -⟩, locs, X, -⟩ := X
  exact r.st fun u kk => X.ldc2Long (g := mkF m pc Ls st) hx hown (mvT hZ w) rfl hd u kk
theorem ldc2D (X : St p l e R s m args below meth c Z B own nm ml ret n0 T h k n) {a0 : Array Value} {pc index : Nat} {Ls : Array Slot} {st : List Value} {v : UInt64} (hd : decode B pc = .ok (.ldc2_w index, 3)) (w : (Cond.constantDouble own index v).before a0 Z = true)
    (r : Go p e below s n0 Q kC kS (T.setTop (mkF m (pc + 3) Ls (.double v :: st)))) : Go p e below s n0 Q kC kS (T.setTop (mkF m pc Ls st)) := by
  obtain ⟨⟨hx, rfl, hZ, hown, -⟩, locs, X, -⟩ := X
  exact r.st fun u kk => X.ldc2DoubleC (g := mkF m pc Ls st) hx hown (mvT hZ w) rfl hd u kk
theorem leaveG (X : St p l e R s m args below meth c Z B own nm ml ret n0 T h k n) {v : Option Value} {t : State} (hv : meth.sig.returnType = none → v = none) (hQ : Q v h) (hk : k ≤ kC) (hn : n ≤ kS)
    (st : ∀ (locs : List Loc) (fs : List Frame), p.tables.exec = Jvm.exec → c.code = B → meth.sig.returnType = ret → Stand p l e R s m args below meth c T locs k n → (∀ (f : JFrame) (acts : List Action), f.method = m → f.locked = none → f.entered = [] → (doReturn e (T.setTop f) acts v).1 = T.setFrames fs) → Steps p.tables e below t (T.setFrames fs)) : Go p e below s n0 Q kC kS t := by
  obtain ⟨⟨hx, hby, hZ, hown, hml, hret, hlocks, hnm⟩, locs, X, eT, N⟩ := X
  obtain ⟨fs, hr, hrun, hended, hW, hsame⟩ := X.leave (v := v) hv hlocks
  refine ⟨_, _, st locs fs hx hby hret X hr, hrun, hended, _, _, rfl, ⟨?_, N⟩, ⟨_, rfl⟩, hW, hsame.mono hk hn⟩
  show Q v T.heap
  rw [eT]; exact hQ
theorem retV (X : St p l e R s m args below meth c Z B own nm ml none n0 T h k n) {pc : Nat} {Ls : Array Slot} (hd : decode B pc = .ok (.return_, 1)) (hQ : Q none h) (hk : k ≤ kC) (hn : n ≤ kS) : Go p e below s n0 Q kC kS (T.setTop (mkF m pc Ls [])) :=
  leaveG X (v := none) (fun _ => rfl) hQ hk hn fun locs fs hx hby hret X hr => X.returnOut hx hret (by rw [hby]; exact hd) hr
theorem retB (X : St p l e R s m args below meth c Z B own nm ml (some .boolean) n0 T h k n) {pc : Nat} {Ls : Array Slot} {st : List Value} {z : Int32} (hd : decode B pc = .ok (.ireturn, 1)) (hz : z &&& 1 = z) (hQ : Q (some (.int z)) h) (hk : k ≤ kC) (hn : n ≤ kS) : Go p e below s n0 Q kC kS (T.setTop (mkF m pc Ls (.int z :: st))) :=
  leaveG X (v := some (.int z)) (fun q => by rw [X.1.2.2.2.2.2.1] at q; cases q) hQ hk hn fun locs fs hx hby hret X hr => retN X hx (t := .boolean) hret (by simp) (by rw [hby]; exact hd) (by intro f acts h1 h2 h3; rw [show nar .boolean z = z from hz]; exact hr f acts h1 h2 h3)
theorem bo_and (P : Prop) [Decidable P] : bo P &&& 1 = bo P := by unfold bo; split <;> decide
theorem retO (w : Value) (t : FieldType) {i : Instr} (X : St p l e R s m args below meth c Z B own nm ml (some t) n0 T h k n) {pc : Nat} {Ls : Array Slot} {st : List Value} (hd : decode B pc = .ok (i, 1)) (hw : narrow t w = w)
    (hi : (i = .ireturn ∧ (t = .int ∨ t = .boolean ∨ t = .byte ∨ t = .char ∨ t = .short) ∧ ∃ z, w = .int z) ∨ (i = .lreturn ∧ t = .long ∧ ∃ z, w = .long z) ∨ (i = .dreturn ∧ t = .double ∧ ∃ z, w = .double z) ∨ (i = .freturn ∧ t = .float ∧ ∃ z, w = .float z) ∨ (i = .areturn ∧ t.isReference = true ∧ w.isRef = true))
    (hQ : Q (some w) h) (hk : k ≤ kC) (hn : n ≤ kS) : Go p e below s n0 Q kC kS (T.setTop (mkF m pc Ls (w :: st))) :=
  leaveG X (v := some w) (fun q => by rw [X.1.2.2.2.2.2.1] at q; cases q) hQ hk hn fun locs fs hx hby hret X hr => retOut X hx hret hw hi (by rw [hby]; exact hd) hr
theorem retI (X : St p l e R s m args below meth c Z B own nm ml (some .int) n0 T h k n) {pc : Nat} {Ls : Array Slot} {st : List Value} {z : Int32} (hd : decode B pc = .ok (.ireturn, 1)) (hQ : Q (some (.int z)) h) (hk : k ≤ kC) (hn : n ≤ kS) : Go p e below s n0 Q kC kS (T.setTop (mkF m pc Ls (.int z :: st))) :=
  retO (.int z) .int X hd rfl (Or.inl ⟨rfl, Or.inl rfl, z, rfl⟩) hQ hk hn
theorem retD (X : St p l e R s m args below meth c Z B own nm ml (some .double) n0 T h k n) {pc : Nat} {Ls : Array Slot} {st : List Value} {z : UInt64} (hd : decode B pc = .ok (.dreturn, 1)) (hQ : Q (some (.double z)) h) (hk : k ≤ kC) (hn : n ≤ kS) : Go p e below s n0 Q kC kS (T.setTop (mkF m pc Ls (.double z :: st))) :=
  retO (.double z) .double X hd rfl (Or.inr (Or.inr (Or.inl ⟨rfl, rfl, z, rfl⟩))) hQ hk hn
theorem retA {t : FieldType} (X : St p l e R s m args below meth c Z B own nm ml (some t) n0 T h k n) {pc : Nat} {Ls : Array Slot} {st : List Value} {v : Value} (hd : decode B pc = .ok (.areturn, 1)) (ht : t.isReference = true) (hv : v.isRef = true) (hw : narrow t v = v) (hQ : Q (some v) h) (hk : k ≤ kC) (hn : n ≤ kS) : Go p e below s n0 Q kC kS (T.setTop (mkF m pc Ls (v :: st))) :=
  retO v t X hd hw (Or.inr (Or.inr (Or.inr (Or.inr ⟨rfl, ht, hv⟩)))) hQ hk hn
theorem getF_ (X : St p l e R s m args below meth c Z B own nm ml ret n0 T h k n) {a0 : Array Value} {R0 O f d host : String} {index pc : Nat} {Ls : Array Slot} {st : List Value} {a : Addr} {v : Value} (hd : decode B pc = .ok (.getfield index, 3)) (w : (Cond.fieldLink own index R0 f d).before a0 Z = true ∨ (Cond.fieldLinkNest own index R0 f d host).before a0 Z = true) (via : Via Z R0 O f d) (F : Fld Z h a O f d v)
    (r : ∀ T', St p l e R s m args below meth c Z B own nm ml ret n0 T' h k n → Go p e below s n0 Q kC kS (T'.setTop (mkF m (pc + 3) Ls (v :: st)))) : Go p e below s n0 Q kC kS (T.setTop (mkF m pc Ls (.ref a :: st))) := by
  obtain ⟨⟨hx, hby, hZ, hown, q⟩, locs, X, eT, N⟩ := X
  obtain ⟨T', X', e', st'⟩ := getF X hx hZ hown w via eT F (g := mkF m pc Ls (.ref a :: st)) rfl rfl (by rw [hby]; exact hd)
  exact (r T' ⟨⟨hx, hby, hZ, hown, q⟩, locs, X', e', N⟩).st st'
theorem putF_ (X : St p l e R s m args below meth c Z B own nm ml ret n0 T h k n) {a0 : Array Value} {R0 O f d host C : String} {index kk pc : Nat} {ty : FieldType} {Ls : Array Slot} {st : List Value} {a : Addr} {v old : Value} (hd : decode B pc = .ok (.putfield index, 3)) (w : (Cond.fieldLink own index R0 f d).before a0 Z = true ∨ (Cond.fieldLinkNest own index R0 f d host).before a0 Z = true) (via : Via Z R0 O f d) (F : Fld Z h a O f d old) (E : Exa Z h a C)
    (L : (Cond.lays C O f d).before a0 Z = true ∨ ((Cond.laysFinal C O f d).before a0 Z = true ∧ own = O ∧ nm = "<init>")) (wi : (Cond.instantiable C kk).before a0 Z = true) (hty : parseFieldDescriptor d = some ty) (hv : narrow ty v = v) (hf : fits ty v = true) (ha : n0 ≤ a)
    (r : ∀ T' h', St p l e R s m args below meth c Z B own nm ml ret n0 T' h' k n → Wr h h' a (Jvm.RoadKit.slotOf Z O f d) v → Go p e below s n0 Q kC kS (T'.setTop (mkF m (pc + 3) Ls st))) : Go p e below s n0 Q kC kS (T.setTop (mkF m pc Ls (v :: .ref a :: st))) := by
  obtain ⟨⟨hx, hby, hZ, hown, q1, q2, q3, q4⟩, locs, X, eT, N⟩ := X
  obtain ⟨T', h', X', e', W', st'⟩ := putF X hx hZ hown w via eT F E (L.imp id fun ⟨z1, z2, z3⟩ => ⟨z1, z2, q4.trans z3⟩) wi hty hv hf (g := mkF m pc Ls (v :: .ref a :: st)) rfl rfl (by rw [hby]; exact hd)
  exact (r T' h' ⟨⟨hx, hby, hZ, hown, q1, q2, q3, q4⟩, _, X', e', Fr.snoc X' N ha⟩ W').st st'
theorem getS_ (X : St p l e R s m args below meth c Z B own nm ml ret n0 T h k n) {a0 : Array Value} {R0 O f d host : String} {index pc : Nat} {Ls : Array Slot} {st : List Value} {v : Value} (hd : decode B pc = .ok (.getstatic index, 3)) (w : (Cond.fieldLink own index R0 f d).before a0 Z = true ∨ (Cond.fieldLinkNest own index R0 f d host).before a0 Z = true) (via : Via Z R0 O f d) (F : Sta Z h O f d v)
    (r : ∀ T', St p l e R s m args below meth c Z B own nm ml ret n0 T' h k n → Go p e below s n0 Q kC kS (T'.setTop (mkF m (pc + 3) Ls (v :: st)))) : Go p e below s n0 Q kC kS (T.setTop (mkF m pc Ls st)) := by
  obtain ⟨⟨hx, hby, hZ, hown, q⟩, locs, X, eT, N⟩ := X
  obtain ⟨T', X', e', st'⟩ := getS2 X hx hZ hown w via eT F (g := mkF m pc Ls st) rfl (by rw [hby]; exact hd)
  exact (r T' ⟨⟨hx, hby, hZ, hown, q⟩, locs, X', e', N⟩).st st'
theorem newO_ (X : St p l e R s m args below meth c Z B own nm ml ret n0 T h k n) {a0 : Array Value} {C : String} {index cnt pc : Nat} {Ls : Array Slot} {st : List Value} (hd : decode B pc = .ok (.new index, 3)) (w : (Cond.classLink own index C).before a0 Z = true) (wi : (Cond.instantiable C cnt).before a0 Z = true) (wz : (Cond.initialized C).before a0 Z = true) (hc : k + 1 ≤ R.cells) (hl : n + cnt ≤ R.slots)
    (r : ∀ T' h' a, a = h.size → St p l e R s m args below meth c Z B own nm ml ret n0 T' h' (k + 1) (n + cnt) → Ext h h' → Exa Z h' a C → (∀ {O f d : String} {ty : FieldType}, Laid Z a0 C O f d → parseFieldDescriptor d = some ty → Fld Z h' a O f d (defaultValue ty)) → Go p e below s n0 Q kC kS (T'.setTop (mkF m (pc + 3) Ls (.ref a :: st)))) : Go p e below s n0 Q kC kS (T.setTop (mkF m pc Ls st)) := by
  obtain ⟨⟨hx, hby, hZ, hown, q⟩, locs, X, eT, N⟩ := X
  obtain ⟨T', h', X', e', E', A', D', -, st'⟩ := newO X hx hZ hown w wi wz eT (g := mkF m pc Ls st) rfl (by rw [hby]; exact hd) hc hl
  exact (r T' h' _ rfl ⟨⟨hx, hby, hZ, hown, q⟩, locs, X', e', N⟩ E' A' D').st st'
theorem initO_ (X : St p l e R s m args below meth c Z B own nm ml ret n0 T h k n) {a0 : Array Value} {idx W pc : Nat} {Ls : Array Slot} {st : List Value} {a : Addr} (hd : decode B pc = .ok (.invokespecial idx, 3)) (w1 : (Cond.methodLink own idx Lib.objectInit).before a0 Z = true) (w2 : (Cond.instanceMethod Lib.objectInit).before a0 Z = true) (w3 : (Cond.code Lib.objectInit ⟨#[0xb1]⟩ 1 none).before a0 Z = true) (hsz : Ls.size = ml)
    (hf : 1 ≤ R.frames) (hW : 2 * 0 + (st.map fun v => v.category).sum ≤ W) (hl : W + 12 ≤ R.locals)
    (r : ∀ T', St p l e R s m args below meth c Z B own nm ml ret n0 T' h k n → Go p e below s n0 Q kC kS (T'.setTop (mkF m (pc + 3) Ls st))) : Go p e below s n0 Q kC kS (T.setTop (mkF m pc Ls (.ref a :: st))) := by
  obtain ⟨⟨hx, hby, hZ, hown, hml, q⟩, locs, X, eT, N⟩ := X
  obtain ⟨T', X', e', st'⟩ := initO X hx hZ hown w1 w2 w3 eT (g := mkF m pc Ls (.ref a :: st)) rfl (by rw [hml]; exact hsz) rfl (by rw [hby]; exact hd) hf hW hl
  exact (r T' ⟨⟨hx, hby, hZ, hown, hml, q⟩, locs, X', e', N⟩).st st'

theorem newP_ (X : St p l e R s m args below meth c Z B own nm ml ret n0 T h k n) {a0 : Array Value} {aty : ArrayType} {z : Int32} {pc : Nat} {Ls : Array Slot} {st : List Value} (cap : Nat) (ty : FieldType) (dv : Value) (ad : String) (hd : decode B pc = .ok (.newarray aty, 2)) (hty : newarray.typeOf aty = ty) (hdv : defaultValue ty = dv) (had : "[" ++ ty.toString = ad) (w : (Cond.arrayClass ty).before a0 Z = true) (hz : ¬ z < 0) (hcap : z.toNatClampNeg ≤ cap) (hb : cap * 8 ≤ 536870912) (hc : k + 1 ≤ R.cells) (hl : n + cap ≤ R.slots)
    (r : ∀ T' h' a kk, a = h.size → St p l e R s m args below meth c Z B own nm ml ret n0 T' h' (k + 1) (n + cap) → Ext h h' → Arv Z h' a kk ty z [] dv → Exa Z h' a ad → Go p e below s n0 Q kC kS (T'.setTop (mkF m (pc + 2) Ls (.ref a :: st)))) : Go p e below s n0 Q kC kS (T.setTop (mkF m pc Ls (.int z :: st))) := by
  subst hty hdv
  obtain ⟨⟨hx, hby, hZ, q⟩, locs, X, eT, N⟩ := X
  obtain ⟨T', h', cA, X', e', E', A', G', st'⟩ := newPE X hx hZ w eT (g := mkF m pc Ls (.int z :: st)) rfl (by rw [hby]; exact hd) rfl hz hcap hb hc hl had
  exact (r T' h' _ cA rfl ⟨⟨hx, hby, hZ, q⟩, locs, X', e', N⟩ E' (Arv.new A' hz) G').st st'
theorem alen_ (X : St p l e R s m args below meth c Z B own nm ml ret n0 T h k n) {kk : ClassId} {ty : FieldType} {z : Int32} {vs : List Value} {dv : Value} {a : Addr} {pc : Nat} {Ls : Array Slot} {st : List Value} (hd : decode B pc = .ok (.arraylength, 1)) (A : Arv Z h a kk ty z vs dv)
    (r : Go p e below s n0 Q kC kS (T.setTop (mkF m (pc + 1) Ls (.int z :: st)))) : Go p e below s n0 Q kC kS (T.setTop (mkF m pc Ls (.ref a :: st))) := by
  obtain ⟨⟨hx, rfl, hZ, -⟩, locs, X, eT, -⟩ := X
  obtain ⟨cl, A, -, S, hz, -⟩ := A
  rw [← len_of S hz] at r
  exact r.st fun u kk => X.arraylength (g := mkF m pc Ls (.ref a :: st)) hx (by rw [eT]; exact A.1) (State.isArrayOf_alike hZ.alike A.2.1) rfl rfl hd u kk
theorem daload_ (X : St p l e R s m args below meth c Z B own nm ml ret n0 T h k n) {kk : ClassId} {z j : Int32} {vs : List Value} {dv : Value} {v : UInt64} {a : Addr} {pc : Nat} {Ls : Array Slot} {st : List Value} (hd : decode B pc = .ok (.daload, 1)) (A : Arv Z h a kk .double z vs dv) (hj : ¬ j < 0 ∧ j < z) (hv : vs.getD j.toNatClampNeg dv = .double v)
    (r : Go p e below s n0 Q kC kS (T.setTop (mkF m (pc + 1) Ls (.double v :: st)))) : Go p e below s n0 Q kC kS (T.setTop (mkF m pc Ls (.int j :: .ref a :: st))) := by
  obtain ⟨⟨hx, rfl, hZ, -⟩, locs, X, eT, -⟩ := X
  obtain ⟨cl, A, -, S, hz, H, -⟩ := A
  exact r.st fun u kk => X.daload (g := mkF m pc Ls (.int j :: .ref a :: st)) hx (by rw [eT]; exact A.1) (State.isArrayOf_alike hZ.alike A.2.1) A.2.2 (inb_of S hj) (H.at (inb_of S hj) hv) rfl rfl hd u kk
theorem iaload_ (X : St p l e R s m args below meth c Z B own nm ml ret n0 T h k n) {kk : ClassId} {z j : Int32} {vs : List Value} {dv : Value} {v : Int32} {a : Addr} {pc : Nat} {Ls : Array Slot} {st : List Value} (hd : decode B pc = .ok (.iaload, 1)) (A : Arv Z h a kk .int z vs dv) (hj : ¬ j < 0 ∧ j < z) (hv : vs.getD j.toNatClampNeg dv = .int v)
    (r : Go p e below s n0 Q kC kS (T.setTop (mkF m (pc + 1) Ls (.int v :: st)))) : Go p e below s n0 Q kC kS (T.setTop (mkF m pc Ls (.int j :: .ref a :: st))) := by
  obtain ⟨⟨hx, rfl, hZ, -⟩, locs, X, eT, -⟩ := X
  obtain ⟨cl, A, -, S, hz, H, -⟩ := A
  exact r.st fun u kk => X.iaload (g := mkF m pc Ls (.int j :: .ref a :: st)) hx (by rw [eT]; exact A.1) (State.isArrayOf_alike hZ.alike A.2.1) A.2.2 (inb_of S hj) (H.at (inb_of S hj) hv) rfl rfl hd u kk
theorem laload_ (X : St p l e R s m args below meth c Z B own nm ml ret n0 T h k n) {kk : ClassId} {z j : Int32} {vs : List Value} {dv : Value} {v : Int64} {a : Addr} {pc : Nat} {Ls : Array Slot} {st : List Value} (hd : decode B pc = .ok (.laload, 1)) (A : Arv Z h a kk .long z vs dv) (hj : ¬ j < 0 ∧ j < z) (hv : vs.getD j.toNatClampNeg dv = .long v)
    (r : Go p e below s n0 Q kC kS (T.setTop (mkF m (pc + 1) Ls (.long v :: st)))) : Go p e below s n0 Q kC kS (T.setTop (mkF m pc Ls (.int j :: .ref a :: st))) := by
  obtain ⟨⟨hx, rfl, hZ, -⟩, locs, X, eT, -⟩ := X
  obtain ⟨cl, A, -, S, hz, H, -⟩ := A
  exact r.st fun u kk => X.laload (g := mkF m pc Ls (.int j :: .ref a :: st)) hx (by rw [eT]; exact A.1) (State.isArrayOf_alike hZ.alike A.2.1) A.2.2 (inb_of S hj) (H.at (inb_of S hj) hv) rfl rfl hd u kk
theorem aaload_ (X : St p l e R s m args below meth c Z B own nm ml ret n0 T h k n) {kk : ClassId} {ty : FieldType} {z j : Int32} {vs : List Value} {dv v : Value} {a : Addr} {pc : Nat} {Ls : Array Slot} {st : List Value} (hd : decode B pc = .ok (.aaload, 1)) (A : Arv Z h a kk ty z vs dv) (hty : ty.isReference = true) (hj : ¬ j < 0 ∧ j < z) (hv : vs.getD j.toNatClampNeg dv = v)
    (r : Go p e below s n0 Q kC kS (T.setTop (mkF m (pc + 1) Ls (v :: st)))) : Go p e below s n0 Q kC kS (T.setTop (mkF m pc Ls (.int j :: .ref a :: st))) := by
  obtain ⟨⟨hx, rfl, hZ, -⟩, locs, X, eT, -⟩ := X
  obtain ⟨cl, A, -, S, hz, H, -⟩ := A
  exact r.st fun u kk => X.aaload (g := mkF m pc Ls (.int j :: .ref a :: st)) hx (by rw [eT]; exact A.1) (State.isArrayOf_alike hZ.alike A.2.1) hty A.2.2 (inb_of S hj) (H.at (inb_of S hj) hv) rfl rfl hd u kk
theorem dastore_ (X : St p l e R s m args below meth c Z B own nm ml ret n0 T h k n) {kk : ClassId} {z j : Int32} {vs : List Value} {dv : Value} {v : UInt64} {a : Addr} {pc : Nat} {Ls : Array Slot} {st : List Value} (i : Nat) (hd : decode B pc = .ok (.dastore, 1)) (A : Arv Z h a kk .double z vs dv) (hj : ¬ j < 0 ∧ j < z) (hi : j.toNatClampNeg = i) (hl : i < vs.length) (ha : n0 ≤ a)
    (r : ∀ T' h', St p l e R s m args below meth c Z B own nm ml ret n0 T' h' k n → Wr h h' a j.toNatClampNeg (.double v) → Arv Z h' a kk .double z (vs.set i (.double v)) dv → Go p e below s n0 Q kC kS (T'.setTop (mkF m (pc + 1) Ls st))) : Go p e below s n0 Q kC kS (T.setTop (mkF m pc Ls (.double v :: .int j :: .ref a :: st))) := by
  obtain ⟨⟨hx, hby, hZ, q⟩, locs, X, eT, N⟩ := X
  obtain ⟨cl, A, q1, S, hz, H, F⟩ := A
  obtain ⟨T', h', X', e', W', st'⟩ := stD X hx hZ eT A (inb_of S hj) (g := mkF m pc Ls (.double v :: .int j :: .ref a :: st)) rfl rfl (by rw [hby]; exact hd)
  exact (r T' h' ⟨⟨hx, hby, hZ, q⟩, _, X', e', Fr.snoc X' N ha⟩ W' (Arv.set A q1 S hz H F rfl W' i hi hl)).st st'
theorem iastore_ (X : St p l e R s m args below meth c Z B own nm ml ret n0 T h k n) {kk : ClassId} {z j : Int32} {vs : List Value} {dv : Value} {v : Int32} {a : Addr} {pc : Nat} {Ls : Array Slot} {st : List Value} (i : Nat) (hd : decode B pc = .ok (.iastore, 1)) (A : Arv Z h a kk .int z vs dv) (hj : ¬ j < 0 ∧ j < z) (hi : j.toNatClampNeg = i) (hl : i < vs.length) (ha : n0 ≤ a)
    (r : ∀ T' h', St p l e R s m args below meth c Z B own nm ml ret n0 T' h' k n → Wr h h' a j.toNatClampNeg (.int v) → Arv Z h' a kk .int z (vs.set i (.int v)) dv → Go p e below s n0 Q kC kS (T'.setTop (mkF m (pc + 1) Ls st))) : Go p e below s n0 Q kC kS (T.setTop (mkF m pc Ls (.int v :: .int j :: .ref a :: st))) := by
  obtain ⟨⟨hx, hby, hZ, q⟩, locs, X, eT, N⟩ := X
  obtain ⟨cl, A, q1, S, hz, H, F⟩ := A
  obtain ⟨T', h', X', e', W', st'⟩ := stI X hx hZ eT A (inb_of S hj) (g := mkF m pc Ls (.int v :: .int j :: .ref a :: st)) rfl rfl (by rw [hby]; exact hd)
  exact (r T' h' ⟨⟨hx, hby, hZ, q⟩, _, X', e', Fr.snoc X' N ha⟩ W' (Arv.set A q1 S hz H F rfl W' i hi hl)).st st'
theorem lastore_ (X : St p l e R s m args below meth c Z B own nm ml ret n0 T h k n) {kk : ClassId} {z j : Int32} {vs : List Value} {dv : Value} {v : Int64} {a : Addr} {pc : Nat} {Ls : Array Slot} {st : List Value} (i : Nat) (hd : decode B pc = .ok (.lastore, 1)) (A : Arv Z h a kk .long z vs dv) (hj : ¬ j < 0 ∧ j < z) (hi : j.toNatClampNeg = i) (hl : i < vs.length) (ha : n0 ≤ a)
    (r : ∀ T' h', St p l e R s m args below meth c Z B own nm ml ret n0 T' h' k n → Wr h h' a j.toNatClampNeg (.long v) → Arv Z h' a kk .long z (vs.set i (.long v)) dv → Go p e below s n0 Q kC kS (T'.setTop (mkF m (pc + 1) Ls st))) : Go p e below s n0 Q kC kS (T.setTop (mkF m pc Ls (.long v :: .int j :: .ref a :: st))) := by
  obtain ⟨⟨hx, hby, hZ, q⟩, locs, X, eT, N⟩ := X
  obtain ⟨cl, A, q1, S, hz, H, F⟩ := A
  obtain ⟨T', h', X', e', W', st'⟩ := stJ X hx hZ eT A (inb_of S hj) (g := mkF m pc Ls (.long v :: .int j :: .ref a :: st)) rfl rfl (by rw [hby]; exact hd)
  exact (r T' h' ⟨⟨hx, hby, hZ, q⟩, _, X', e', Fr.snoc X' N ha⟩ W' (Arv.set A q1 S hz H F rfl W' i hi hl)).st st'
theorem newRA_ (X : St p l e R s m args below meth c Z B own nm ml ret n0 T h k n) {a0 : Array Value} {C ad : String} {ty : FieldType} {index : Nat} {z : Int32} {pc : Nat} {Ls : Array Slot} {st : List Value} (cap : Nat) (hd : decode B pc = .ok (.anewarray index, 3)) (hC : (FieldType.array ty).toString = C) (had : "[" ++ C = ad) (w1 : (Cond.classLink own index C).before a0 Z = true) (w2 : (Cond.arrayOver (.array ty)).before a0 Z = true) (hz : ¬ z < 0) (hcap : z.toNatClampNeg ≤ cap) (hb : cap * 8 ≤ 536870912) (hc : k + 1 ≤ R.cells) (hl : n + cap ≤ R.slots)
    (r : ∀ T' h' a kk, a = h.size → St p l e R s m args below meth c Z B own nm ml ret n0 T' h' (k + 1) (n + cap) → Ext h h' → Arv Z h' a kk (.array ty) z [] .null → Exa Z h' a ad → OvrA Z kk ty C → Go p e below s n0 Q kC kS (T'.setTop (mkF m (pc + 3) Ls (.ref a :: st)))) : Go p e below s n0 Q kC kS (T.setTop (mkF m pc Ls (.int z :: st))) := by
  obtain ⟨⟨hx, hby, hZ, hown, q⟩, locs, X, eT, N⟩ := X
  obtain ⟨T', h', cA, X', e', E', A', G', O', st'⟩ := newRA X hx hZ hown hC w1 w2 eT (g := mkF m pc Ls (.int z :: st)) rfl (by rw [hby]; exact hd) rfl hz hcap hb hc hl had
  exact (r T' h' _ cA rfl ⟨⟨hx, hby, hZ, hown, q⟩, locs, X', e', N⟩ E' (Arv.new A' hz) G' O').st st'
theorem newRE_ (X : St p l e R s m args below meth c Z B own nm ml ret n0 T h k n) {a0 : Array Value} {C ad : String} {index : Nat} {z : Int32} {pc : Nat} {Ls : Array Slot} {st : List Value} (cap : Nat) (hd : decode B pc = .ok (.anewarray index, 3)) (had : "[" ++ (FieldType.object C).toString = ad) (w1 : (Cond.classLink own index C).before a0 Z = true) (w2 : (Cond.arrayOver (.object C)).before a0 Z = true) (hz : ¬ z < 0) (hcap : z.toNatClampNeg ≤ cap) (hb : cap * 8 ≤ 536870912) (hc : k + 1 ≤ R.cells) (hl : n + cap ≤ R.slots)
    (r : ∀ T' h' a kk, a = h.size → St p l e R s m args below meth c Z B own nm ml ret n0 T' h' (k + 1) (n + cap) → Ext h h' → Arv Z h' a kk (.object C) z [] .null → Exa Z h' a ad → Ovr Z kk C → Go p e below s n0 Q kC kS (T'.setTop (mkF m (pc + 3) Ls (.ref a :: st)))) : Go p e below s n0 Q kC kS (T.setTop (mkF m pc Ls (.int z :: st))) := by
  obtain ⟨⟨hx, hby, hZ, hown, q⟩, locs, X, eT, N⟩ := X
  obtain ⟨T', h', cA, X', e', E', A', G', O', st'⟩ := newRE X hx hZ hown w1 w2 eT (g := mkF m pc Ls (.int z :: st)) rfl (by rw [hby]; exact hd) rfl hz hcap hb hc hl had
  exact (r T' h' _ cA rfl ⟨⟨hx, hby, hZ, hown, q⟩, locs, X', e', N⟩ E' (Arv.new A' hz) G' O').st st'
theorem aastore_ (X : St p l e R s m args below meth c Z B own nm ml ret n0 T h k n) {kk : ClassId} {ty : FieldType} {z j : Int32} {vs : List Value} {dv v : Value} {a : Addr} {pc : Nat} {Ls : Array Slot} {st : List Value} (i : Nat) (hd : decode B pc = .ok (.aastore, 1)) (A : Arv Z h a kk ty z vs dv) (hty : ty.isReference = true) (hj : ¬ j < 0 ∧ j < z) (hi : j.toNatClampNeg = i) (hl : i < vs.length) (ha : n0 ≤ a) (hf : fits ty v = true) (F : ∀ cl : Cell, Arr Z h a cl ty → cl.cls = kk → Sto Z h a v)
    (r : ∀ T' h', St p l e R s m args below meth c Z B own nm ml ret n0 T' h' k n → Wr h h' a j.toNatClampNeg v → Arv Z h' a kk ty z (vs.set i v) dv → Go p e below s n0 Q kC kS (T'.setTop (mkF m (pc + 1) Ls st))) : Go p e below s n0 Q kC kS (T.setTop (mkF m pc Ls (v :: .int j :: .ref a :: st))) := by
  obtain ⟨⟨hx, hby, hZ, q⟩, locs, X, eT, N⟩ := X
  obtain ⟨cl, A, q1, S, hz, H, G⟩ := A
  obtain ⟨T', h', X', e', W', st'⟩ := stR X hx hZ eT A (inb_of S hj) hty (F cl A q1) (g := mkF m pc Ls (v :: .int j :: .ref a :: st)) rfl rfl (by rw [hby]; exact hd)
  exact (r T' h' ⟨⟨hx, hby, hZ, q⟩, _, X', e', Fr.snoc X' N ha⟩ W' (Arv.set A q1 S hz H G hf W' i hi hl)).st st'
theorem acmp_ (X : St p l e R s m args below meth c Z B own nm ml ret n0 T h k n) {cd : ACond} {pc pc' : Nat} {Ls : Array Slot} {st : List Value} {o : Int} {x y : Value} {same : Bool} (hd : decode B pc = .ok (.if_acmp cd o, 3)) (h1 : x.isRef = true) (h2 : y.isRef = true) (hq : decide (x = y) = same) (ho : 0 ≤ (pc : Int) + o) (hp : pc' = if acV cd same = true then ((pc : Int) + o).toNat else pc + 3)
    (r : Go p e below s n0 Q kC kS (T.setTop (mkF m pc' Ls st))) : Go p e below s n0 Q kC kS (T.setTop (mkF m pc Ls (y :: x :: st))) := by
  obtain ⟨⟨hx, rfl, -⟩, locs, X, -⟩ := X
  exact r.st fun u kk => Jvm.RoadKit.acmp (g := mkF m pc Ls (y :: x :: st)) X hx rfl h1 h2 rfl hd rfl hq ho hp kk

theorem gridM3_ (X : St p l e R s m args below meth c Z B own nm ml ret n0 T h k n) {a0 : Array Value} {C ad : String} {ty : FieldType} {index : Nat} {zk : Int32} {pc : Nat} {Ls : Array Slot} {st : List Value} (cap : Nat) (dv : Value) (hd : decode B pc = .ok (.multianewarray index 2, 4)) (hC : (FieldType.array ty).toString = C) (had : "[" ++ C = ad) (w1 : (Cond.classLink own index ad).before a0 Z = true) (w2 : (Cond.arrayOver (.array ty)).before a0 Z = true) (w3 : (Cond.arrayClass ty).before a0 Z = true) (hdv : defaultValue ty = dv) (hk : ¬ zk < 0) (hcap : zk.toNatClampNeg ≤ cap) (hb : cap * 8 ≤ 536870912) (hdf : fits ty (defaultValue ty) = true) (hdd : (defaultValue ty).isDefault = true) (hc : k + (1 + 3) ≤ R.cells) (hl : n + (3 + 3 * cap) ≤ R.slots)
    (r : ∀ T' h' a x0 x1 x2 kk comp, a = h.size → x0 = a + 1 → x1 = a + 2 → x2 = a + 3 → St p l e R s m args below meth c Z B own nm ml ret n0 T' h' (k + (1 + 3)) (n + (3 + 3 * cap)) → Ext h h' → Arv Z h' a kk (.array ty) 3 [.ref x0, .ref x1, .ref x2] .null → OvrA Z kk ty C → Exa Z h' a ad → Arv Z h' x0 comp ty zk [] dv → Arv Z h' x1 comp ty zk [] dv → Arv Z h' x2 comp ty zk [] dv → Exa Z h' x0 C → Exa Z h' x1 C → Exa Z h' x2 C → Go p e below s n0 Q kC kS (T'.setTop (mkF m (pc + 4) Ls (.ref a :: st)))) : Go p e below s n0 Q kC kS (T.setTop (mkF m pc Ls (.int zk :: .int 3 :: st))) := by
  subst hdv
  obtain ⟨⟨hx, hby, hZ, hown, q⟩, locs, X, eT, N⟩ := X
  obtain ⟨T', h', cA, comp, X', e', E', A', O', G', I', st'⟩ := gridM X hx hZ hown hC had w1 w2 w3 eT (g := mkF m pc Ls (.int zk :: .int 3 :: st)) rfl (by rw [hby]; exact hd) rfl (by decide) hk (xs := [h.size + 1 + 0, h.size + 1 + 1, h.size + 1 + 2]) (N := 3) rfl rfl hcap hb (by decide) hdf hdd hc hl
  exact (r T' h' _ _ _ _ cA comp rfl rfl rfl rfl ⟨⟨hx, hby, hZ, hown, q⟩, locs, X', e', N⟩ E' A' O' G' (Arv.new (I' 0 _ rfl).1 hk) (Arv.new (I' 1 _ rfl).1 hk) (Arv.new (I' 2 _ rfl).1 hk) (I' 0 _ rfl).2 (I' 1 _ rfl).2 (I' 2 _ rfl).2).st st'

theorem callS_ (X : St p l e R s m args below meth c Z B own nm ml ret n0 T h k n) {a0 : Array Value} {idx W pc : Nat} {Ls : Array Slot} {rest : List Value} {argsL : List Value} {y : MethodName} {bytes : ByteArray} {maxL : Nat} {rt : Option FieldType} {rm : Room} {Qc : Option Value → Heap → Prop} (hd : decode B pc = .ok (.invokestatic idx, 3)) (w1 : (Cond.methodLink own idx y).before a0 Z = true) (w2 : (Cond.static y).before a0 Z = true) (w3 : (Cond.initialized y.cls).before a0 Z = true) (w4 : (Cond.code y bytes maxL rt).before a0 Z = true)
    (hy : y.cls ≠ "java/lang/invoke/MethodHandle" ∧ y.cls ≠ "java/lang/invoke/VarHandle") (hM : Con l Z y [] bytes maxL rt rm argsL.toArray h n0 Qc) (hlen : ∀ sig, parseMethodDescriptor y.desc = some sig → argsL.length = sig.parameters.length) (hsz : Ls.size = ml) {stk : List Value} (hs : stk = argsL.reverse ++ rest)
    (hW : 2 * 0 + (rest.map fun v => v.category).sum ≤ W) (hf : rm.frames + 1 ≤ R.frames) (hl : W + (maxL + 11) + rm.locals ≤ R.locals) (hc : k + rm.cells ≤ R.cells) (hn : n + rm.slots ≤ R.slots)
    (r : ∀ T' h' v, St p l e R s m args below meth c Z B own nm ml ret n0 T' h' (k + rm.cells) (n + rm.slots) → Qc v h' → Go p e below s n0 Q kC kS (T'.setTop (mkF m (pc + 3) Ls (v.toList ++ rest)))) : Go p e below s n0 Q kC kS (T.setTop (mkF m pc Ls stk)) := by
  obtain ⟨⟨hx, hby, hZ, hown, hml, q⟩, locs, X, eT, N⟩ := X
  obtain ⟨v, vm1, ⟨T', L', k', n'⟩, -, X', ⟨Lc, ⟨hQ, N'⟩, l1, l2, l3⟩, st'⟩ := Jvm.LawKit.callS X hx (y := y) hown (mvT hZ w1) (mvT hZ w2) (mvT hZ w3) (mvT hZ w4) hy (backOf (Q := fun v h L => Qc v h ∧ Fr n0 L) hM hZ w4 w3 hf hl) (g := mkF m pc Ls stk) rfl (by rw [hml]; exact hsz) (argsL := argsL) (rest := rest) hlen hs hW (by rw [hby]; exact hd) (fun _ _ => ⟨rfl, eT, hc, hn⟩)
  dsimp only [Pt.U, Pt.locs, Pt.cells, Pt.slots] at X' l1 l2 l3 st' hQ
  subst l1 l2 l3
  exact (r T' T'.heap v ⟨⟨hx, hby, hZ, hown, hml, q⟩, _, X', rfl, Fr.app N N'⟩ hQ).st st'
theorem Go.tr {t t' : State} (r : Go p e below s n0 Q kC kS t') (q : Steps p.tables e below t t') : Go p e below s n0 Q kC kS t := r.st fun u kk => q.trans kk
theorem callI_ (X : St p l e R s m args below meth c Z B own nm ml ret n0 T h k n) {a0 : Array Value} {idx W pc : Nat} {Ls : Array Slot} {rest : List Value} {argsL : List Value} {a : Addr} {y : MethodName} {bytes : ByteArray} {maxL : Nat} {rm : Room} {Qc : Option Value → Heap → Prop} (hd : decode B pc = .ok (.invokespecial idx, 3)) (hin : y.name = "<init>") (w1 : (Cond.methodLink own idx y).before a0 Z = true) (w2 : (Cond.instanceMethod y).before a0 Z = true) (w3 : (Cond.initialized y.cls).before a0 Z = true) (w4 : (Cond.code y bytes maxL none).before a0 Z = true)
    (hy : y.cls ≠ "java/lang/invoke/MethodHandle" ∧ y.cls ≠ "java/lang/invoke/VarHandle") (hM : Con l Z y [] bytes maxL none rm (.ref a :: argsL).toArray h n0 Qc) (hlen : ∀ sig, parseMethodDescriptor y.desc = some sig → argsL.length = sig.parameters.length) (hsz : Ls.size = ml) {stk : List Value} (hs : stk = argsL.reverse ++ .ref a :: rest)
    (hW : 2 * 0 + (rest.map fun v => v.category).sum ≤ W) (hf : rm.frames + 1 ≤ R.frames) (hl : W + (maxL + 11) + rm.locals ≤ R.locals) (hc : k + rm.cells ≤ R.cells) (hn : n + rm.slots ≤ R.slots)
    (r : ∀ T' h' v, St p l e R s m args below meth c Z B own nm ml ret n0 T' h' (k + rm.cells) (n + rm.slots) → Qc v h' → Go p e below s n0 Q kC kS (T'.setTop (mkF m (pc + 3) Ls (v.toList ++ rest)))) : Go p e below s n0 Q kC kS (T.setTop (mkF m pc Ls stk)) := by
  obtain ⟨⟨hx, hby, hZ, hown, hml, q⟩, locs, X, eT, N⟩ := X
  obtain ⟨v, vm1, ⟨T', L', k', n'⟩, -, X', ⟨Lc, ⟨hQ, N'⟩, l1, l2, l3⟩, st'⟩ := X.specialBack hx (y := y) hin hown (mvT hZ w1) (mvT hZ w2) (mvT hZ w4) hy (backOf (Q := fun v h L => Qc v h ∧ Fr n0 L) hM hZ w4 w3 hf hl) (g := mkF m pc Ls stk) rfl (by rw [hml]; exact hsz) (Steps.refl _) (a := a) (argsL := argsL) (rest := rest) hlen hs hW (by rw [hby]; exact hd) (fun _ _ => ⟨rfl, eT, hc, hn⟩)
  dsimp only [Pt.U, Pt.locs, Pt.cells, Pt.slots] at X' l1 l2 l3 st' hQ
  subst l1 l2 l3
  exact (r T' T'.heap v ⟨⟨hx, hby, hZ, hown, hml, q⟩, _, X', rfl, Fr.app N N'⟩ hQ).tr st'
theorem callV_ (X : St p l e R s m args below meth c Z B own nm ml ret n0 T h k n) {a0 : Array Value} {idx W pc : Nat} {Ls : Array Slot} {rest : List Value} {argsL : List Value} {a : Addr} {C : String} {y z : MethodName} {bytes : ByteArray} {maxL : Nat} {rt : Option FieldType} {rm : Room} {Qc : Option Value → Heap → Prop} (hd : decode B pc = .ok (.invokevirtual idx, 3)) (w1 : (Cond.methodLink own idx y).before a0 Z = true) (w2 : (Cond.declares y).before a0 Z = true) (w5 : (Cond.selects C y z).before a0 Z = true) (w6 : (Cond.instanceMethod z).before a0 Z = true) (hzy : z = y) (w3 : (Cond.initialized z.cls).before a0 Z = true) (w4 : (Cond.code z bytes maxL rt).before a0 Z = true)
    (hy : y.cls ≠ "java/lang/invoke/MethodHandle" ∧ y.cls ≠ "java/lang/invoke/VarHandle") (E : Exa Z h a C) (hM : Con l Z z [] bytes maxL rt rm (.ref a :: argsL).toArray h n0 Qc) (hlen : ∀ sig, parseMethodDescriptor y.desc = some sig → argsL.length = sig.parameters.length) (hsz : Ls.size = ml) {stk : List Value} (hs : stk = argsL.reverse ++ .ref a :: rest)
    (hW : 2 * 0 + (rest.map fun v => v.category).sum ≤ W) (hf : rm.frames + 1 ≤ R.frames) (hl : W + (maxL + 11) + rm.locals ≤ R.locals) (hc : k + rm.cells ≤ R.cells) (hn : n + rm.slots ≤ R.slots)
    (r : ∀ T' h' v, St p l e R s m args below meth c Z B own nm ml ret n0 T' h' (k + rm.cells) (n + rm.slots) → Qc v h' → Go p e below s n0 Q kC kS (T'.setTop (mkF m (pc + 3) Ls (v.toList ++ rest)))) : Go p e below s n0 Q kC kS (T.setTop (mkF m pc Ls stk)) := by
  obtain ⟨⟨hx, hby, hZ, hown, hml, q⟩, locs, X, eT, N⟩ := X
  subst hzy
  obtain ⟨cq, kq, qa, qb, qc⟩ := isOf hZ eT E
  obtain ⟨v, vm1, ⟨T', L', k', n'⟩, -, X', ⟨Lc, ⟨hQ, N'⟩, l1, l2, l3⟩, st'⟩ := X.virtualBack hx (y := z) (z := z) hown (mvT hZ w1) (mvT hZ w2) (notFace_of_selects (args := #[]) (mvT hZ w5)) (mvT hZ w5) (mvT hZ w6) hy (backOf (Q := fun v h L => Qc v h ∧ Fr n0 L) hM hZ w4 w3 hf hl) qa qc (g := mkF m pc Ls stk) rfl (by rw [hml]; exact hsz) (Steps.refl _) (argsL := argsL) (rest := rest) hlen hs hW (by rw [hby]; exact hd) (fun _ _ => ⟨rfl, eT, hc, hn⟩)
  dsimp only [Pt.U, Pt.locs, Pt.cells, Pt.slots] at X' l1 l2 l3 st' hQ
  subst l1 l2 l3
  exact (r T' T'.heap v ⟨⟨hx, hby, hZ, hown, hml, q⟩, _, X', rfl, Fr.app N N'⟩ hQ).tr st'

theorem absD_ (X : St p l e R s m args below meth c Z B own nm ml ret n0 T h k n) {a0 : Array Value} {idx W pc : Nat} {Ls : Array Slot} {st : List Value} {x : UInt64} (hd : decode B pc = .ok (.invokestatic idx, 3)) (w1 : (Cond.methodLink own idx Jvm.Free.Fl.Abs.absDN).before a0 Z = true) (w2 : (Cond.static Jvm.Free.Fl.Abs.absDN).before a0 Z = true) (w3 : (Cond.initialized "java/lang/Math").before a0 Z = true) (w4 : (Cond.code Jvm.Free.Fl.Abs.absDN Jvm.Free.Fl.Abs.absDCode 2 (some .double)).before a0 Z = true) (nx : NoNaN64 x) (hlen : ∀ sig, parseMethodDescriptor "(D)D" = some sig → [Value.double x].length = sig.parameters.length) (hsz : Ls.size = ml)
    (hW : 2 * 0 + (st.map fun v => v.category).sum ≤ W) (hf : 1 ≤ R.frames) (hl : W + 13 ≤ R.locals) (hk : k ≤ R.cells) (hn : n ≤ R.slots)
    (r : ∀ T', St p l e R s m args below meth c Z B own nm ml ret n0 T' h k n → Go p e below s n0 Q kC kS (T'.setTop (mkF m (pc + 3) Ls (.double (x &&& 0x7fffffffffffffff) :: st)))) : Go p e below s n0 Q kC kS (T.setTop (mkF m pc Ls (.double x :: st))) := by
  obtain ⟨⟨hx, hby, hZ, hown, hml, q⟩, locs, X, eT, N⟩ := X
  obtain ⟨T', X', e', st'⟩ := natS X hx hZ hown w1 w2 w3 w4 (by decide) eT (W := W) (fun hc => Jvm.Free.Fl.Abs.absD_pays x hc hf hl) (g := mkF m pc Ls (.double x :: st)) rfl (by rw [hml]; exact hsz) (argsL := [.double x]) (rest := st) hlen rfl hW (by rw [hby]; exact hd) hk hn ⟨rfl, nx⟩ rfl
  exact (r T' ⟨⟨hx, hby, hZ, hown, hml, q⟩, locs, X', e', N⟩).st st'

theorem callP_ (X : St p l e R s m args below meth c Z B own nm ml ret n0 T h k n) {a0 : Array Value} {idx W pc : Nat} {Ls : Array Slot} {rest : List Value} {argsL : List Value} {a : Addr} {C D : String} {y z' z : MethodName} {bytes : ByteArray} {maxL : Nat} {rt : Option FieldType} {rm : Room} {Qc : Option Value → Heap → Prop} (hd : decode B pc = .ok (.invokevirtual idx, 3)) (w1 : (Cond.methodLink own idx y).before a0 Z = true) (w2 : (Cond.instanceMethod y).before a0 Z = true) (w5 : (Cond.selects D z' z).before a0 Z = true) (hz : z.cls = y.cls) (w6 : (Cond.privateMethod y).before a0 Z = true) (w3 : (Cond.initialized y.cls).before a0 Z = true) (w4 : (Cond.code y bytes maxL rt).before a0 Z = true)
    (hy : y.cls ≠ "java/lang/invoke/MethodHandle" ∧ y.cls ≠ "java/lang/invoke/VarHandle") (E : Exa Z h a C) (hM : Con l Z y [] bytes maxL rt rm (.ref a :: argsL).toArray h n0 Qc) (hlen : ∀ sig, parseMethodDescriptor y.desc = some sig → argsL.length = sig.parameters.length) (hsz : Ls.size = ml) {stk : List Value} (hs : stk = argsL.reverse ++ .ref a :: rest)
    (hW : 2 * 0 + (rest.map fun v => v.category).sum ≤ W) (hf : rm.frames + 1 ≤ R.frames) (hl : W + (maxL + 11) + rm.locals ≤ R.locals) (hc : k + rm.cells ≤ R.cells) (hn : n + rm.slots ≤ R.slots)
    (r : ∀ T' h' v, St p l e R s m args below meth c Z B own nm ml ret n0 T' h' (k + rm.cells) (n + rm.slots) → Qc v h' → Go p e below s n0 Q kC kS (T'.setTop (mkF m (pc + 3) Ls (v.toList ++ rest)))) : Go p e below s n0 Q kC kS (T.setTop (mkF m pc Ls stk)) := by
  obtain ⟨⟨hx, hby, hZ, hown, hml, q⟩, locs, X, eT, N⟩ := X
  obtain ⟨mk, methM, hnamed, hmethM, hstM, habM⟩ := Cond.instanceMethod_spec (args := args) (mvT hZ w2)
  obtain ⟨methM', cM, hmethM', -, -, -, -, -, -, hsigM⟩ := Cond.code_spec hnamed (mvT (args := args) hZ w4)
  cases hmethM.symm.trans hmethM'
  obtain ⟨c2, r2, m2, -, -, q3, -, kP, hkP, hkPi⟩ := Cond.selects_spec (args := args) (mvT hZ w5)
  have hcl : m2.cls = mk.cls := Option.some.inj ((findClass_of_methodNamed q3).symm.trans (by rw [hz]; exact findClass_of_methodNamed hnamed))
  rw [hcl] at hkP
  obtain ⟨cell, hcell, hobj⟩ := E.cell
  have hsel : selectMethod e.platform s.vm cell.cls mk = .method mk := selectMethod_private hmethM (Cond.privateMethod_at (mvP hZ w6 (args := args)) mk methM hnamed hmethM)
  obtain ⟨vm1, X1, step1⟩ := X.invokevirtual hx hown (mvT hZ w1) hnamed hmethM hstM hkP hkPi hy (a := a) (cell := cell) (by rw [eT]; exact hcell) hobj hsel hmethM habM hkP hkPi (g := mkF m pc Ls stk) rfl (argsL := argsL) (rest := rest) (hlen _ hsigM) hs (by rw [hby]; exact hd)
  obtain ⟨v, ⟨T', L', k', n'⟩, X', ⟨Lc, ⟨hQ, N'⟩, l1, l2, l3⟩, st'⟩ := (backOf (Q := fun v h L => Qc v h ∧ Fr n0 L) hM hZ w4 w3 hf hl) m meth c ⟨T.setVm vm1, locs, k, n⟩ { mkF m pc Ls stk with stack := rest } (.invokevirtual idx) mk (.ref a :: argsL).toArray X1 rfl (by rw [hml]; exact hsz) (by rw [hby]; exact hd) hW (X1.named hnamed) ⟨rfl, eT, hc, hn⟩
  dsimp only [Pt.U, Pt.locs, Pt.cells, Pt.slots] at X' l1 l2 l3 st' hQ
  subst l1 l2 l3
  exact (r T' T'.heap v ⟨⟨hx, hby, hZ, hown, hml, q⟩, _, X', rfl, Fr.app N N'⟩ hQ).tr ((step1 _ fun acts => by rw [doInvoke_state]; exact Steps.refl _).trans st')

theorem callSN_ (X : St p l e R s m args below meth c Z B own nm ml ret n0 T h k n) {a0 : Array Value} {host : String} {idx W pc : Nat} {Ls : Array Slot} {rest : List Value} {argsL : List Value} {y : MethodName} {bytes : ByteArray} {maxL : Nat} {rt : Option FieldType} {rm : Room} {Qc : Option Value → Heap → Prop} (hd : decode B pc = .ok (.invokestatic idx, 3)) (w1 : (Cond.methodLinkNest own idx y host).before a0 Z = true) (w2 : (Cond.static y).before a0 Z = true) (w3 : (Cond.initialized y.cls).before a0 Z = true) (w4 : (Cond.code y bytes maxL rt).before a0 Z = true)
    (hy : y.cls ≠ "java/lang/invoke/MethodHandle" ∧ y.cls ≠ "java/lang/invoke/VarHandle") (hM : Con l Z y [] bytes maxL rt rm argsL.toArray h n0 Qc) (hlen : ∀ sig, parseMethodDescriptor y.desc = some sig → argsL.length = sig.parameters.length) (hsz : Ls.size = ml) {stk : List Value} (hs : stk = argsL.reverse ++ rest)
    (hW : 2 * 0 + (rest.map fun v => v.category).sum ≤ W) (hf : rm.frames + 1 ≤ R.frames) (hl : W + (maxL + 11) + rm.locals ≤ R.locals) (hc : k + rm.cells ≤ R.cells) (hn : n + rm.slots ≤ R.slots)
    (r : ∀ T' h' v, St p l e R s m args below meth c Z B own nm ml ret n0 T' h' (k + rm.cells) (n + rm.slots) → Qc v h' → Go p e below s n0 Q kC kS (T'.setTop (mkF m (pc + 3) Ls (v.toList ++ rest)))) : Go p e below s n0 Q kC kS (T.setTop (mkF m pc Ls stk)) := by
  obtain ⟨⟨hx, hby, hZ, hown, hml, q⟩, locs, X, eT, N⟩ := X
  obtain ⟨v, vm1, ⟨T', L', k', n'⟩, -, X', ⟨Lc, ⟨hQ, N'⟩, l1, l2, l3⟩, st'⟩ := Jvm.RoadKit.callSN X hx (y := y) hown ((Cond.methodLinkNest_wide hZ w1 :) ) (mvT hZ w2) (mvT hZ w3) (mvT hZ w4) hy (backOf (Q := fun v h L => Qc v h ∧ Fr n0 L) hM hZ w4 w3 hf hl) (g := mkF m pc Ls stk) rfl (by rw [hml]; exact hsz) (argsL := argsL) (rest := rest) hlen hs hW (by rw [hby]; exact hd) (fun _ _ => ⟨rfl, eT, hc, hn⟩)
  dsimp only [Pt.U, Pt.locs, Pt.cells, Pt.slots] at X' l1 l2 l3 st' hQ
  subst l1 l2 l3
  exact (r T' T'.heap v ⟨⟨hx, hby, hZ, hown, hml, q⟩, _, X', rfl, Fr.app N N'⟩ hQ).tr st'

theorem signD_ (X : St p l e R s m args below meth c Z B own nm ml ret n0 T h k n) {a0 : Array Value} {idx W pc maxL : Nat} {bytes : ByteArray} {Ls : Array Slot} {st : List Value} {x : UInt64} (hd : decode B pc = .ok (.invokestatic idx, 3)) (w1 : (Cond.methodLink own idx Jvm.Free.NT.mathSignum64N).before a0 Z = true) (w2 : (Cond.static Jvm.Free.NT.mathSignum64N).before a0 Z = true) (w3 : (Cond.initialized "java/lang/Math").before a0 Z = true) (w4 : (Cond.code Jvm.Free.NT.mathSignum64N bytes maxL (some .double)).before a0 Z = true) (nx : NoNaN64 x) (hlen : ∀ sig, parseMethodDescriptor "(D)D" = some sig → [Value.double x].length = sig.parameters.length) (hsz : Ls.size = ml)
    (hW : 2 * 0 + (st.map fun v => v.category).sum ≤ W) (hf : 1 ≤ R.frames) (hl : W + (maxL + 11) ≤ R.locals) (hk : k ≤ R.cells) (hn : n ≤ R.slots)
    (r : ∀ T', St p l e R s m args below meth c Z B own nm ml ret n0 T' h k n → Go p e below s n0 Q kC kS (T'.setTop (mkF m (pc + 3) Ls (.double (Jvm.signum64 x) :: st)))) : Go p e below s n0 Q kC kS (T.setTop (mkF m pc Ls (.double x :: st))) := by
  obtain ⟨⟨hx, hby, hZ, hown, hml, q⟩, locs, X, eT, N⟩ := X
  obtain ⟨T', X', e', st'⟩ := natS X hx hZ hown w1 w2 w3 w4 (by decide) eT (W := W) (F := fun a' => a' = #[.double x] ∧ NoNaN64 x) (val := .double (Jvm.signum64 x)) (fun hc => by
    intro m' meth' c' A g ig mk a' X1 hg hsize hdg hW' hnamed ⟨_, _, ha', ha⟩
    obtain ⟨v, B', X2, ⟨hB, hv⟩, st2⟩ := (Jvm.Free.NT.Signum64.pays hc (mvT hZ w2) hf hl) m' meth' c' A g ig mk a' X1 hg hsize hdg hW' hnamed ⟨x, ha', Jvm.Free.Fl.Abs.dIsNaN_false ha⟩
    exact ⟨v, B', X2, ⟨hv x ⟨ha', Jvm.Free.Fl.Abs.dIsNaN_false ha⟩, hB⟩, st2⟩) (g := mkF m pc Ls (.double x :: st)) rfl (by rw [hml]; exact hsz) (argsL := [.double x]) (rest := st) hlen rfl hW (by rw [hby]; exact hd) hk hn ⟨rfl, nx⟩ rfl
  exact (r T' ⟨⟨hx, hby, hZ, hown, hml, q⟩, locs, X', e', N⟩).st st'
theorem nn_sign {x : UInt64} (h : NoNaN64 x) : NoNaN64 (Jvm.signum64 x) := by
  obtain ⟨o, ho⟩ := Jvm.Free.Fl.dcmp_of_noNaN h (b := 0) (by unfold NoNaN64; decide)
  cases o with
  | lt => rw [Jvm.FP.V.signum_neg ho]; unfold NoNaN64; decide
  | gt => rw [Jvm.FP.V.signum_pos ho]; unfold NoNaN64; decide
  | eq => rw [Jvm.FP.V.signum_zero ho]; exact h

theorem cpA_ (X : St p l e R s m args below meth c Z B own nm ml ret n0 T h k n) {a0 : Array Value} {idx W pc : Nat} {Ls : Array Slot} {rest : List Value} {a b : Addr} {ka kb : ClassId} {ty : FieldType} {z z' sp dp nn : Int32} {vs vd us : List Value} {dv dd : Value} (hd : decode B pc = .ok (.invokestatic idx, 3)) (w1 : (Cond.methodLink own idx Jvm.Stand.acN).before a0 Z = true) (w2 : (Cond.native Jvm.Stand.acN).before a0 Z = true) (w3 : (Cond.static Jvm.Stand.acN).before a0 Z = true) (w4 : (Cond.initialized "java/lang/System").before a0 Z = true)
    (A : Arv Z h a ka ty z vs dv) (V : Arv Z h b kb ty z' vd dd) (hty : refKind ty = false) (h1 : ¬ sp < 0) (h2 : ¬ dp < 0) (h3 : ¬ nn < 0) (h4 : sp.toNatClampNeg + nn.toNatClampNeg ≤ z.toNatClampNeg) (h5 : dp.toNatClampNeg + nn.toNatClampNeg ≤ z'.toNatClampNeg) (hus : us = (List.range nn.toNatClampNeg).map fun i => vs.getD (sp.toNatClampNeg + i) dv) (hl : dp.toNatClampNeg + nn.toNatClampNeg ≤ vd.length) (ge : n0 ≤ b) (hsz : Ls.size = ml)
    (hf : 1 ≤ R.frames) (hW : 2 * 0 + (rest.map fun v => v.category).sum ≤ W) (hlo : W + (nativeFrameWords "java/lang/System" "arraycopy" 5 + 11) ≤ R.locals)
    (r : ∀ T' h', St p l e R s m args below meth c Z B own nm ml ret n0 T' h' k n → Keep h h' [b] → Arv Z h' b kb ty z' (vd.take dp.toNatClampNeg ++ us ++ vd.drop (dp.toNatClampNeg + nn.toNatClampNeg)) dd → Go p e below s n0 Q kC kS (T'.setTop (mkF m (pc + 3) Ls rest))) : Go p e below s n0 Q kC kS (T.setTop (mkF m pc Ls (.int nn :: .int dp :: .ref b :: .int sp :: .ref a :: rest))) := by
  obtain ⟨⟨hx, hby, hZ, hown, hml, q⟩, locs, X, eT, N⟩ := X
  obtain ⟨T', h', L', X', e', N', K', V', st'⟩ := cpA X hx hZ hown w1 w2 w3 w4 eT A V (Or.inl ⟨rfl, hty⟩) h1 h2 h3 h4 h5 hus hl N ge (g := mkF m pc Ls (.int nn :: .int dp :: .ref b :: .int sp :: .ref a :: rest)) rfl (by rw [hml]; exact hsz) rfl (by rw [hby]; exact hd) hf hW hlo
  exact (r T' h' ⟨⟨hx, hby, hZ, hown, hml, q⟩, L', X', e', N'⟩ K' V').st st'
theorem clone_ (X : St p l e R s m args below meth c Z B own nm ml ret n0 T h k n) {a0 : Array Value} {ad : String} {idx W pc : Nat} {Ls : Array Slot} {rest : List Value} {a : Addr} {ka : ClassId} {ty : FieldType} {z : Int32} {vs : List Value} {dv : Value} (cap : Nat) (hd : decode B pc = .ok (.invokevirtual idx, 3)) (w1 : (Cond.methodLink own idx ⟨ad, "clone", "()Ljava/lang/Object;"⟩).before a0 Z = true) (w2 : (Cond.sameMethod ad "java/lang/Object" "clone" "()Ljava/lang/Object;").before a0 Z = true) (w3 : (Cond.native ⟨"java/lang/Object", "clone", "()Ljava/lang/Object;"⟩).before a0 Z = true)
    (w4 : (Cond.instanceMethod ⟨"java/lang/Object", "clone", "()Ljava/lang/Object;"⟩).before a0 Z = true) (w5 : (Cond.selects ad ⟨ad, "clone", "()Ljava/lang/Object;"⟩ ⟨"java/lang/Object", "clone", "()Ljava/lang/Object;"⟩).before a0 Z = true) (w6 : (Cond.castable ad "java/lang/Cloneable").before a0 Z = true)
    (F : Arv Z h a ka ty z vs dv) (E : Exa Z h a ad) (hsz : Ls.size = ml) (hf : 1 ≤ R.frames) (hW : 2 * 0 + (rest.map fun v => v.category).sum ≤ W) (hl : W + 14 ≤ R.locals) (hcap : z.toNatClampNeg ≤ cap) (hc : k + 1 ≤ R.cells) (hsl : n + cap ≤ R.slots)
    (r : ∀ T' h' b, b = h.size → St p l e R s m args below meth c Z B own nm ml ret n0 T' h' (k + 1) (n + cap) → Ext h h' → Arv Z h' b ka ty z vs dv → Exa Z h' b ad → Go p e below s n0 Q kC kS (T'.setTop (mkF m (pc + 3) Ls (.ref b :: rest)))) : Go p e below s n0 Q kC kS (T.setTop (mkF m pc Ls (.ref a :: rest))) := by
  obtain ⟨⟨hx, hby, hZ, hown, hml, q⟩, locs, X, eT, N⟩ := X
  obtain ⟨T', h', X', e', E', V', G', st'⟩ := cloneH X hx hZ hown w1 w2 w3 w4 w5 w6 eT F.arh E (g := mkF m pc Ls (.ref a :: rest)) rfl (by rw [hml]; exact hsz) rfl (by rw [hby]; exact hd) hf hW hl hcap hc hsl
  exact (r T' h' _ rfl ⟨⟨hx, hby, hZ, hown, hml, q⟩, locs, X', e', N⟩ E' V' G').st st'
theorem cast_ (X : St p l e R s m args below meth c Z B own nm ml ret n0 T h k n) {a0 : Array Value} {K : String} {idx pc : Nat} {Ls : Array Slot} {rest : List Value} {a : Addr} (hd : decode B pc = .ok (.checkcast idx, 3)) (w : (Cond.classLink own idx K).before a0 Z = true) (F : Ins Z h a K true)
    (r : ∀ T', St p l e R s m args below meth c Z B own nm ml ret n0 T' h k n → Go p e below s n0 Q kC kS (T'.setTop (mkF m (pc + 3) Ls (.ref a :: rest)))) : Go p e below s n0 Q kC kS (T.setTop (mkF m pc Ls (.ref a :: rest))) := by
  obtain ⟨⟨hx, hby, hZ, hown, q⟩, locs, X, eT, N⟩ := X
  obtain ⟨T', X', e', st'⟩ := castY X hx hZ hown w eT F (g := mkF m pc Ls (.ref a :: rest)) rfl rfl (by rw [hby]; exact hd)
  exact (r T' ⟨⟨hx, hby, hZ, hown, q⟩, locs, X', e', N⟩).st st'

theorem enter {y : MethodName} {ws : List Jvm.Cond} {rm : Room} {as : Array Value} {h0 : Heap} {Ls : Array Slot} {own nm : String} (hpl : plainFor y = true) (ho : y.cls = own) (hnm : y.name = nm) (hef : ∀ m, entryFrame m as ml = mkF m 0 Ls [])
    (body : ∀ p e s m below meth c T, St p l e rm s m as below meth c Z B own nm ml ret n0 T h0 0 0 → Go p e below s n0 Q rm.cells rm.slots (T.setTop (mkF m 0 Ls []))) : Con l Z y ws B ml ret rm as h0 n0 Q := by
  refine MetFree.of_bodySF hpl hisR ?_
  intro p e s m args below meth c s₁ Bd hml0 hP hK
  obtain ⟨rfl, hZ, hh⟩ := hP
  have X0 : Stand p l e rm s m _ below meth c s₁ [] 0 0 := Stand.of_body Bd
  have e0 : s₁.heap = h0 := by rw [← hh, Bd.state]; rfl
  rw [hef]
  exact body p e s m below meth c s₁ ⟨⟨Bd.exec, Bd.bytes, hZ, ho ▸ findClass_of_methodNamed Bd.named, hml0, Bd.returns, Bd.notSynchronized, (name_of_methodNamed Bd.named Bd.method).1.trans hnm⟩, [], X0, e0, Fr.nil n0⟩
theorem Con.imp {y : MethodName} {ws : List Jvm.Cond} {rm : Room} {as : Array Value} {h0 : Heap} {Q' : Option Value → Heap → Prop} (C : Con l Z y ws B ml ret rm as h0 n0 Q') (q : ∀ v h, Q' v h → Q v h) : Con l Z y ws B ml ret rm as h0 n0 Q := by
  intro p e ha hc hk s m args below hf happ hP hK
  obtain ⟨n, o, h1, h2, h3, v, L, h4, ⟨h5, h6⟩, h7⟩ := C p e ha hc hk s m args below hf happ hP hK
  exact ⟨n, o, h1, h2, h3, v, L, h4, ⟨q _ _ h5, h6⟩, h7⟩
end Kit
end Jvm.Own

namespace Jvm.Own
open Jvm.FP Jvm.FP.Core Jvm.Free.Fl
/-- one, in units of 2^-1074 -/
def U : Int := (one64 : Int)
theorem U_pos : 0 < U := by unfold U; have := one64_pos; omega
theorem U_pow : U = 2 ^ 1074 := by unfold U one64; exact Int.natCast_pow 2 1074
theorem U_lt {a b : Int} : a * U < b * U ↔ a < b := Int.mul_lt_mul_right U_pos
theorem U_le {a b : Int} : a * U ≤ b * U ↔ a ≤ b := Int.mul_le_mul_right U_pos
theorem U_eq {a b : Int} : a * U = b * U ↔ a = b := Int.mul_eq_mul_right_iff (by have := U_pos; omega)
theorem nn_0 : NoNaN64 0 := by unfold NoNaN64; decide
theorem nn_1 : NoNaN64 4607182418800017408 := by unfold NoNaN64; decide
theorem fin_0 : Fin64 0 := by unfold Fin64; decide
theorem fin_1 : Fin64 4607182418800017408 := by unfold Fin64; decide
theorem dz_0 : dz 0 = 0 := zval64_zero
theorem dz_int {i : Int} {v : UInt64} (h : DInt i v) : Fin64 v ∧ dz v = i * U := by
  refine ⟨fin64_core.mpr ?_, DInt_zval h⟩
  unfold DInt at h
  cases hv : val64 v with
  | nan => rw [hv] at h; exact h.elim
  | inf q => rw [hv] at h; exact h.elim
  | fin s c q => exact ⟨s, c, q, hv⟩
theorem dz_1 : dz 4607182418800017408 = U := by rw [(dz_int dint_one).2, Int.one_mul]
theorem i2d_v {x : Int32} {v : UInt64} (h : FP.i2d x = v) : Fin64 v ∧ dz v = x.toInt * U := h ▸ dz_int (i2d_int x)
theorem l2d_v {x : Int64} {v : UInt64} (h : FP.l2d x = v) (hx : x.toInt.natAbs ≤ 2 ^ 53) : Fin64 v ∧ dz v = x.toInt * U := h ▸ dz_int (l2d_int hx)
theorem fin_val {x : UInt64} (h : Fin64 x) : ∃ s c q, val64 x = .fin s c q := fin64_core.mp h
/-- the greatest magnitude, and one more -/
def Top : Nat := b64.tails * 2 ^ (b64.exps - 2)
theorem Top_pow : Top = 2 ^ 2098 := by unfold Top; rw [tails_b64, show b64.exps - 2 = 2046 from by decide, ← Nat.pow_add]
theorem fin_lt {x : UInt64} (h : Fin64 x) : (dz x).natAbs < Top := by
  have := (fin64_core.mp h).zval_lt
  show (signed _ _).natAbs < _
  rw [natAbs_signed]; exact this
theorem fin_of {x : UInt64} (h : NoNaN64 x) (q : (dz x).natAbs < Top) : Fin64 x := by
  refine fin64_core.mpr ?_
  cases hv : val64 x with
  | nan => exact absurd hv (val64_no.mp h)
  | inf s =>
    have : (dz x).natAbs = Top := by
      show (signed _ (zmag b64 (val64 x))).natAbs = _
      rw [natAbs_signed, hv]; rfl
    omega
  | fin s c q => exact ⟨s, c, q, hv⟩
/-- a number of at most 53 digits, at any place within reach, is a double -/
theorem rep (k : Int) (j : Nat) (hk : k.natAbs < 2 ^ 53) (hj : j ≤ 2040) : ∃ V : UInt64, Fin64 V ∧ dz V = k * 2 ^ j := by
  obtain ⟨c', q', h1, h2⟩ := round_exact good_b64 (decide (k < 0)) (c := k.natAbs) (q := b64.qmin + (j : Int)) hk (by omega) (by
    have : b64.qmax = b64.qmin + 2045 := by decide
    omega)
  have hf : Core.fits b64 (.fin (decide (k < 0)) c' q') := h1 ▸ round_fits good_b64 _
  refine ⟨of64 (.fin (decide (k < 0)) c' q'), fin64_core.mpr ⟨_, _, _, val64_of64 hf⟩, ?_⟩
  show zval b64 (val64 _) = _
  rw [val64_of64 hf]
  show signed _ (inUnits c' q' b64.qmin) = _
  rw [h2]
  unfold inUnits
  rw [show (b64.qmin + (j : Int) - b64.qmin).toNat = j by omega, signed_mul, show ((2 ^ j : Nat) : Int) = 2 ^ j from Int.natCast_pow 2 j]
  congr 1
  unfold signed
  by_cases q : k < 0 <;> simp [q, sgn] <;> omega
theorem repU (k : Int) (j : Nat) (hk : k.natAbs < 2 ^ 53) (hj : j ≤ 1074) : ∃ V : UInt64, Fin64 V ∧ dz V * 2 ^ j = k * U := by
  obtain ⟨V, h1, h2⟩ := rep k (1074 - j) hk (by omega)
  refine ⟨V, h1, ?_⟩
  rw [h2, Int.mul_assoc, ← Int.pow_add, show 1074 - j + j = 1074 by omega, U_pow]
/-! sums -/
theorem dadd_le {a b V : UInt64} (fa : Fin64 a) (fb : Fin64 b) (nV : NoNaN64 V) (h : dz a + dz b ≤ dz V) : dz (FP.dadd a b) ≤ dz V := by
  show zval b64 (val64 (Core.dadd a b)) ≤ _
  rw [val64_dadd]
  exact sum_le good_b64 (fin_val fa) (fin_val fb) (val64_fits a) (val64_fits b) (val64_fits V) (nn_val nV) h
theorem dadd_ge {a b V : UInt64} (fa : Fin64 a) (fb : Fin64 b) (nV : NoNaN64 V) (h : dz V ≤ dz a + dz b) : dz V ≤ dz (FP.dadd a b) := by
  show _ ≤ zval b64 (val64 (Core.dadd a b))
  rw [val64_dadd]
  exact sum_ge good_b64 (fin_val fa) (fin_val fb) (val64_fits a) (val64_fits b) (val64_fits V) (nn_val nV) h
theorem neg_fin {d : Datum} (h : ∃ s c q, d = .fin s c q) : ∃ s c q, negate d = .fin s c q := by
  obtain ⟨s, c, q, rfl⟩ := h; exact ⟨_, _, _, rfl⟩
theorem dsub_le {a b V : UInt64} (fa : Fin64 a) (fb : Fin64 b) (nV : NoNaN64 V) (h : dz a - dz b ≤ dz V) : dz (FP.dsub a b) ≤ dz V := by
  show zval b64 (val64 (Core.dsub a b)) ≤ _
  rw [val64_dsub]
  refine sum_le good_b64 (fin_val fa) (neg_fin (fin_val fb)) (val64_fits a) (negate_fits (val64_fits b)) (val64_fits V) (nn_val nV) ?_
  rw [zval_negate]; exact h
theorem dsub_ge {a b V : UInt64} (fa : Fin64 a) (fb : Fin64 b) (nV : NoNaN64 V) (h : dz V ≤ dz a - dz b) : dz V ≤ dz (FP.dsub a b) := by
  show _ ≤ zval b64 (val64 (Core.dsub a b))
  rw [val64_dsub]
  refine sum_ge good_b64 (fin_val fa) (neg_fin (fin_val fb)) (val64_fits a) (negate_fits (val64_fits b)) (val64_fits V) (nn_val nV) ?_
  rw [zval_negate]; exact h
/-- a sum that is a double is exact -/
theorem dadd_x {a b v V : UInt64} (e : FP.dadd a b = v) (fa : Fin64 a) (fb : Fin64 b) (fV : Fin64 V) (h : dz a + dz b = dz V) : Fin64 v ∧ dz v = dz a + dz b := by
  subst e
  have q : dz (FP.dadd a b) = dz a + dz b := by
    have h1 := dadd_le fa fb fV.noNaN (Int.le_of_eq h)
    have h2 := dadd_ge fa fb fV.noNaN (Int.le_of_eq h.symm)
    omega
  exact ⟨fin_of (dadd_out fa.noNaN fb) (by rw [q, h]; exact fin_lt fV), q⟩
theorem dsub_x {a b v V : UInt64} (e : FP.dsub a b = v) (fa : Fin64 a) (fb : Fin64 b) (fV : Fin64 V) (h : dz a - dz b = dz V) : Fin64 v ∧ dz v = dz a - dz b := by
  subst e
  have q : dz (FP.dsub a b) = dz a - dz b := by
    have h1 := dsub_le fa fb fV.noNaN (Int.le_of_eq h)
    have h2 := dsub_ge fa fb fV.noNaN (Int.le_of_eq h.symm)
    omega
  exact ⟨fin_of (dsub_out fa.noNaN fb) (by rw [q, h]; exact fin_lt fV), q⟩
/-! products -/
theorem zval_fin (f : Fmt) (s : Bool) (c : Nat) (q : Int) : zval f (.fin s c q) = signed s (inUnits c q f.qmin) := rfl
theorem signed_xor' (s t : Bool) (c d : Nat) : signed (s != t) (c * d) = signed s c * signed t d := signed_xor s t c d
theorem pow_two_qmin : ((2 ^ (b64.qmin - 2 * b64.qmin).toNat : Nat) : Int) = U := by
  unfold U; rw [← pow_qmin64]; rfl
theorem dmul_le {a b V : UInt64} (fa : Fin64 a) (fb : Fin64 b) (nV : NoNaN64 V) (h : dz a * dz b ≤ dz V * U) : dz (FP.dmul a b) ≤ dz V := by
  obtain ⟨s, c, q, ha⟩ := fin_val fa
  obtain ⟨t, d, r, hb⟩ := fin_val fb
  have fa' := val64_fits a
  have fb' := val64_fits b
  unfold dz at h ⊢
  show zval b64 (val64 (Core.dmul a b)) ≤ _
  rw [val64_dmul]
  rw [ha] at fa' h ⊢
  rw [hb] at fb' h ⊢
  obtain ⟨h1, h2, h3⟩ := product_units fa' fb'
  rw [h1]
  refine zval_round_le good_b64 (val64_fits V) (nn_val nV) (e0 := 2 * b64.qmin) (by decide) h2 ?_
  rw [h3, pow_two_qmin, signed_xor']
  exact h
theorem dmul_ge {a b V : UInt64} (fa : Fin64 a) (fb : Fin64 b) (nV : NoNaN64 V) (h : dz V * U ≤ dz a * dz b) : dz V ≤ dz (FP.dmul a b) := by
  obtain ⟨s, c, q, ha⟩ := fin_val fa
  obtain ⟨t, d, r, hb⟩ := fin_val fb
  have fa' := val64_fits a
  have fb' := val64_fits b
  unfold dz at h ⊢
  show _ ≤ zval b64 (val64 (Core.dmul a b))
  rw [val64_dmul]
  rw [ha] at fa' h ⊢
  rw [hb] at fb' h ⊢
  obtain ⟨h1, h2, h3⟩ := product_units fa' fb'
  rw [h1]
  refine zval_round_ge good_b64 (val64_fits V) (nn_val nV) (e0 := 2 * b64.qmin) (by decide) h2 ?_
  rw [h3, pow_two_qmin, signed_xor']
  exact h
theorem dmul_x {a b v V : UInt64} (e : FP.dmul a b = v) (fa : Fin64 a) (fb : Fin64 b) (fV : Fin64 V) (h : dz a * dz b = dz V * U) : Fin64 v ∧ dz v = dz V := by
  subst e
  have q : dz (FP.dmul a b) = dz V := by
    have h1 := dmul_le fa fb fV.noNaN (Int.le_of_eq h)
    have h2 := dmul_ge fa fb fV.noNaN (Int.le_of_eq h.symm)
    omega
  exact ⟨fin_of (dmul_out fa fb) (by rw [q]; exact fin_lt fV), q⟩
/-! quotients -/
theorem nz_of {b : UInt64} (h : dz b ≠ 0) : Nz64 b := nz64_core.mpr fun ⟨s, q, e⟩ => h (by
  show zval b64 (val64 b) = 0
  rw [e, zval_fin]; unfold inUnits; rw [Nat.zero_mul]; exact signed_zero s)
theorem quo_mag {s t : Bool} {c d : Nat} {q r : Int} (hx : Core.fits b64 (.fin s c q)) (hy : Core.fits b64 (.fin t d r)) :
    inUnits c (q - r) (2 * b64.qmin - r) = zmag b64 (.fin s c q) * one64 ∧ 2 ^ (b64.qmin - (2 * b64.qmin - r)).toNat * d = zmag b64 (.fin t d r) := by
  have h1 := hx.2.1
  have h2 := hy.2.1
  have hq : b64.qmin = -1074 := qmin_b64
  constructor
  · rw [← pow_qmin64]
    show c * _ = c * _ * _
    rw [Nat.mul_assoc, ← Nat.pow_add]; congr 2; omega
  · show _ = d * _
    rw [Nat.mul_comm]; congr 2; omega
theorem ddiv_val {a b : UInt64} {s t : Bool} {c d : Nat} {q r : Int} (ha : val64 a = .fin s c q) (hb : val64 b = .fin t d r) (hd : d ≠ 0) : val64 (FP.ddiv a b) = roundRatio b64 (s != t) c d (q - r) := by
  show val64 (Core.ddiv a b) = _
  rw [val64_ddiv, ha, hb]; simp only [quotient, if_neg hd]
theorem ddiv_zm {a b : UInt64} (fa : Fin64 a) (fb : Fin64 b) (hb : dz b ≠ 0) :
    sgn (val64 (FP.ddiv a b)) = (sgn (val64 a) != sgn (val64 b)) ∧
    (∀ V : UInt64, NoNaN64 V → zmag b64 (val64 a) * one64 ≤ zmag b64 (val64 V) * zmag b64 (val64 b) → zmag b64 (val64 (FP.ddiv a b)) ≤ zmag b64 (val64 V)) ∧
    (∀ V : UInt64, zmag b64 (val64 V) * zmag b64 (val64 b) ≤ zmag b64 (val64 a) * one64 → zmag b64 (val64 V) ≤ zmag b64 (val64 (FP.ddiv a b))) := by
  obtain ⟨s, c, q, ha⟩ := fin_val fa
  obtain ⟨t, d, r, hb'⟩ := fin_val fb
  have fa' := val64_fits a
  have fb' := val64_fits b
  rw [ha] at fa'
  rw [hb'] at fb'
  have hd : d ≠ 0 := by
    rintro rfl
    apply hb
    show zval b64 (val64 b) = 0
    rw [hb', zval_fin]; unfold inUnits; rw [Nat.zero_mul]; exact signed_zero t
  have hv := ddiv_val ha hb' hd
  obtain ⟨e1, e2⟩ := quo_mag fa' fb'
  have hq1 := fa'.2.1
  have hq2 := fb'.2.1
  have hqm : b64.qmin = -1074 := qmin_b64
  refine ⟨?_, fun V nV h => ?_, fun V h => ?_⟩
  · rw [hv, sgn_roundRatio, ha, hb']; rfl
  · rw [hv]
    refine zmag_roundRatio_le good_b64 (by omega) (val64_fits V) (nn_val nV) (e0 := 2 * b64.qmin - r) (by omega) (by omega) ?_
    rw [e1, Nat.mul_assoc, e2]
    rw [ha, hb'] at h
    exact h
  · rw [hv]
    refine zmag_roundRatio_ge good_b64 (by omega) (val64_fits V) (e0 := 2 * b64.qmin - r) (by omega) (by omega) ?_
    rw [e1, Nat.mul_assoc, e2]
    rw [ha, hb'] at h
    exact h
theorem dz_def (x : UInt64) : dz x = signed (sgn (val64 x)) (zmag b64 (val64 x)) := rfl
theorem ddiv_le {a b V : UInt64} (fa : Fin64 a) (fb : Fin64 b) (hb : 0 < dz b) (nV : NoNaN64 V) (h : dz a * U ≤ dz V * dz b) : dz (FP.ddiv a b) ≤ dz V := by
  obtain ⟨h1, h2, h3⟩ := ddiv_zm fa fb (by omega)
  have h2 := h2 V nV
  have h3 := h3 V
  have hU : U = (one64 : Int) := rfl
  rw [dz_def (FP.ddiv a b), h1]
  rw [hU] at h
  rw [dz_def V] at h ⊢
  rw [dz_def a] at h
  rw [dz_def b] at h hb
  have p1 := one64_pos
  generalize zmag b64 (val64 (FP.ddiv a b)) = R at *
  generalize zmag b64 (val64 V) = v at *
  generalize zmag b64 (val64 a) = x at *
  generalize zmag b64 (val64 b) = y at *
  generalize sgn (val64 a) = sa at *
  generalize sgn (val64 b) = sb at *
  generalize sgn (val64 V) = sv at *
  cases sb with
  | true => simp only [signed, if_true] at hb; omega
  | false =>
    simp only [signed, Bool.false_eq_true, if_false] at hb h ⊢
    have key : signed sv v * (y : Int) = signed sv (v * y) := (signed_mul sv v y).symm
    have key2 : signed sa x * (one64 : Int) = signed sa (x * one64) := (signed_mul sa x one64).symm
    have yp : 0 < y := by omega
    change signed sa x * (one64 : Int) ≤ signed sv v * (y : Int) at h
    change signed (sa != false) R ≤ signed sv v
    rw [key, key2] at h
    have z1 : x * one64 = 0 → x = 0 := fun e => (Nat.mul_eq_zero.mp e).resolve_right (by omega)
    have z2 : v * y = 0 → v = 0 := fun e => (Nat.mul_eq_zero.mp e).resolve_right (by omega)
    have z3 : v = 0 → v * y = 0 := fun e => by rw [e, Nat.zero_mul]
    have z4 : x = 0 → x * one64 = 0 := fun e => by rw [e, Nat.zero_mul]
    generalize v * y = vy at *
    generalize x * one64 = xo at *
    cases sa <;> cases sv <;> simp only [signed, Bool.bne_false, Bool.false_eq_true, if_true, if_false] at h ⊢
    · have := h2 (by omega); omega
    · have := h2 (by omega); omega
    · omega
    · have := h3 (by omega); omega
theorem ddiv_ge {a b V : UInt64} (fa : Fin64 a) (fb : Fin64 b) (hb : 0 < dz b) (nV : NoNaN64 V) (h : dz V * dz b ≤ dz a * U) : dz V ≤ dz (FP.ddiv a b) := by
  obtain ⟨h1, h2, h3⟩ := ddiv_zm fa fb (by omega)
  have h2 := h2 V nV
  have h3 := h3 V
  have hU : U = (one64 : Int) := rfl
  rw [dz_def (FP.ddiv a b), h1]
  rw [hU] at h
  rw [dz_def V] at h ⊢
  rw [dz_def a] at h
  rw [dz_def b] at h hb
  have p1 := one64_pos
  generalize zmag b64 (val64 (FP.ddiv a b)) = R at *
  generalize zmag b64 (val64 V) = v at *
  generalize zmag b64 (val64 a) = x at *
  generalize zmag b64 (val64 b) = y at *
  generalize sgn (val64 a) = sa at *
  generalize sgn (val64 b) = sb at *
  generalize sgn (val64 V) = sv at *
  cases sb with
  | true => simp only [signed, if_true] at hb; omega
  | false =>
    simp only [signed, Bool.false_eq_true, if_false] at hb h ⊢
    have key : signed sv v * (y : Int) = signed sv (v * y) := (signed_mul sv v y).symm
    have key2 : signed sa x * (one64 : Int) = signed sa (x * one64) := (signed_mul sa x one64).symm
    have yp : 0 < y := by omega
    change signed sv v * (y : Int) ≤ signed sa x * (one64 : Int) at h
    change signed sv v ≤ signed (sa != false) R
    rw [key, key2] at h
    have z1 : x * one64 = 0 → x = 0 := fun e => (Nat.mul_eq_zero.mp e).resolve_right (by omega)
    have z2 : v * y = 0 → v = 0 := fun e => (Nat.mul_eq_zero.mp e).resolve_right (by omega)
    have z3 : v = 0 → v * y = 0 := fun e => by rw [e, Nat.zero_mul]
    have z4 : x = 0 → x * one64 = 0 := fun e => by rw [e, Nat.zero_mul]
    generalize v * y = vy at *
    generalize x * one64 = xo at *
    cases sa <;> cases sv <;> simp only [signed, Bool.bne_false, Bool.false_eq_true, if_true, if_false] at h ⊢
    · have := h3 (by omega); omega
    · omega
    · have := h2 (by omega); omega
    · have := h2 (by omega); omega
theorem ddiv_nn {a b : UInt64} (fa : Fin64 a) (fb : Fin64 b) (hb : dz b ≠ 0) : NoNaN64 (FP.ddiv a b) := ddiv_out fa.noNaN fb (nz_of hb)
theorem ddiv_x {a b v V : UInt64} (e : FP.ddiv a b = v) (fa : Fin64 a) (fb : Fin64 b) (hb : 0 < dz b) (fV : Fin64 V) (h : dz a * U = dz V * dz b) : Fin64 v ∧ dz v = dz V := by
  subst e
  have q : dz (FP.ddiv a b) = dz V := by
    have h1 := ddiv_le fa fb hb fV.noNaN (Int.le_of_eq h)
    have h2 := ddiv_ge fa fb hb fV.noNaN (Int.le_of_eq h.symm)
    omega
  exact ⟨fin_of (ddiv_nn fa fb (by omega)) (by rw [q]; exact fin_lt fV), q⟩
/-! the sign turned -/
theorem xor_top (a : UInt64) : a.toNat = (FP.dneg a).toNat + 2 ^ 63 ∨ (FP.dneg a).toNat = a.toNat + 2 ^ 63 := by
  have hlt := a.toNat_lt
  have e : (FP.dneg a).toNat = a.toNat ^^^ 2 ^ 63 := by rw [dneg_xor, UInt64.toNat_xor]; rfl
  have hd : (FP.dneg a).toNat % 2 ^ 63 = a.toNat % 2 ^ 63 := by
    rw [e]
    apply Nat.eq_of_testBit_eq; intro i
    simp only [Nat.testBit_mod_two_pow, Nat.testBit_xor, Nat.testBit_two_pow]
    by_cases q : i < 63
    · have : ¬ (63 = i) := by omega
      simp [q, this]
    · simp [q]
  have hb : (FP.dneg a).toNat.testBit 63 = !(a.toNat.testBit 63) := by
    rw [e, Nat.testBit_xor, Nat.testBit_two_pow_self]; simp
  have hl2 : (FP.dneg a).toNat < 2 ^ 64 := (FP.dneg a).toNat_lt
  generalize (FP.dneg a).toNat = y at *
  generalize a.toNat = x at *
  simp only [Nat.testBit, Nat.shiftRight_eq_div_pow, Nat.and_comm 1, Nat.and_one_is_mod, bne_iff_ne] at hb
  by_cases q : x < 2 ^ 63
  · right
    have h1 : x / 2 ^ 63 = 0 := Nat.div_eq_of_lt q
    have h2 : y / 2 ^ 63 ≠ 0 := by
      intro z; rw [h1, z] at hb; simp at hb
    have h3 : ¬ y < 2 ^ 63 := fun z => h2 (Nat.div_eq_of_lt z)
    omega
  · left
    have h1 : x / 2 ^ 63 = 1 := by omega
    have h3 : y < 2 ^ 63 := by
      refine Nat.lt_of_not_le fun z => ?_
      have : y / 2 ^ 63 = 1 := by omega
      rw [h1, this] at hb; simp at hb
    omega
theorem dneg_val (a : UInt64) : val64 (FP.dneg a) = negate (val64 a) := val64_neg_bits (xor_top a)
theorem dz_neg (a : UInt64) : dz (FP.dneg a) = -dz a := by unfold dz; rw [dneg_val, zval_negate]
theorem nn_neg {a : UInt64} (h : NoNaN64 a) : NoNaN64 (FP.dneg a) := val64_no.mpr (by rw [dneg_val]; exact negate_ne_nan (val64_no.mp h))
theorem fin_neg {a : UInt64} (h : Fin64 a) : Fin64 (FP.dneg a) := fin_of (nn_neg h.noNaN) (by rw [dz_neg, Int.natAbs_neg]; exact fin_lt h)
end Jvm.Own
namespace Jvm.Own
open Jvm.FP Jvm.FP.Core Jvm.Free.Fl
theorem p2_pos (j : Nat) : (0 : Int) < 2 ^ j := Int.pow_pos (by decide)
/-! against k / 2^j: what is at most (at least) that rounds to at most (at least) that -/
theorem quo_le {a b v : UInt64} {p q : Int} (e : FP.ddiv a b = v) (fa : Fin64 a) (fb : Fin64 b) (ha : dz a = p * U) (hb : dz b = q * U) (hq : 0 < q) (k : Int) (j : Nat) (hk : k.natAbs < 2 ^ 53) (hj : j ≤ 1074) (h : p * 2 ^ j ≤ k * q) : dz v * 2 ^ j ≤ k * U := by
  obtain ⟨V, fV, hV⟩ := repU k j hk hj
  have hU := U_pos
  have hp := p2_pos j
  have hbp : 0 < dz b := by rw [hb]; exact Int.mul_pos hq hU
  have key : dz a * U ≤ dz V * dz b := by
    refine Int.le_of_mul_le_mul_right ?_ hp
    rw [ha, hb, show p * U * U * 2 ^ j = p * 2 ^ j * (U * U) by generalize U = u; ac_rfl, show dz V * (q * U) * 2 ^ j = dz V * 2 ^ j * (q * U) by generalize U = u; ac_rfl, hV, show k * U * (q * U) = k * q * (U * U) by generalize U = u; ac_rfl]
    exact Int.mul_le_mul_of_nonneg_right h (Int.le_of_lt (Int.mul_pos hU hU))
  rw [← hV, ← e]
  exact Int.mul_le_mul_of_nonneg_right (ddiv_le fa fb hbp fV.noNaN key) (Int.le_of_lt hp)
theorem quo_ge {a b v : UInt64} {p q : Int} (e : FP.ddiv a b = v) (fa : Fin64 a) (fb : Fin64 b) (ha : dz a = p * U) (hb : dz b = q * U) (hq : 0 < q) (k : Int) (j : Nat) (hk : k.natAbs < 2 ^ 53) (hj : j ≤ 1074) (h : k * q ≤ p * 2 ^ j) : k * U ≤ dz v * 2 ^ j := by
  obtain ⟨V, fV, hV⟩ := repU k j hk hj
  have hU := U_pos
  have hp := p2_pos j
  have hbp : 0 < dz b := by rw [hb]; exact Int.mul_pos hq hU
  have key : dz V * dz b ≤ dz a * U := by
    refine Int.le_of_mul_le_mul_right ?_ hp
    rw [ha, hb, show p * U * U * 2 ^ j = p * 2 ^ j * (U * U) by generalize U = u; ac_rfl, show dz V * (q * U) * 2 ^ j = dz V * 2 ^ j * (q * U) by generalize U = u; ac_rfl, hV, show k * U * (q * U) = k * q * (U * U) by generalize U = u; ac_rfl]
    exact Int.mul_le_mul_of_nonneg_right h (Int.le_of_lt (Int.mul_pos hU hU))
  rw [← hV, ← e]
  exact Int.mul_le_mul_of_nonneg_right (ddiv_ge fa fb hbp fV.noNaN key) (Int.le_of_lt hp)
theorem Top_U : (2 : Int) ^ 1000 * U < (Top : Int) := by
  rw [U_pow, ← Int.pow_add, Top_pow, show ((2 ^ 2098 : Nat) : Int) = 2 ^ 2098 from Int.natCast_pow 2 2098]
  exact Int.pow_lt_pow_of_lt (by decide) (by decide)
theorem fin_bd {v : UInt64} (n : NoNaN64 v) (h1 : -(2 ^ 1000 * U) ≤ dz v) (h2 : dz v ≤ 2 ^ 1000 * U) : Fin64 v := fin_of n (by have := Top_U; omega)
theorem add_le {a b v : UInt64} (e : FP.dadd a b = v) (fa : Fin64 a) (fb : Fin64 b) (k : Int) (j : Nat) (hk : k.natAbs < 2 ^ 53) (hj : j ≤ 1074) (h : (dz a + dz b) * 2 ^ j ≤ k * U) : dz v * 2 ^ j ≤ k * U := by
  obtain ⟨V, fV, hV⟩ := repU k j hk hj
  have hp := p2_pos j
  rw [← hV] at h ⊢
  rw [← e]
  exact Int.mul_le_mul_of_nonneg_right (dadd_le fa fb fV.noNaN (Int.le_of_mul_le_mul_right h hp)) (Int.le_of_lt hp)
theorem add_ge {a b v : UInt64} (e : FP.dadd a b = v) (fa : Fin64 a) (fb : Fin64 b) (k : Int) (j : Nat) (hk : k.natAbs < 2 ^ 53) (hj : j ≤ 1074) (h : k * U ≤ (dz a + dz b) * 2 ^ j) : k * U ≤ dz v * 2 ^ j := by
  obtain ⟨V, fV, hV⟩ := repU k j hk hj
  have hp := p2_pos j
  rw [← hV] at h ⊢
  rw [← e]
  exact Int.mul_le_mul_of_nonneg_right (dadd_ge fa fb fV.noNaN (Int.le_of_mul_le_mul_right h hp)) (Int.le_of_lt hp)
theorem sub_le {a b v : UInt64} (e : FP.dsub a b = v) (fa : Fin64 a) (fb : Fin64 b) (k : Int) (j : Nat) (hk : k.natAbs < 2 ^ 53) (hj : j ≤ 1074) (h : (dz a - dz b) * 2 ^ j ≤ k * U) : dz v * 2 ^ j ≤ k * U := by
  obtain ⟨V, fV, hV⟩ := repU k j hk hj
  have hp := p2_pos j
  rw [← hV] at h ⊢
  rw [← e]
  exact Int.mul_le_mul_of_nonneg_right (dsub_le fa fb fV.noNaN (Int.le_of_mul_le_mul_right h hp)) (Int.le_of_lt hp)
theorem sub_ge {a b v : UInt64} (e : FP.dsub a b = v) (fa : Fin64 a) (fb : Fin64 b) (k : Int) (j : Nat) (hk : k.natAbs < 2 ^ 53) (hj : j ≤ 1074) (h : k * U ≤ (dz a - dz b) * 2 ^ j) : k * U ≤ dz v * 2 ^ j := by
  obtain ⟨V, fV, hV⟩ := repU k j hk hj
  have hp := p2_pos j
  rw [← hV] at h ⊢
  rw [← e]
  exact Int.mul_le_mul_of_nonneg_right (dsub_ge fa fb fV.noNaN (Int.le_of_mul_le_mul_right h hp)) (Int.le_of_lt hp)
/-- a sum, a difference of dyadics that is one of at most 53 digits is exact -/
theorem add_x {a b v : UInt64} (e : FP.dadd a b = v) (fa : Fin64 a) (fb : Fin64 b) (k : Int) (j : Nat) (hk : k.natAbs < 2 ^ 53) (hj : j ≤ 1074) (h : (dz a + dz b) * 2 ^ j = k * U) : Fin64 v ∧ dz v = dz a + dz b := by
  obtain ⟨V, fV, hV⟩ := repU k j hk hj
  exact dadd_x e fa fb fV (Int.eq_of_mul_eq_mul_right (by have := p2_pos j; omega) (h.trans hV.symm))
theorem sub_x {a b v : UInt64} (e : FP.dsub a b = v) (fa : Fin64 a) (fb : Fin64 b) (k : Int) (j : Nat) (hk : k.natAbs < 2 ^ 53) (hj : j ≤ 1074) (h : (dz a - dz b) * 2 ^ j = k * U) : Fin64 v ∧ dz v = dz a - dz b := by
  obtain ⟨V, fV, hV⟩ := repU k j hk hj
  exact dsub_x e fa fb fV (Int.eq_of_mul_eq_mul_right (by have := p2_pos j; omega) (h.trans hV.symm))
theorem quo_x {a b v : UInt64} {p q : Int} (e : FP.ddiv a b = v) (fa : Fin64 a) (fb : Fin64 b) (ha : dz a = p * U) (hb : dz b = q * U) (hq : 0 < q) (k : Int) (j : Nat) (hk : k.natAbs < 2 ^ 53) (hj : j ≤ 1074) (h : p * 2 ^ j = k * q) : Fin64 v ∧ dz v * 2 ^ j = k * U := by
  obtain ⟨V, fV, hV⟩ := repU k j hk hj
  have h1 := quo_le e fa fb ha hb hq k j hk hj (Int.le_of_eq h)
  have h2 := quo_ge e fa fb ha hb hq k j hk hj (Int.le_of_eq h.symm)
  have h3 : dz v * 2 ^ j = k * U := by omega
  have h4 : dz v = dz V := Int.eq_of_mul_eq_mul_right (by have := p2_pos j; omega) (h3.trans hV.symm)
  refine ⟨fin_of ?_ (by rw [h4]; exact fin_lt fV), h3⟩
  rw [← e]
  exact ddiv_nn fa fb (by rw [hb]; have := Int.mul_pos hq U_pos; omega)
theorem quo_nn {a b v : UInt64} {q : Int} (e : FP.ddiv a b = v) (fa : Fin64 a) (fb : Fin64 b) (hb : dz b = q * U) (hq : 0 < q) : NoNaN64 v := by
  rw [← e]; exact ddiv_nn fa fb (by rw [hb]; have := Int.mul_pos hq U_pos; omega)
end Jvm.Own
namespace Jvm.Own
open Jvm.FP Jvm.FP.Core Jvm.Free.Fl
theorem fin_2 : Fin64 4611686018427387904 := by unfold Fin64; decide
theorem nz_2 : Nz64 4611686018427387904 := by unfold Nz64; decide
theorem dz_2 : dz 4611686018427387904 = 2 * U := by
  have e : FP.dadd 4607182418800017408 4607182418800017408 = 4611686018427387904 := by decide +kernel
  have h := (add_x e fin_1 fin_1 2 0 (by decide) (by decide) (by rw [dz_1, Int.pow_zero]; omega)).2
  rw [h, dz_1]; omega
end Jvm.Own
namespace Jvm.Own
theorem ite_I {P : Prop} [Decidable P] {a b v : Int32} (e : (if P then a else b) = v) : (P → v.toInt = a.toInt) ∧ (¬ P → v.toInt = b.toInt) := by
  subst e; exact ⟨fun q => by rw [if_pos q], fun q => by rw [if_neg q]⟩
end Jvm.Own
namespace Jvm.Own
open Jvm.FP Jvm.FP.Core Jvm.Free.Fl
theorem add0 {a v : UInt64} (e : FP.dadd a 0 = v) (fa : Fin64 a) : Fin64 v ∧ dz v = dz a := by
  obtain ⟨h1, h2⟩ := dadd_x e fa fin_0 fa (by rw [dz_0]; omega)
  exact ⟨h1, by rw [h2, dz_0]; omega⟩
end Jvm.Own
namespace Jvm.Own
open Jvm.FP Jvm.FP.Core Jvm.Free.Fl
/-! a divisor below nought -/
theorem ddiv_leN {a b V : UInt64} (fa : Fin64 a) (fb : Fin64 b) (hb : dz b < 0) (nV : NoNaN64 V) (h : dz V * dz b ≤ dz a * U) : dz (FP.ddiv a b) ≤ dz V := by
  obtain ⟨h1, h2, h3⟩ := ddiv_zm fa fb (by omega)
  have h2 := h2 V nV
  have h3 := h3 V
  have hU : U = (one64 : Int) := rfl
  rw [dz_def (FP.ddiv a b), h1]
  rw [hU] at h
  rw [dz_def V] at h ⊢
  rw [dz_def a] at h
  rw [dz_def b] at h hb
  have p1 := one64_pos
  generalize zmag b64 (val64 (FP.ddiv a b)) = R at *
  generalize zmag b64 (val64 V) = v at *
  generalize zmag b64 (val64 a) = x at *
  generalize zmag b64 (val64 b) = y at *
  generalize sgn (val64 a) = sa at *
  generalize sgn (val64 b) = sb at *
  generalize sgn (val64 V) = sv at *
  cases sb with
  | false => simp only [signed, Bool.false_eq_true, if_false] at hb; omega
  | true =>
    simp only [signed, if_true] at hb
    change signed sv v * (-(y : Int)) ≤ signed sa x * (one64 : Int) at h
    change signed (sa != true) R ≤ signed sv v
    have key : signed sv v * (y : Int) = signed sv (v * y) := (signed_mul sv v y).symm
    have key2 : signed sa x * (one64 : Int) = signed sa (x * one64) := (signed_mul sa x one64).symm
    have yp : 0 < y := by omega
    rw [Int.mul_neg, key, key2] at h
    have z2 : v * y = 0 → v = 0 := fun e => (Nat.mul_eq_zero.mp e).resolve_right (by omega)
    have z3 : v = 0 → v * y = 0 := fun e => by rw [e, Nat.zero_mul]
    have z4 : x = 0 → x * one64 = 0 := fun e => by rw [e, Nat.zero_mul]
    generalize v * y = vy at *
    generalize x * one64 = xo at *
    cases sa <;> cases sv <;> simp only [signed, Bool.bne_true, Bool.not_false, Bool.not_true, Bool.false_eq_true, if_true, if_false] at h ⊢
    · omega
    · have := h3 (by omega); omega
    · have := h2 (by omega); omega
    · have := h2 (by omega); omega
theorem ddiv_geN {a b V : UInt64} (fa : Fin64 a) (fb : Fin64 b) (hb : dz b < 0) (nV : NoNaN64 V) (h : dz a * U ≤ dz V * dz b) : dz V ≤ dz (FP.ddiv a b) := by
  obtain ⟨h1, h2, h3⟩ := ddiv_zm fa fb (by omega)
  have h2 := h2 V nV
  have h3 := h3 V
  have hU : U = (one64 : Int) := rfl
  rw [dz_def (FP.ddiv a b), h1]
  rw [hU] at h
  rw [dz_def V] at h ⊢
  rw [dz_def a] at h
  rw [dz_def b] at h hb
  have p1 := one64_pos
  generalize zmag b64 (val64 (FP.ddiv a b)) = R at *
  generalize zmag b64 (val64 V) = v at *
  generalize zmag b64 (val64 a) = x at *
  generalize zmag b64 (val64 b) = y at *
  generalize sgn (val64 a) = sa at *
  generalize sgn (val64 b) = sb at *
  generalize sgn (val64 V) = sv at *
  cases sb with
  | false => simp only [signed, Bool.false_eq_true, if_false] at hb; omega
  | true =>
    simp only [signed, if_true] at hb
    change signed sa x * (one64 : Int) ≤ signed sv v * (-(y : Int)) at h
    change signed sv v ≤ signed (sa != true) R
    have key : signed sv v * (y : Int) = signed sv (v * y) := (signed_mul sv v y).symm
    have key2 : signed sa x * (one64 : Int) = signed sa (x * one64) := (signed_mul sa x one64).symm
    have yp : 0 < y := by omega
    rw [Int.mul_neg, key, key2] at h
    have z2 : v * y = 0 → v = 0 := fun e => (Nat.mul_eq_zero.mp e).resolve_right (by omega)
    have z3 : v = 0 → v * y = 0 := fun e => by rw [e, Nat.zero_mul]
    have z4 : x = 0 → x * one64 = 0 := fun e => by rw [e, Nat.zero_mul]
    generalize v * y = vy at *
    generalize x * one64 = xo at *
    cases sa <;> cases sv <;> simp only [signed, Bool.bne_true, Bool.not_false, Bool.not_true, Bool.false_eq_true, if_true, if_false] at h ⊢
    · have := h2 (by omega); omega
    · have := h2 (by omega); omega
    · have := h3 (by omega); omega
    · omega
/-- a whole number's multiple, divided by it -/
theorem ddiv_mul {a b v : UInt64} {m q : Int} (e : FP.ddiv a b = v) (fa : Fin64 a) (fb : Fin64 b) (ha : dz a = m * q * U) (hb : dz b = q * U) (hq : q ≠ 0) (hm : m.natAbs < 2 ^ 53) : NoNaN64 v ∧ dz v = m * U := by
  obtain ⟨V, fV, hV⟩ := repU m 0 hm (by decide)
  rw [Int.pow_zero, Int.mul_one] at hV
  have hU := U_pos
  have k1 : dz a * U = dz V * dz b := by rw [ha, hb, hV]; generalize U = u; ac_rfl
  have hbz : dz b ≠ 0 := by rw [hb]; intro z; rcases Int.mul_eq_zero.mp z with z | z <;> omega
  subst e
  refine ⟨ddiv_nn fa fb hbz, ?_⟩
  rw [← hV]
  rcases Int.lt_or_gt_of_ne hbz with z | z
  · exact Int.le_antisymm (ddiv_leN fa fb z fV.noNaN (Int.le_of_eq k1.symm)) (ddiv_geN fa fb z fV.noNaN (Int.le_of_eq k1))
  · exact Int.le_antisymm (ddiv_le fa fb z fV.noNaN (Int.le_of_eq k1)) (ddiv_ge fa fb z fV.noNaN (Int.le_of_eq k1.symm))
end Jvm.Own
namespace Jvm.Own
open Jvm.FP Jvm.FP.Core Jvm.Free.Fl
theorem abs_max {u : UInt64} (h : Fin64 u) : dz (u &&& 0x7fffffffffffffff) ≤ dz 9218868437227405311 :=
  (dcmp_le.mp ((le_max (noNaN64_no.mp h.noNaN)).mpr (fin64_core.mp h))).2.2
end Jvm.Own
namespace Jvm.Own
open Jvm.FP Jvm.FP.Core Jvm.Free.Fl
/-- finite, and of a magnitude of at most A -/
def Bd (x : UInt64) (A : Int) : Prop := Fin64 x ∧ -(A * U) ≤ dz x ∧ dz x ≤ A * U
theorem Bd.fin {x : UInt64} {A : Int} (h : Bd x A) : Fin64 x := h.1
theorem big_U {A : Int} (h : A.natAbs < 2 ^ 53) : A * U ≤ 2 ^ 1000 * U ∧ -(2 ^ 1000 * U) ≤ A * U := by
  have z : (2 : Int) ^ 53 ≤ 2 ^ 1000 := by
    have h1 := Nat.pow_le_pow_right (n := 2) (by decide) (show 53 ≤ 1000 by decide)
    have e1 : ((2 ^ 53 : Nat) : Int) = 2 ^ 53 := Int.natCast_pow 2 53
    have e2 : ((2 ^ 1000 : Nat) : Int) = 2 ^ 1000 := Int.natCast_pow 2 1000
    rw [← e1, ← e2]; exact Int.ofNat_le.mpr h1
  have e : (2 : Int) ^ 53 = 9007199254740992 := by decide
  have hU := U_pos
  have a1 : A * U ≤ 2 ^ 1000 * U := Int.mul_le_mul_of_nonneg_right (by omega) (Int.le_of_lt hU)
  have a2 : (-(2 ^ 1000)) * U ≤ A * U := Int.mul_le_mul_of_nonneg_right (by omega) (Int.le_of_lt hU)
  rw [Int.neg_mul] at a2
  exact ⟨a1, a2⟩
theorem Bd.int {x : UInt64} {i A : Int} (f : Fin64 x) (z : dz x = i * U) (h1 : -A ≤ i) (h2 : i ≤ A) : Bd x A := by
  have hU := U_pos
  have a1 : i * U ≤ A * U := Int.mul_le_mul_of_nonneg_right h2 (Int.le_of_lt hU)
  have a2 : (-A) * U ≤ i * U := Int.mul_le_mul_of_nonneg_right h1 (Int.le_of_lt hU)
  rw [Int.neg_mul] at a2
  exact ⟨f, by omega, by omega⟩
theorem Bd.add {a b v : UInt64} {A B : Int} (e : FP.dadd a b = v) (ha : Bd a A) (hb : Bd b B) (h : (A + B).natAbs < 2 ^ 53) : Bd v (A + B) := by
  obtain ⟨fa, a1, a2⟩ := ha
  obtain ⟨fb, b1, b2⟩ := hb
  have h1 := add_le e fa fb (A + B) 0 h (by decide) (by rw [Int.pow_zero, Int.mul_one, Int.add_mul]; omega)
  have h2 := add_ge e fa fb (-(A + B)) 0 (by omega) (by decide) (by rw [Int.pow_zero, Int.mul_one, Int.neg_mul, Int.add_mul]; omega)
  rw [Int.pow_zero, Int.mul_one] at h1 h2
  rw [Int.neg_mul] at h2
  have := big_U h
  exact ⟨fin_bd (e ▸ dadd_out fa.noNaN fb) (by omega) (by omega), h2, h1⟩
theorem Bd.sub {a b v : UInt64} {A B : Int} (e : FP.dsub a b = v) (ha : Bd a A) (hb : Bd b B) (h : (A + B).natAbs < 2 ^ 53) : Bd v (A + B) := by
  obtain ⟨fa, a1, a2⟩ := ha
  obtain ⟨fb, b1, b2⟩ := hb
  have h1 := sub_le e fa fb (A + B) 0 h (by decide) (by rw [Int.pow_zero, Int.mul_one, Int.add_mul]; omega)
  have h2 := sub_ge e fa fb (-(A + B)) 0 (by omega) (by decide) (by rw [Int.pow_zero, Int.mul_one, Int.neg_mul, Int.add_mul]; omega)
  rw [Int.pow_zero, Int.mul_one] at h1 h2
  rw [Int.neg_mul] at h2
  have := big_U h
  exact ⟨fin_bd (e ▸ dsub_out fa.noNaN fb) (by omega) (by omega), h2, h1⟩
theorem Bd.mono {x : UInt64} {A B : Int} (h : Bd x A) (q : A ≤ B) : Bd x B := by
  have a1 : A * U ≤ B * U := Int.mul_le_mul_of_nonneg_right q (Int.le_of_lt U_pos)
  exact ⟨h.1, by have := h.2.1; omega, by have := h.2.2; omega⟩
theorem Bd.i2d {x : Int32} {v : UInt64} (e : FP.i2d x = v) : Bd v 2147483648 := by
  obtain ⟨f, z⟩ := i2d_v e
  have h1 := Int32.le_toInt x
  have h2 := Int32.toInt_lt x
  exact Bd.int f z (by omega) (by omega)
end Jvm.Own
namespace Jvm.Own
open Jvm.FP Jvm.FP.Core Jvm.Free.Fl
theorem mul_le' {a b v : UInt64} (e : FP.dmul a b = v) (fa : Fin64 a) (fb : Fin64 b) (k : Int) (hk : k.natAbs < 2 ^ 53) (h : dz a * dz b ≤ k * U * U) : dz v ≤ k * U := by
  obtain ⟨V, fV, hV⟩ := repU k 0 hk (by decide)
  rw [Int.pow_zero, Int.mul_one] at hV
  rw [← hV, ← e]
  exact dmul_le fa fb fV.noNaN (by rw [hV]; exact h)
theorem mul_ge' {a b v : UInt64} (e : FP.dmul a b = v) (fa : Fin64 a) (fb : Fin64 b) (k : Int) (hk : k.natAbs < 2 ^ 53) (h : k * U * U ≤ dz a * dz b) : k * U ≤ dz v := by
  obtain ⟨V, fV, hV⟩ := repU k 0 hk (by decide)
  rw [Int.pow_zero, Int.mul_one] at hV
  rw [← hV, ← e]
  exact dmul_ge fa fb fV.noNaN (by rw [hV]; exact h)
theorem abs_mul_le {x y A B : Int} (h1 : -A ≤ x) (h2 : x ≤ A) (h3 : -B ≤ y) (h4 : y ≤ B) : -(A * B) ≤ x * y ∧ x * y ≤ A * B := by
  have e : (x * y).natAbs = x.natAbs * y.natAbs := Int.natAbs_mul x y
  have e2 : x.natAbs * y.natAbs ≤ A.natAbs * B.natAbs := Nat.mul_le_mul (by omega) (by omega)
  have e3 : (A * B).natAbs = A.natAbs * B.natAbs := Int.natAbs_mul A B
  have e4 : 0 ≤ A * B := Int.mul_nonneg (by omega) (by omega)
  omega
theorem Bd.mul {a b v : UInt64} {A B : Int} (e : FP.dmul a b = v) (ha : Bd a A) (hb : Bd b B) (h : (A * B).natAbs < 2 ^ 53) : Bd v (A * B) := by
  obtain ⟨fa, a1, a2⟩ := ha
  obtain ⟨fb, b1, b2⟩ := hb
  obtain ⟨q1, q2⟩ := abs_mul_le a1 a2 b1 b2
  have r1 : A * U * (B * U) = A * B * U * U := by generalize U = u; ac_rfl
  rw [r1] at q1 q2
  have h1 := mul_le' e fa fb (A * B) h q2
  have h2 := mul_ge' e fa fb (-(A * B)) (by omega) (by rw [Int.neg_mul, Int.neg_mul]; exact q1)
  rw [Int.neg_mul] at h2
  have := big_U h
  exact ⟨fin_bd (e ▸ dmul_out fa fb) (by omega) (by omega), h2, h1⟩
end Jvm.Own

namespace Jvm.Pilot.@@N@@
open Jvm Jvm.ClassFile Sem Op Lib Jvm.Free Jvm.Stand Jvm.LawKit Jvm.RoadKit Bundle Jvm.Free.Fl Jvm.Pilot.@@N@@.Jvm.D
theorem pd_0 : parseMethodDescriptor "(D)D" = some ⟨[.double], some .double⟩ := by decide +kernel
theorem pn_java_lang_Double : plainName "java/lang/Double" = true := by first | (simp [plainName, overriddenIn]; done) | decide +kernel
abbrev mn_1 : MethodName := (⟨"java/lang/Double", "isFinite", "(D)Z"⟩ : MethodName)
theorem pd_2 : parseMethodDescriptor "(D)Z" = some ⟨[.double], some .boolean⟩ := by decide +kernel
theorem pn_com_example_swivel_swivel_Matrix3 : plainName "com/example/swivel/swivel/Matrix3" = true := by first | (simp [plainName, overriddenIn]; done) | decide +kernel
abbrev mn_3 : MethodName := (⟨"com/example/swivel/swivel/Matrix3", "requireFinite", "(DDDDDDDDD)Lcom/example/swivel/swivel/Matrix3$Entries;"⟩ : MethodName)
abbrev mn_4 : MethodName := (⟨"com/example/swivel/swivel/Matrix3", "<init>", "(Lcom/example/swivel/swivel/Matrix3$Entries;DDDDDDDDD)V"⟩ : MethodName)
theorem pd_5 : parseMethodDescriptor "(DDDDDDDDD)Lcom/example/swivel/swivel/Matrix3$Entries;" = some ⟨[.double, .double, .double, .double, .double, .double, .double, .double, .double], some (.object "com/example/swivel/swivel/Matrix3$Entries")⟩ := by decide +kernel
theorem pd_6 : parseMethodDescriptor "(Lcom/example/swivel/swivel/Matrix3$Entries;DDDDDDDDD)V" = some ⟨[(.object "com/example/swivel/swivel/Matrix3$Entries"), .double, .double, .double, .double, .double, .double, .double, .double, .double], none⟩ := by decide +kernel
abbrev mn_7 : MethodName := (⟨"com/example/swivel/swivel/Matrix3", "<init>", "(DDDDDDDDD)V"⟩ : MethodName)
abbrev mn_8 : MethodName := (⟨"com/example/swivel/swivel/Matrix3", "rows", "()[[D"⟩ : MethodName)
theorem pn_com_example_swivel_swivel_Matrix3RowsPinLaw : plainName "com/example/swivel/swivel/Matrix3RowsPinLaw" = true := by first | (simp [plainName, overriddenIn]; done) | decide +kernel
abbrev mn_9 : MethodName := (⟨"com/example/swivel/swivel/Matrix3RowsPinLaw", "same", "([[D[D)Z"⟩ : MethodName)
theorem pd_10 : parseMethodDescriptor "(DDDDDDDDD)V" = some ⟨[.double, .double, .double, .double, .double, .double, .double, .double, .double], none⟩ := by decide +kernel
theorem pd_11 : parseMethodDescriptor "()[[D" = some ⟨[], some (.array (.array .double))⟩ := by decide +kernel
theorem pd_12 : parseMethodDescriptor "([[D[D)Z" = some ⟨[(.array (.array .double)), (.array .double)], some .boolean⟩ := by decide +kernel
theorem d3_0 : decode jdk_117_method_8_code 0 = .ok (.dload_n 0, 1) := by decide +kernel
theorem d3_1 : decode jdk_117_method_8_code 1 = .ok (.invokestatic 38, 3) := by decide +kernel
theorem d3_4 : decode jdk_117_method_8_code 4 = .ok (.ldc2_w 111, 3) := by decide +kernel
theorem nnc_9218868437227405311 : NoNaN64 9218868437227405311 := by unfold NoNaN64; decide
theorem d3_7 : decode jdk_117_method_8_code 7 = .ok (.dcmp .g, 1) := by decide +kernel
theorem d3_8 : decode jdk_117_method_8_code 8 = .ok (.ifCond .gt 7, 3) := by decide +kernel
theorem d3_11 : decode jdk_117_method_8_code 11 = .ok (.iconst 1, 1) := by decide +kernel
theorem d3_12 : decode jdk_117_method_8_code 12 = .ok (.goto 4, 3) := by decide +kernel
theorem d3_16 : decode jdk_117_method_8_code 16 = .ok (.ireturn, 1) := by decide +kernel
theorem d2_0 : decode prog_6_method_3_code 0 = .ok (.dload_n 0, 1) := by decide +kernel
theorem d2_1 : decode prog_6_method_3_code 1 = .ok (.dload_n 2, 1) := by decide +kernel
theorem d2_2 : decode prog_6_method_3_code 2 = .ok (.dadd, 1) := by decide +kernel
theorem d2_3 : decode prog_6_method_3_code 3 = .ok (.dload 4, 2) := by decide +kernel
theorem d2_5 : decode prog_6_method_3_code 5 = .ok (.dload 6, 2) := by decide +kernel
theorem d2_7 : decode prog_6_method_3_code 7 = .ok (.dadd, 1) := by decide +kernel
theorem d2_8 : decode prog_6_method_3_code 8 = .ok (.dadd, 1) := by decide +kernel
theorem d2_9 : decode prog_6_method_3_code 9 = .ok (.dload 8, 2) := by decide +kernel
theorem d2_11 : decode prog_6_method_3_code 11 = .ok (.dload 10, 2) := by decide +kernel
theorem d2_13 : decode prog_6_method_3_code 13 = .ok (.dadd, 1) := by decide +kernel
theorem d2_14 : decode prog_6_method_3_code 14 = .ok (.dload 12, 2) := by decide +kernel
theorem d2_16 : decode prog_6_method_3_code 16 = .ok (.dload 14, 2) := by decide +kernel
theorem d2_18 : decode prog_6_method_3_code 18 = .ok (.dadd, 1) := by decide +kernel
theorem d2_19 : decode prog_6_method_3_code 19 = .ok (.dadd, 1) := by decide +kernel
theorem d2_20 : decode prog_6_method_3_code 20 = .ok (.dadd, 1) := by decide +kernel
theorem d2_21 : decode prog_6_method_3_code 21 = .ok (.dload 16, 2) := by decide +kernel
theorem d2_23 : decode prog_6_method_3_code 23 = .ok (.dadd, 1) := by decide +kernel
theorem d2_24 : decode prog_6_method_3_code 24 = .ok (.invokestatic 44, 3) := by decide +kernel
theorem d2_27 : decode prog_6_method_3_code 27 = .ok (.ifCond .ne 56, 3) := by decide +kernel
theorem d2_83 : decode prog_6_method_3_code 83 = .ok (.getstatic 55, 3) := by decide +kernel
theorem d2_86 : decode prog_6_method_3_code 86 = .ok (.areturn, 1) := by decide +kernel
theorem d5_0 : decode prog_6_method_2_code 0 = .ok (.aload_n 0, 1) := by decide +kernel
theorem d5_1 : decode prog_6_method_2_code 1 = .ok (.invokespecial 11, 3) := by decide +kernel
theorem d5_4 : decode prog_6_method_2_code 4 = .ok (.aload_n 0, 1) := by decide +kernel
theorem d5_5 : decode prog_6_method_2_code 5 = .ok (.dload_n 2, 1) := by decide +kernel
theorem d5_6 : decode prog_6_method_2_code 6 = .ok (.putfield 16, 3) := by decide +kernel
theorem d5_9 : decode prog_6_method_2_code 9 = .ok (.aload_n 0, 1) := by decide +kernel
theorem d5_10 : decode prog_6_method_2_code 10 = .ok (.dload 4, 2) := by decide +kernel
theorem d5_12 : decode prog_6_method_2_code 12 = .ok (.putfield 20, 3) := by decide +kernel
theorem d5_15 : decode prog_6_method_2_code 15 = .ok (.aload_n 0, 1) := by decide +kernel
theorem d5_16 : decode prog_6_method_2_code 16 = .ok (.dload 6, 2) := by decide +kernel
theorem d5_18 : decode prog_6_method_2_code 18 = .ok (.putfield 23, 3) := by decide +kernel
theorem d5_21 : decode prog_6_method_2_code 21 = .ok (.aload_n 0, 1) := by decide +kernel
theorem d5_22 : decode prog_6_method_2_code 22 = .ok (.dload 8, 2) := by decide +kernel
theorem d5_24 : decode prog_6_method_2_code 24 = .ok (.putfield 26, 3) := by decide +kernel
theorem d5_27 : decode prog_6_method_2_code 27 = .ok (.aload_n 0, 1) := by decide +kernel
theorem d5_28 : decode prog_6_method_2_code 28 = .ok (.dload 10, 2) := by decide +kernel
theorem d5_30 : decode prog_6_method_2_code 30 = .ok (.putfield 29, 3) := by decide +kernel
theorem d5_33 : decode prog_6_method_2_code 33 = .ok (.aload_n 0, 1) := by decide +kernel
theorem d5_34 : decode prog_6_method_2_code 34 = .ok (.dload 12, 2) := by decide +kernel
theorem d5_36 : decode prog_6_method_2_code 36 = .ok (.putfield 32, 3) := by decide +kernel
theorem d5_39 : decode prog_6_method_2_code 39 = .ok (.aload_n 0, 1) := by decide +kernel
theorem d5_40 : decode prog_6_method_2_code 40 = .ok (.dload 14, 2) := by decide +kernel
theorem d5_42 : decode prog_6_method_2_code 42 = .ok (.putfield 35, 3) := by decide +kernel
theorem d5_45 : decode prog_6_method_2_code 45 = .ok (.aload_n 0, 1) := by decide +kernel
theorem d5_46 : decode prog_6_method_2_code 46 = .ok (.dload 16, 2) := by decide +kernel
theorem d5_48 : decode prog_6_method_2_code 48 = .ok (.putfield 38, 3) := by decide +kernel
theorem d5_51 : decode prog_6_method_2_code 51 = .ok (.aload_n 0, 1) := by decide +kernel
theorem d5_52 : decode prog_6_method_2_code 52 = .ok (.dload 18, 2) := by decide +kernel
theorem d5_54 : decode prog_6_method_2_code 54 = .ok (.putfield 41, 3) := by decide +kernel
theorem d5_57 : decode prog_6_method_2_code 57 = .ok (.return_, 1) := by decide +kernel
theorem d1_0 : decode prog_6_method_1_code 0 = .ok (.aload_n 0, 1) := by decide +kernel
theorem d1_1 : decode prog_6_method_1_code 1 = .ok (.dload_n 1, 1) := by decide +kernel
theorem d1_2 : decode prog_6_method_1_code 2 = .ok (.dload_n 3, 1) := by decide +kernel
theorem d1_3 : decode prog_6_method_1_code 3 = .ok (.dload 5, 2) := by decide +kernel
theorem d1_5 : decode prog_6_method_1_code 5 = .ok (.dload 7, 2) := by decide +kernel
theorem d1_7 : decode prog_6_method_1_code 7 = .ok (.dload 9, 2) := by decide +kernel
theorem d1_9 : decode prog_6_method_1_code 9 = .ok (.dload 11, 2) := by decide +kernel
theorem d1_11 : decode prog_6_method_1_code 11 = .ok (.dload 13, 2) := by decide +kernel
theorem d1_13 : decode prog_6_method_1_code 13 = .ok (.dload 15, 2) := by decide +kernel
theorem d1_15 : decode prog_6_method_1_code 15 = .ok (.dload 17, 2) := by decide +kernel
theorem d1_17 : decode prog_6_method_1_code 17 = .ok (.invokestatic 1, 3) := by decide +kernel
theorem d1_20 : decode prog_6_method_1_code 20 = .ok (.dload_n 1, 1) := by decide +kernel
theorem d1_21 : decode prog_6_method_1_code 21 = .ok (.dload_n 3, 1) := by decide +kernel
theorem d1_22 : decode prog_6_method_1_code 22 = .ok (.dload 5, 2) := by decide +kernel
theorem d1_24 : decode prog_6_method_1_code 24 = .ok (.dload 7, 2) := by decide +kernel
theorem d1_26 : decode prog_6_method_1_code 26 = .ok (.dload 9, 2) := by decide +kernel
theorem d1_28 : decode prog_6_method_1_code 28 = .ok (.dload 11, 2) := by decide +kernel
theorem d1_30 : decode prog_6_method_1_code 30 = .ok (.dload 13, 2) := by decide +kernel
theorem d1_32 : decode prog_6_method_1_code 32 = .ok (.dload 15, 2) := by decide +kernel
theorem d1_34 : decode prog_6_method_1_code 34 = .ok (.dload 17, 2) := by decide +kernel
theorem d1_36 : decode prog_6_method_1_code 36 = .ok (.invokespecial 7, 3) := by decide +kernel
theorem d1_39 : decode prog_6_method_1_code 39 = .ok (.return_, 1) := by decide +kernel
theorem d7_0 : decode prog_6_method_14_code 0 = .ok (.iconst 3, 1) := by decide +kernel
theorem d7_1 : decode prog_6_method_14_code 1 = .ok (.anewarray 196, 3) := by decide +kernel
theorem d7_4 : decode prog_6_method_14_code 4 = .ok (.dup, 1) := by decide +kernel
theorem d7_5 : decode prog_6_method_14_code 5 = .ok (.iconst 0, 1) := by decide +kernel
theorem d7_6 : decode prog_6_method_14_code 6 = .ok (.iconst 3, 1) := by decide +kernel
theorem d7_7 : decode prog_6_method_14_code 7 = .ok (.newarray .double, 2) := by decide +kernel
theorem d7_9 : decode prog_6_method_14_code 9 = .ok (.dup, 1) := by decide +kernel
theorem d7_10 : decode prog_6_method_14_code 10 = .ok (.iconst 0, 1) := by decide +kernel
theorem d7_11 : decode prog_6_method_14_code 11 = .ok (.aload_n 0, 1) := by decide +kernel
theorem d7_12 : decode prog_6_method_14_code 12 = .ok (.getfield 16, 3) := by decide +kernel
theorem d7_15 : decode prog_6_method_14_code 15 = .ok (.dastore, 1) := by decide +kernel
theorem d7_16 : decode prog_6_method_14_code 16 = .ok (.dup, 1) := by decide +kernel
theorem d7_17 : decode prog_6_method_14_code 17 = .ok (.iconst 1, 1) := by decide +kernel
theorem d7_18 : decode prog_6_method_14_code 18 = .ok (.aload_n 0, 1) := by decide +kernel
theorem d7_19 : decode prog_6_method_14_code 19 = .ok (.getfield 20, 3) := by decide +kernel
theorem d7_22 : decode prog_6_method_14_code 22 = .ok (.dastore, 1) := by decide +kernel
theorem d7_23 : decode prog_6_method_14_code 23 = .ok (.dup, 1) := by decide +kernel
theorem d7_24 : decode prog_6_method_14_code 24 = .ok (.iconst 2, 1) := by decide +kernel
theorem d7_25 : decode prog_6_method_14_code 25 = .ok (.aload_n 0, 1) := by decide +kernel
theorem d7_26 : decode prog_6_method_14_code 26 = .ok (.getfield 23, 3) := by decide +kernel
theorem d7_29 : decode prog_6_method_14_code 29 = .ok (.dastore, 1) := by decide +kernel
theorem d7_30 : decode prog_6_method_14_code 30 = .ok (.aastore, 1) := by decide +kernel
theorem d7_31 : decode prog_6_method_14_code 31 = .ok (.dup, 1) := by decide +kernel
theorem d7_32 : decode prog_6_method_14_code 32 = .ok (.iconst 1, 1) := by decide +kernel
theorem d7_33 : decode prog_6_method_14_code 33 = .ok (.iconst 3, 1) := by decide +kernel
theorem d7_34 : decode prog_6_method_14_code 34 = .ok (.newarray .double, 2) := by decide +kernel
theorem d7_36 : decode prog_6_method_14_code 36 = .ok (.dup, 1) := by decide +kernel
theorem d7_37 : decode prog_6_method_14_code 37 = .ok (.iconst 0, 1) := by decide +kernel
theorem d7_38 : decode prog_6_method_14_code 38 = .ok (.aload_n 0, 1) := by decide +kernel
theorem d7_39 : decode prog_6_method_14_code 39 = .ok (.getfield 26, 3) := by decide +kernel
theorem d7_42 : decode prog_6_method_14_code 42 = .ok (.dastore, 1) := by decide +kernel
theorem d7_43 : decode prog_6_method_14_code 43 = .ok (.dup, 1) := by decide +kernel
theorem d7_44 : decode prog_6_method_14_code 44 = .ok (.iconst 1, 1) := by decide +kernel
theorem d7_45 : decode prog_6_method_14_code 45 = .ok (.aload_n 0, 1) := by decide +kernel
theorem d7_46 : decode prog_6_method_14_code 46 = .ok (.getfield 29, 3) := by decide +kernel
theorem d7_49 : decode prog_6_method_14_code 49 = .ok (.dastore, 1) := by decide +kernel
theorem d7_50 : decode prog_6_method_14_code 50 = .ok (.dup, 1) := by decide +kernel
theorem d7_51 : decode prog_6_method_14_code 51 = .ok (.iconst 2, 1) := by decide +kernel
theorem d7_52 : decode prog_6_method_14_code 52 = .ok (.aload_n 0, 1) := by decide +kernel
theorem d7_53 : decode prog_6_method_14_code 53 = .ok (.getfield 32, 3) := by decide +kernel
theorem d7_56 : decode prog_6_method_14_code 56 = .ok (.dastore, 1) := by decide +kernel
theorem d7_57 : decode prog_6_method_14_code 57 = .ok (.aastore, 1) := by decide +kernel
theorem d7_58 : decode prog_6_method_14_code 58 = .ok (.dup, 1) := by decide +kernel
theorem d7_59 : decode prog_6_method_14_code 59 = .ok (.iconst 2, 1) := by decide +kernel
theorem d7_60 : decode prog_6_method_14_code 60 = .ok (.iconst 3, 1) := by decide +kernel
theorem d7_61 : decode prog_6_method_14_code 61 = .ok (.newarray .double, 2) := by decide +kernel
theorem d7_63 : decode prog_6_method_14_code 63 = .ok (.dup, 1) := by decide +kernel
theorem d7_64 : decode prog_6_method_14_code 64 = .ok (.iconst 0, 1) := by decide +kernel
theorem d7_65 : decode prog_6_method_14_code 65 = .ok (.aload_n 0, 1) := by decide +kernel
theorem d7_66 : decode prog_6_method_14_code 66 = .ok (.getfield 35, 3) := by decide +kernel
theorem d7_69 : decode prog_6_method_14_code 69 = .ok (.dastore, 1) := by decide +kernel
theorem d7_70 : decode prog_6_method_14_code 70 = .ok (.dup, 1) := by decide +kernel
theorem d7_71 : decode prog_6_method_14_code 71 = .ok (.iconst 1, 1) := by decide +kernel
theorem d7_72 : decode prog_6_method_14_code 72 = .ok (.aload_n 0, 1) := by decide +kernel
theorem d7_73 : decode prog_6_method_14_code 73 = .ok (.getfield 38, 3) := by decide +kernel
theorem d7_76 : decode prog_6_method_14_code 76 = .ok (.dastore, 1) := by decide +kernel
theorem d7_77 : decode prog_6_method_14_code 77 = .ok (.dup, 1) := by decide +kernel
theorem d7_78 : decode prog_6_method_14_code 78 = .ok (.iconst 2, 1) := by decide +kernel
theorem d7_79 : decode prog_6_method_14_code 79 = .ok (.aload_n 0, 1) := by decide +kernel
theorem d7_80 : decode prog_6_method_14_code 80 = .ok (.getfield 41, 3) := by decide +kernel
theorem d7_83 : decode prog_6_method_14_code 83 = .ok (.dastore, 1) := by decide +kernel
theorem d7_84 : decode prog_6_method_14_code 84 = .ok (.aastore, 1) := by decide +kernel
theorem d7_85 : decode prog_6_method_14_code 85 = .ok (.areturn, 1) := by decide +kernel
theorem d8_0 : decode method_3_code 0 = .ok (.aload_n 0, 1) := by decide +kernel
theorem d8_1 : decode method_3_code 1 = .ok (.ifnull 9, 3) := by decide +kernel
theorem d8_4 : decode method_3_code 4 = .ok (.aload_n 0, 1) := by decide +kernel
theorem d8_5 : decode method_3_code 5 = .ok (.arraylength, 1) := by decide +kernel
theorem d8_6 : decode method_3_code 6 = .ok (.iconst 3, 1) := by decide +kernel
theorem d8_7 : decode method_3_code 7 = .ok (.if_icmp .eq 5, 3) := by decide +kernel
theorem d8_12 : decode method_3_code 12 = .ok (.aload_n 0, 1) := by decide +kernel
theorem d8_13 : decode method_3_code 13 = .ok (.iconst 0, 1) := by decide +kernel
theorem d8_14 : decode method_3_code 14 = .ok (.aaload, 1) := by decide +kernel
theorem d8_15 : decode method_3_code 15 = .ok (.ifnull 15, 3) := by decide +kernel
theorem d8_18 : decode method_3_code 18 = .ok (.aload_n 0, 1) := by decide +kernel
theorem d8_19 : decode method_3_code 19 = .ok (.iconst 1, 1) := by decide +kernel
theorem d8_20 : decode method_3_code 20 = .ok (.aaload, 1) := by decide +kernel
theorem d8_21 : decode method_3_code 21 = .ok (.ifnull 9, 3) := by decide +kernel
theorem d8_24 : decode method_3_code 24 = .ok (.aload_n 0, 1) := by decide +kernel
theorem d8_25 : decode method_3_code 25 = .ok (.iconst 2, 1) := by decide +kernel
theorem d8_26 : decode method_3_code 26 = .ok (.aaload, 1) := by decide +kernel
theorem d8_27 : decode method_3_code 27 = .ok (.ifnonnull 5, 3) := by decide +kernel
theorem d8_32 : decode method_3_code 32 = .ok (.aload_n 0, 1) := by decide +kernel
theorem d8_33 : decode method_3_code 33 = .ok (.iconst 0, 1) := by decide +kernel
theorem d8_34 : decode method_3_code 34 = .ok (.aaload, 1) := by decide +kernel
theorem d8_35 : decode method_3_code 35 = .ok (.arraylength, 1) := by decide +kernel
theorem d8_36 : decode method_3_code 36 = .ok (.iconst 3, 1) := by decide +kernel
theorem d8_37 : decode method_3_code 37 = .ok (.if_icmp .ne 19, 3) := by decide +kernel
theorem d8_40 : decode method_3_code 40 = .ok (.aload_n 0, 1) := by decide +kernel
theorem d8_41 : decode method_3_code 41 = .ok (.iconst 1, 1) := by decide +kernel
theorem d8_42 : decode method_3_code 42 = .ok (.aaload, 1) := by decide +kernel
theorem d8_43 : decode method_3_code 43 = .ok (.arraylength, 1) := by decide +kernel
theorem d8_44 : decode method_3_code 44 = .ok (.iconst 3, 1) := by decide +kernel
theorem d8_45 : decode method_3_code 45 = .ok (.if_icmp .ne 11, 3) := by decide +kernel
theorem d8_48 : decode method_3_code 48 = .ok (.aload_n 0, 1) := by decide +kernel
theorem d8_49 : decode method_3_code 49 = .ok (.iconst 2, 1) := by decide +kernel
theorem d8_50 : decode method_3_code 50 = .ok (.aaload, 1) := by decide +kernel
theorem d8_51 : decode method_3_code 51 = .ok (.arraylength, 1) := by decide +kernel
theorem d8_52 : decode method_3_code 52 = .ok (.iconst 3, 1) := by decide +kernel
theorem d8_53 : decode method_3_code 53 = .ok (.if_icmp .eq 5, 3) := by decide +kernel
theorem d8_58 : decode method_3_code 58 = .ok (.aload_n 0, 1) := by decide +kernel
theorem d8_59 : decode method_3_code 59 = .ok (.iconst 0, 1) := by decide +kernel
theorem d8_60 : decode method_3_code 60 = .ok (.aaload, 1) := by decide +kernel
theorem d8_61 : decode method_3_code 61 = .ok (.iconst 0, 1) := by decide +kernel
theorem d8_62 : decode method_3_code 62 = .ok (.daload, 1) := by decide +kernel
theorem d8_63 : decode method_3_code 63 = .ok (.aload_n 1, 1) := by decide +kernel
theorem d8_64 : decode method_3_code 64 = .ok (.iconst 0, 1) := by decide +kernel
theorem d8_65 : decode method_3_code 65 = .ok (.daload, 1) := by decide +kernel
theorem d8_66 : decode method_3_code 66 = .ok (.dcmp .l, 1) := by decide +kernel
theorem d8_67 : decode method_3_code 67 = .ok (.ifCond .ne 106, 3) := by decide +kernel
theorem d8_70 : decode method_3_code 70 = .ok (.aload_n 0, 1) := by decide +kernel
theorem d8_71 : decode method_3_code 71 = .ok (.iconst 0, 1) := by decide +kernel
theorem d8_72 : decode method_3_code 72 = .ok (.aaload, 1) := by decide +kernel
theorem d8_73 : decode method_3_code 73 = .ok (.iconst 1, 1) := by decide +kernel
theorem d8_74 : decode method_3_code 74 = .ok (.daload, 1) := by decide +kernel
theorem d8_75 : decode method_3_code 75 = .ok (.aload_n 1, 1) := by decide +kernel
theorem d8_76 : decode method_3_code 76 = .ok (.iconst 1, 1) := by decide +kernel
theorem d8_77 : decode method_3_code 77 = .ok (.daload, 1) := by decide +kernel
theorem d8_78 : decode method_3_code 78 = .ok (.dcmp .l, 1) := by decide +kernel
theorem d8_79 : decode method_3_code 79 = .ok (.ifCond .ne 94, 3) := by decide +kernel
theorem d8_82 : decode method_3_code 82 = .ok (.aload_n 0, 1) := by decide +kernel
theorem d8_83 : decode method_3_code 83 = .ok (.iconst 0, 1) := by decide +kernel
theorem d8_84 : decode method_3_code 84 = .ok (.aaload, 1) := by decide +kernel
theorem d8_85 : decode method_3_code 85 = .ok (.iconst 2, 1) := by decide +kernel
theorem d8_86 : decode method_3_code 86 = .ok (.daload, 1) := by decide +kernel
theorem d8_87 : decode method_3_code 87 = .ok (.aload_n 1, 1) := by decide +kernel
theorem d8_88 : decode method_3_code 88 = .ok (.iconst 2, 1) := by decide +kernel
theorem d8_89 : decode method_3_code 89 = .ok (.daload, 1) := by decide +kernel
theorem d8_90 : decode method_3_code 90 = .ok (.dcmp .l, 1) := by decide +kernel
theorem d8_91 : decode method_3_code 91 = .ok (.ifCond .ne 82, 3) := by decide +kernel
theorem d8_94 : decode method_3_code 94 = .ok (.aload_n 0, 1) := by decide +kernel
theorem d8_95 : decode method_3_code 95 = .ok (.iconst 1, 1) := by decide +kernel
theorem d8_96 : decode method_3_code 96 = .ok (.aaload, 1) := by decide +kernel
theorem d8_97 : decode method_3_code 97 = .ok (.iconst 0, 1) := by decide +kernel
theorem d8_98 : decode method_3_code 98 = .ok (.daload, 1) := by decide +kernel
theorem d8_99 : decode method_3_code 99 = .ok (.aload_n 1, 1) := by decide +kernel
theorem d8_100 : decode method_3_code 100 = .ok (.iconst 3, 1) := by decide +kernel
theorem d8_101 : decode method_3_code 101 = .ok (.daload, 1) := by decide +kernel
theorem d8_102 : decode method_3_code 102 = .ok (.dcmp .l, 1) := by decide +kernel
theorem d8_103 : decode method_3_code 103 = .ok (.ifCond .ne 70, 3) := by decide +kernel
theorem d8_106 : decode method_3_code 106 = .ok (.aload_n 0, 1) := by decide +kernel
theorem d8_107 : decode method_3_code 107 = .ok (.iconst 1, 1) := by decide +kernel
theorem d8_108 : decode method_3_code 108 = .ok (.aaload, 1) := by decide +kernel
theorem d8_109 : decode method_3_code 109 = .ok (.iconst 1, 1) := by decide +kernel
theorem d8_110 : decode method_3_code 110 = .ok (.daload, 1) := by decide +kernel
theorem d8_111 : decode method_3_code 111 = .ok (.aload_n 1, 1) := by decide +kernel
theorem d8_112 : decode method_3_code 112 = .ok (.iconst 4, 1) := by decide +kernel
theorem d8_113 : decode method_3_code 113 = .ok (.daload, 1) := by decide +kernel
theorem d8_114 : decode method_3_code 114 = .ok (.dcmp .l, 1) := by decide +kernel
theorem d8_115 : decode method_3_code 115 = .ok (.ifCond .ne 58, 3) := by decide +kernel
theorem d8_118 : decode method_3_code 118 = .ok (.aload_n 0, 1) := by decide +kernel
theorem d8_119 : decode method_3_code 119 = .ok (.iconst 1, 1) := by decide +kernel
theorem d8_120 : decode method_3_code 120 = .ok (.aaload, 1) := by decide +kernel
theorem d8_121 : decode method_3_code 121 = .ok (.iconst 2, 1) := by decide +kernel
theorem d8_122 : decode method_3_code 122 = .ok (.daload, 1) := by decide +kernel
theorem d8_123 : decode method_3_code 123 = .ok (.aload_n 1, 1) := by decide +kernel
theorem d8_124 : decode method_3_code 124 = .ok (.iconst 5, 1) := by decide +kernel
theorem d8_125 : decode method_3_code 125 = .ok (.daload, 1) := by decide +kernel
theorem d8_126 : decode method_3_code 126 = .ok (.dcmp .l, 1) := by decide +kernel
theorem d8_127 : decode method_3_code 127 = .ok (.ifCond .ne 46, 3) := by decide +kernel
theorem d8_130 : decode method_3_code 130 = .ok (.aload_n 0, 1) := by decide +kernel
theorem d8_131 : decode method_3_code 131 = .ok (.iconst 2, 1) := by decide +kernel
theorem d8_132 : decode method_3_code 132 = .ok (.aaload, 1) := by decide +kernel
theorem d8_133 : decode method_3_code 133 = .ok (.iconst 0, 1) := by decide +kernel
theorem d8_134 : decode method_3_code 134 = .ok (.daload, 1) := by decide +kernel
theorem d8_135 : decode method_3_code 135 = .ok (.aload_n 1, 1) := by decide +kernel
theorem d8_136 : decode method_3_code 136 = .ok (.bipush 6, 2) := by decide +kernel
theorem d8_138 : decode method_3_code 138 = .ok (.daload, 1) := by decide +kernel
theorem d8_139 : decode method_3_code 139 = .ok (.dcmp .l, 1) := by decide +kernel
theorem d8_140 : decode method_3_code 140 = .ok (.ifCond .ne 33, 3) := by decide +kernel
theorem d8_143 : decode method_3_code 143 = .ok (.aload_n 0, 1) := by decide +kernel
theorem d8_144 : decode method_3_code 144 = .ok (.iconst 2, 1) := by decide +kernel
theorem d8_145 : decode method_3_code 145 = .ok (.aaload, 1) := by decide +kernel
theorem d8_146 : decode method_3_code 146 = .ok (.iconst 1, 1) := by decide +kernel
theorem d8_147 : decode method_3_code 147 = .ok (.daload, 1) := by decide +kernel
theorem d8_148 : decode method_3_code 148 = .ok (.aload_n 1, 1) := by decide +kernel
theorem d8_149 : decode method_3_code 149 = .ok (.bipush 7, 2) := by decide +kernel
theorem d8_151 : decode method_3_code 151 = .ok (.daload, 1) := by decide +kernel
theorem d8_152 : decode method_3_code 152 = .ok (.dcmp .l, 1) := by decide +kernel
theorem d8_153 : decode method_3_code 153 = .ok (.ifCond .ne 20, 3) := by decide +kernel
theorem d8_156 : decode method_3_code 156 = .ok (.aload_n 0, 1) := by decide +kernel
theorem d8_157 : decode method_3_code 157 = .ok (.iconst 2, 1) := by decide +kernel
theorem d8_158 : decode method_3_code 158 = .ok (.aaload, 1) := by decide +kernel
theorem d8_159 : decode method_3_code 159 = .ok (.iconst 2, 1) := by decide +kernel
theorem d8_160 : decode method_3_code 160 = .ok (.daload, 1) := by decide +kernel
theorem d8_161 : decode method_3_code 161 = .ok (.aload_n 1, 1) := by decide +kernel
theorem d8_162 : decode method_3_code 162 = .ok (.bipush 8, 2) := by decide +kernel
theorem d8_164 : decode method_3_code 164 = .ok (.daload, 1) := by decide +kernel
theorem d8_165 : decode method_3_code 165 = .ok (.dcmp .l, 1) := by decide +kernel
theorem d8_166 : decode method_3_code 166 = .ok (.ifCond .ne 7, 3) := by decide +kernel
theorem d8_169 : decode method_3_code 169 = .ok (.iconst 1, 1) := by decide +kernel
theorem d8_170 : decode method_3_code 170 = .ok (.goto 4, 3) := by decide +kernel
theorem d8_174 : decode method_3_code 174 = .ok (.ireturn, 1) := by decide +kernel

theorem ef_3 (m : MethodId) (x0 : UInt64) : entryFrame m #[.double x0] 2 = mkF m 0 #[.val (.double x0), .second] [] := by first | (simp [entryFrame, mkF, argsToLocals, Value.category, maxLocals]; done) | rfl
set_option maxRecDepth 65536 in
set_option maxHeartbeats 40000000 in
theorem rm3 (l : Launch) (Z : State) (a0 : Array Value) (hw : ∀ d ∈ tables_1, d.before a0 Z = true) (u : UInt64)   (h0 : Heap) (n0 : Nat) (Z0 : n0 ≤ h0.size)  (f_u : Fin64 u) :
    Own.Con l Z mn_1 [] jdk_117_method_8_code 2 (some .boolean) ({ frames := 1, cells := 0, slots := 0, locals := 13 } : Room) #[.double u] h0 n0 (fun v h => v = some (.int 1) ∧ h0 = h) := by
  refine Own.enter (own := "java/lang/Double") (nm := "isFinite") (plainFor_of_name pn_java_lang_Double) rfl rfl (fun m => ef_3 m u) fun p e s m below meth c T X => ?_
  refine Own.dloadN X d3_0 rfl ?_
  have n_u := f_u.noNaN
  refine Own.absD_ X d3_1 (Own.wd hw 14 rfl) (Own.wd hw 15 rfl) (Own.wd hw 16 rfl) (Own.wd hw 17 rfl) n_u (lenOf pd_0 rfl) rfl (W := 0) (Nat.le_of_eq rfl) (by decide) (by decide) (by decide) (by decide) fun T1 X1 => ?_
  show Own.Go p e below s n0 _ _ _ (T1.setTop (mkF m 4 _ [.double (u &&& 0x7fffffffffffffff)]))
  refine Own.ldc2D X1 d3_4 (Own.wd hw 18 rfl) ?_
  refine Own.dcmpF X1 (pc' := 15) d3_7 d3_8 (by decide) (abs_fin f_u).noNaN nnc_9218868437227405311 (fun q => absurd (show Own.dz 9218868437227405311 < Own.dz (u &&& 0x7fffffffffffffff) from q) (show ¬ (Own.dz 9218868437227405311 < Own.dz (u &&& 0x7fffffffffffffff)) from fun q => absurd q (by have := Own.abs_max f_u; omega))) (fun _ => ?_)
  refine Own.iconst X1 (v := 1) d3_11 rfl ?_
  refine Own.goto_ X1 (pc' := 16) d3_12 (by decide) ?_
  exact Own.retB X1 d3_16 (by decide) ⟨rfl, rfl⟩ (by decide) (by decide)
theorem ef_2 (m : MethodId) (x0 : UInt64) (x1 : UInt64) (x2 : UInt64) (x3 : UInt64) (x4 : UInt64) (x5 : UInt64) (x6 : UInt64) (x7 : UInt64) (x8 : UInt64) : entryFrame m #[.double x0, .double x1, .double x2, .double x3, .double x4, .double x5, .double x6, .double x7, .double x8] 18 = mkF m 0 #[.val (.double x0), .second, .val (.double x1), .second, .val (.double x2), .second, .val (.double x3), .second, .val (.double x4), .second, .val (.double x5), .second, .val (.double x6), .second, .val (.double x7), .second, .val (.double x8), .second] [] := by first | (simp [entryFrame, mkF, argsToLocals, Value.category, maxLocals]; done) | rfl
set_option maxRecDepth 65536 in
set_option maxHeartbeats 40000000 in
theorem rm2 (l : Launch) (Z : State) (a0 : Array Value) (hw : ∀ d ∈ tables_1, d.before a0 Z = true) (p1 : UInt64) (p2 : UInt64) (p3 : UInt64) (p4 : UInt64) (p5 : UInt64) (p6 : UInt64) (p7 : UInt64) (p8 : UInt64) (p9 : UInt64)  (fe : Addr) (h0 : Heap) (n0 : Nat) (Z0 : n0 ≤ h0.size)  (B_p1 : Own.Bd p1 8589934592) (B_p2 : Own.Bd p2 8589934592) (B_p3 : Own.Bd p3 8589934592) (B_p4 : Own.Bd p4 8589934592) (B_p5 : Own.Bd p5 8589934592) (B_p6 : Own.Bd p6 8589934592) (B_p7 : Own.Bd p7 8589934592) (B_p8 : Own.Bd p8 8589934592) (B_p9 : Own.Bd p9 8589934592) (S_F : Sta Z h0 "com/example/swivel/swivel/Matrix3$Entries" "FINITE" "Lcom/example/swivel/swivel/Matrix3$Entries;" (.ref fe)) :
    Own.Con l Z mn_3 [] prog_6_method_3_code 18 (some (.object "com/example/swivel/swivel/Matrix3$Entries")) ({ frames := 2, cells := 0, slots := 0, locals := 26 } : Room) #[.double p1, .double p2, .double p3, .double p4, .double p5, .double p6, .double p7, .double p8, .double p9] h0 n0 (fun v h => v = some (.ref fe) ∧ h0 = h) := by
  refine Own.enter (own := "com/example/swivel/swivel/Matrix3") (nm := "requireFinite") (plainFor_of_name pn_com_example_swivel_swivel_Matrix3) rfl rfl (fun m => ef_2 m p1 p2 p3 p4 p5 p6 p7 p8 p9) fun p e s m below meth c T X => ?_
  refine Own.dloadN X d2_0 rfl ?_
  refine Own.dloadN X d2_1 rfl ?_
  obtain ⟨d2, e_d2⟩ : ∃ v, FP.dadd p1 p2 = v := ⟨_, rfl⟩
  have B_d2 := Own.Bd.add e_d2 B_p1 B_p2 (by decide)
  have f_d2 := B_d2.1
  have n_d2 := f_d2.noNaN
  refine Own.dadd X d2_2 e_d2 n_d2 ?_
  refine Own.dload X d2_3 rfl ?_
  refine Own.dload X d2_5 rfl ?_
  obtain ⟨d7, e_d7⟩ : ∃ v, FP.dadd p3 p4 = v := ⟨_, rfl⟩
  have B_d7 := Own.Bd.add e_d7 B_p3 B_p4 (by decide)
  have f_d7 := B_d7.1
  have n_d7 := f_d7.noNaN
  refine Own.dadd X d2_7 e_d7 n_d7 ?_
  obtain ⟨d8, e_d8⟩ : ∃ v, FP.dadd d2 d7 = v := ⟨_, rfl⟩
  have B_d8 := Own.Bd.add e_d8 B_d2 B_d7 (by decide)
  have f_d8 := B_d8.1
  have n_d8 := f_d8.noNaN
  refine Own.dadd X d2_8 e_d8 n_d8 ?_
  refine Own.dload X d2_9 rfl ?_
  refine Own.dload X d2_11 rfl ?_
  obtain ⟨d13, e_d13⟩ : ∃ v, FP.dadd p5 p6 = v := ⟨_, rfl⟩
  have B_d13 := Own.Bd.add e_d13 B_p5 B_p6 (by decide)
  have f_d13 := B_d13.1
  have n_d13 := f_d13.noNaN
  refine Own.dadd X d2_13 e_d13 n_d13 ?_
  refine Own.dload X d2_14 rfl ?_
  refine Own.dload X d2_16 rfl ?_
  obtain ⟨d18, e_d18⟩ : ∃ v, FP.dadd p7 p8 = v := ⟨_, rfl⟩
  have B_d18 := Own.Bd.add e_d18 B_p7 B_p8 (by decide)
  have f_d18 := B_d18.1
  have n_d18 := f_d18.noNaN
  refine Own.dadd X d2_18 e_d18 n_d18 ?_
  obtain ⟨d19, e_d19⟩ : ∃ v, FP.dadd d13 d18 = v := ⟨_, rfl⟩
  have B_d19 := Own.Bd.add e_d19 B_d13 B_d18 (by decide)
  have f_d19 := B_d19.1
  have n_d19 := f_d19.noNaN
  refine Own.dadd X d2_19 e_d19 n_d19 ?_
  obtain ⟨d20, e_d20⟩ : ∃ v, FP.dadd d8 d19 = v := ⟨_, rfl⟩
  have B_d20 := Own.Bd.add e_d20 B_d8 B_d19 (by decide)
  have f_d20 := B_d20.1
  have n_d20 := f_d20.noNaN
  refine Own.dadd X d2_20 e_d20 n_d20 ?_
  refine Own.dload X d2_21 rfl ?_
  obtain ⟨d23, e_d23⟩ : ∃ v, FP.dadd d20 p9 = v := ⟨_, rfl⟩
  have B_d23 := Own.Bd.add e_d23 B_d20 B_p9 (by decide)
  have f_d23 := B_d23.1
  have n_d23 := f_d23.noNaN
  refine Own.dadd X d2_23 e_d23 n_d23 ?_
  refine Own.callS_ (y := mn_1) X d2_24 (Own.wd hw 10 rfl) (Own.wd hw 11 rfl) (Own.wd hw 12 rfl) (Own.wd hw 13 rfl) (by decide) (rm3 l Z a0 hw d23 h0 n0 Z0  f_d23) (lenOf pd_2 rfl) rfl (argsL := [.double d23]) (rest := []) rfl (W := 0) (Nat.le_of_eq rfl) (by decide) (by decide) (by decide) (by decide) fun T1 h1 v1 X1 q1 => ?_
  obtain ⟨rfl, rfl⟩ := q1
  show Own.Go p e below s n0 _ _ _ (T1.setTop (mkF m 27 _ [.int (1 : Int32)]))
  refine Own.iff_ X1 (pc' := 83) d2_27 (by decide) (fun _ => ?_) (fun q => absurd (show ¬ ((1 : Int) = (0 : Int)) from by decide) q)
  refine Own.getS_ X1 d2_83 (host := "") (Or.inl (Own.wd hw 19 rfl)) Via.refl S_F fun T2 X2 => ?_
  exact Own.retA X2 d2_86 rfl rfl rfl ⟨rfl, rfl⟩ (by decide) (by decide)
theorem ef_5 (m : MethodId) (x0 : Addr) (x1 : Addr) (x2 : UInt64) (x3 : UInt64) (x4 : UInt64) (x5 : UInt64) (x6 : UInt64) (x7 : UInt64) (x8 : UInt64) (x9 : UInt64) (x10 : UInt64) : entryFrame m #[.ref x0, .ref x1, .double x2, .double x3, .double x4, .double x5, .double x6, .double x7, .double x8, .double x9, .double x10] 20 = mkF m 0 #[.val (.ref x0), .val (.ref x1), .val (.double x2), .second, .val (.double x3), .second, .val (.double x4), .second, .val (.double x5), .second, .val (.double x6), .second, .val (.double x7), .second, .val (.double x8), .second, .val (.double x9), .second, .val (.double x10), .second] [] := by first | (simp [entryFrame, mkF, argsToLocals, Value.category, maxLocals]; done) | rfl
set_option maxRecDepth 65536 in
set_option maxHeartbeats 40000000 in
theorem rm5 (l : Launch) (Z : State) (a0 : Array Value) (hw : ∀ d ∈ tables_1, d.before a0 Z = true) (a : Addr) (p0 : Addr) (p1 : UInt64) (p2 : UInt64) (p3 : UInt64) (p4 : UInt64) (p5 : UInt64) (p6 : UInt64) (p7 : UInt64) (p8 : UInt64) (p9 : UInt64)  (h0 : Heap) (n0 : Nat) (Z0 : n0 ≤ h0.size) (ga : n0 ≤ a) (Ea : Exa Z h0 a "com/example/swivel/swivel/Matrix3") (F0_m11 : Fld Z h0 a "com/example/swivel/swivel/Matrix3" "m11" "D" (.double 0)) (F0_m12 : Fld Z h0 a "com/example/swivel/swivel/Matrix3" "m12" "D" (.double 0)) (F0_m13 : Fld Z h0 a "com/example/swivel/swivel/Matrix3" "m13" "D" (.double 0)) (F0_m21 : Fld Z h0 a "com/example/swivel/swivel/Matrix3" "m21" "D" (.double 0)) (F0_m22 : Fld Z h0 a "com/example/swivel/swivel/Matrix3" "m22" "D" (.double 0)) (F0_m23 : Fld Z h0 a "com/example/swivel/swivel/Matrix3" "m23" "D" (.double 0)) (F0_m31 : Fld Z h0 a "com/example/swivel/swivel/Matrix3" "m31" "D" (.double 0)) (F0_m32 : Fld Z h0 a "com/example/swivel/swivel/Matrix3" "m32" "D" (.double 0)) (F0_m33 : Fld Z h0 a "com/example/swivel/swivel/Matrix3" "m33" "D" (.double 0))  :
    Own.Con l Z mn_4 [] prog_6_method_2_code 20 none ({ frames := 1, cells := 0, slots := 0, locals := 12 } : Room) #[.ref a, .ref p0, .double p1, .double p2, .double p3, .double p4, .double p5, .double p6, .double p7, .double p8, .double p9] h0 n0 (fun v h => v = none ∧ Keep h0 h [a] ∧ Fld Z h a "com/example/swivel/swivel/Matrix3" "m11" "D" (.double p1) ∧ Fld Z h a "com/example/swivel/swivel/Matrix3" "m12" "D" (.double p2) ∧ Fld Z h a "com/example/swivel/swivel/Matrix3" "m13" "D" (.double p3) ∧ Fld Z h a "com/example/swivel/swivel/Matrix3" "m21" "D" (.double p4) ∧ Fld Z h a "com/example/swivel/swivel/Matrix3" "m22" "D" (.double p5) ∧ Fld Z h a "com/example/swivel/swivel/Matrix3" "m23" "D" (.double p6) ∧ Fld Z h a "com/example/swivel/swivel/Matrix3" "m31" "D" (.double p7) ∧ Fld Z h a "com/example/swivel/swivel/Matrix3" "m32" "D" (.double p8) ∧ Fld Z h a "com/example/swivel/swivel/Matrix3" "m33" "D" (.double p9)) := by
  refine Own.enter (own := "com/example/swivel/swivel/Matrix3") (nm := "<init>") (plainFor_of_name pn_com_example_swivel_swivel_Matrix3) rfl rfl (fun m => ef_5 m a p0 p1 p2 p3 p4 p5 p6 p7 p8 p9) fun p e s m below meth c T X => ?_
  refine Own.aloadN X d5_0 rfl rfl ?_
  refine Own.initO_ X d5_1 (Own.wd hw 25 rfl) (Own.wd hw 26 rfl) (Own.wd hw 27 rfl) rfl (W := 0) (by decide) (Nat.le_of_eq rfl) (by decide) fun T1 X1 => ?_
  refine Own.aloadN X1 d5_4 rfl rfl ?_
  refine Own.dloadN X1 d5_5 rfl ?_
  refine Own.putF_ X1 d5_6 (host := "") (Or.inl (Own.wd hw 28 rfl)) Via.refl F0_m11 Ea (Or.inr ⟨(Own.wd hw 29 rfl), rfl, rfl⟩) (Own.wd hw 2 rfl) (ty := .double) (by decide) rfl rfl ga fun T2 h2 X2 W2 => ?_
  have F3 := Ea.wr W2
  have F4 := (Keep.refl h0 [a]).wr W2 (Or.inl (List.mem_of_getElem? (i := 0) rfl))
  have F5 := F0_m12.other W2 (Or.inr (slot_ne (Or.inr (Own.wd hw 31 rfl)) (Or.inr (Own.wd hw 29 rfl)) (by decide) (t := .double) (t' := .double) (by decide) (by decide)))
  have F6 := F0_m13.other W2 (Or.inr (slot_ne (Or.inr (Own.wd hw 33 rfl)) (Or.inr (Own.wd hw 29 rfl)) (by decide) (t := .double) (t' := .double) (by decide) (by decide)))
  have F7 := F0_m21.other W2 (Or.inr (slot_ne (Or.inr (Own.wd hw 35 rfl)) (Or.inr (Own.wd hw 29 rfl)) (by decide) (t := .double) (t' := .double) (by decide) (by decide)))
  have F8 := F0_m22.other W2 (Or.inr (slot_ne (Or.inr (Own.wd hw 37 rfl)) (Or.inr (Own.wd hw 29 rfl)) (by decide) (t := .double) (t' := .double) (by decide) (by decide)))
  have F9 := F0_m23.other W2 (Or.inr (slot_ne (Or.inr (Own.wd hw 39 rfl)) (Or.inr (Own.wd hw 29 rfl)) (by decide) (t := .double) (t' := .double) (by decide) (by decide)))
  have F10 := F0_m31.other W2 (Or.inr (slot_ne (Or.inr (Own.wd hw 41 rfl)) (Or.inr (Own.wd hw 29 rfl)) (by decide) (t := .double) (t' := .double) (by decide) (by decide)))
  have F11 := F0_m32.other W2 (Or.inr (slot_ne (Or.inr (Own.wd hw 43 rfl)) (Or.inr (Own.wd hw 29 rfl)) (by decide) (t := .double) (t' := .double) (by decide) (by decide)))
  have F12 := F0_m33.other W2 (Or.inr (slot_ne (Or.inr (Own.wd hw 45 rfl)) (Or.inr (Own.wd hw 29 rfl)) (by decide) (t := .double) (t' := .double) (by decide) (by decide)))
  have F13 : Fld Z h2 a "com/example/swivel/swivel/Matrix3" "m11" "D" (.double p1) := Fld.same W2 F0_m11
  have Z14 : n0 ≤ h2.size := by rw [W2.size]; exact Z0
  refine Own.aloadN X2 d5_9 rfl rfl ?_
  refine Own.dload X2 d5_10 rfl ?_
  refine Own.putF_ X2 d5_12 (host := "") (Or.inl (Own.wd hw 30 rfl)) Via.refl F5 F3 (Or.inr ⟨(Own.wd hw 31 rfl), rfl, rfl⟩) (Own.wd hw 2 rfl) (ty := .double) (by decide) rfl rfl ga fun T15 h15 X15 W15 => ?_
  have F16 := F3.wr W15
  have F17 := F4.wr W15 (Or.inl (List.mem_of_getElem? (i := 0) rfl))
  have F18 := F6.other W15 (Or.inr (slot_ne (Or.inr (Own.wd hw 33 rfl)) (Or.inr (Own.wd hw 31 rfl)) (by decide) (t := .double) (t' := .double) (by decide) (by decide)))
  have F19 := F7.other W15 (Or.inr (slot_ne (Or.inr (Own.wd hw 35 rfl)) (Or.inr (Own.wd hw 31 rfl)) (by decide) (t := .double) (t' := .double) (by decide) (by decide)))
  have F20 := F8.other W15 (Or.inr (slot_ne (Or.inr (Own.wd hw 37 rfl)) (Or.inr (Own.wd hw 31 rfl)) (by decide) (t := .double) (t' := .double) (by decide) (by decide)))
  have F21 := F9.other W15 (Or.inr (slot_ne (Or.inr (Own.wd hw 39 rfl)) (Or.inr (Own.wd hw 31 rfl)) (by decide) (t := .double) (t' := .double) (by decide) (by decide)))
  have F22 := F10.other W15 (Or.inr (slot_ne (Or.inr (Own.wd hw 41 rfl)) (Or.inr (Own.wd hw 31 rfl)) (by decide) (t := .double) (t' := .double) (by decide) (by decide)))
  have F23 := F11.other W15 (Or.inr (slot_ne (Or.inr (Own.wd hw 43 rfl)) (Or.inr (Own.wd hw 31 rfl)) (by decide) (t := .double) (t' := .double) (by decide) (by decide)))
  have F24 := F12.other W15 (Or.inr (slot_ne (Or.inr (Own.wd hw 45 rfl)) (Or.inr (Own.wd hw 31 rfl)) (by decide) (t := .double) (t' := .double) (by decide) (by decide)))
  have F25 := F13.other W15 (Or.inr (slot_ne (Or.inr (Own.wd hw 29 rfl)) (Or.inr (Own.wd hw 31 rfl)) (by decide) (t := .double) (t' := .double) (by decide) (by decide)))
  have F26 : Fld Z h15 a "com/example/swivel/swivel/Matrix3" "m12" "D" (.double p2) := Fld.same W15 F5
  have Z27 : n0 ≤ h15.size := by rw [W15.size]; exact Z14
  refine Own.aloadN X15 d5_15 rfl rfl ?_
  refine Own.dload X15 d5_16 rfl ?_
  refine Own.putF_ X15 d5_18 (host := "") (Or.inl (Own.wd hw 32 rfl)) Via.refl F18 F16 (Or.inr ⟨(Own.wd hw 33 rfl), rfl, rfl⟩) (Own.wd hw 2 rfl) (ty := .double) (by decide) rfl rfl ga fun T28 h28 X28 W28 => ?_
  have F29 := F16.wr W28
  have F30 := F17.wr W28 (Or.inl (List.mem_of_getElem? (i := 0) rfl))
  have F31 := F19.other W28 (Or.inr (slot_ne (Or.inr (Own.wd hw 35 rfl)) (Or.inr (Own.wd hw 33 rfl)) (by decide) (t := .double) (t' := .double) (by decide) (by decide)))
  have F32 := F20.other W28 (Or.inr (slot_ne (Or.inr (Own.wd hw 37 rfl)) (Or.inr (Own.wd hw 33 rfl)) (by decide) (t := .double) (t' := .double) (by decide) (by decide)))
  have F33 := F21.other W28 (Or.inr (slot_ne (Or.inr (Own.wd hw 39 rfl)) (Or.inr (Own.wd hw 33 rfl)) (by decide) (t := .double) (t' := .double) (by decide) (by decide)))
  have F34 := F22.other W28 (Or.inr (slot_ne (Or.inr (Own.wd hw 41 rfl)) (Or.inr (Own.wd hw 33 rfl)) (by decide) (t := .double) (t' := .double) (by decide) (by decide)))
  have F35 := F23.other W28 (Or.inr (slot_ne (Or.inr (Own.wd hw 43 rfl)) (Or.inr (Own.wd hw 33 rfl)) (by decide) (t := .double) (t' := .double) (by decide) (by decide)))
  have F36 := F24.other W28 (Or.inr (slot_ne (Or.inr (Own.wd hw 45 rfl)) (Or.inr (Own.wd hw 33 rfl)) (by decide) (t := .double) (t' := .double) (by decide) (by decide)))
  have F37 := F25.other W28 (Or.inr (slot_ne (Or.inr (Own.wd hw 29 rfl)) (Or.inr (Own.wd hw 33 rfl)) (by decide) (t := .double) (t' := .double) (by decide) (by decide)))
  have F38 := F26.other W28 (Or.inr (slot_ne (Or.inr (Own.wd hw 31 rfl)) (Or.inr (Own.wd hw 33 rfl)) (by decide) (t := .double) (t' := .double) (by decide) (by decide)))
  have F39 : Fld Z h28 a "com/example/swivel/swivel/Matrix3" "m13" "D" (.double p3) := Fld.same W28 F18
  have Z40 : n0 ≤ h28.size := by rw [W28.size]; exact Z27
  refine Own.aloadN X28 d5_21 rfl rfl ?_
  refine Own.dload X28 d5_22 rfl ?_
  refine Own.putF_ X28 d5_24 (host := "") (Or.inl (Own.wd hw 34 rfl)) Via.refl F31 F29 (Or.inr ⟨(Own.wd hw 35 rfl), rfl, rfl⟩) (Own.wd hw 2 rfl) (ty := .double) (by decide) rfl rfl ga fun T41 h41 X41 W41 => ?_
  have F42 := F29.wr W41
  have F43 := F30.wr W41 (Or.inl (List.mem_of_getElem? (i := 0) rfl))
  have F44 := F32.other W41 (Or.inr (slot_ne (Or.inr (Own.wd hw 37 rfl)) (Or.inr (Own.wd hw 35 rfl)) (by decide) (t := .double) (t' := .double) (by decide) (by decide)))
  have F45 := F33.other W41 (Or.inr (slot_ne (Or.inr (Own.wd hw 39 rfl)) (Or.inr (Own.wd hw 35 rfl)) (by decide) (t := .double) (t' := .double) (by decide) (by decide)))
  have F46 := F34.other W41 (Or.inr (slot_ne (Or.inr (Own.wd hw 41 rfl)) (Or.inr (Own.wd hw 35 rfl)) (by decide) (t := .double) (t' := .double) (by decide) (by decide)))
  have F47 := F35.other W41 (Or.inr (slot_ne (Or.inr (Own.wd hw 43 rfl)) (Or.inr (Own.wd hw 35 rfl)) (by decide) (t := .double) (t' := .double) (by decide) (by decide)))
  have F48 := F36.other W41 (Or.inr (slot_ne (Or.inr (Own.wd hw 45 rfl)) (Or.inr (Own.wd hw 35 rfl)) (by decide) (t := .double) (t' := .double) (by decide) (by decide)))
  have F49 := F37.other W41 (Or.inr (slot_ne (Or.inr (Own.wd hw 29 rfl)) (Or.inr (Own.wd hw 35 rfl)) (by decide) (t := .double) (t' := .double) (by decide) (by decide)))
  have F50 := F38.other W41 (Or.inr (slot_ne (Or.inr (Own.wd hw 31 rfl)) (Or.inr (Own.wd hw 35 rfl)) (by decide) (t := .double) (t' := .double) (by decide) (by decide)))
  have F51 := F39.other W41 (Or.inr (slot_ne (Or.inr (Own.wd hw 33 rfl)) (Or.inr (Own.wd hw 35 rfl)) (by decide) (t := .double) (t' := .double) (by decide) (by decide)))
  have F52 : Fld Z h41 a "com/example/swivel/swivel/Matrix3" "m21" "D" (.double p4) := Fld.same W41 F31
  have Z53 : n0 ≤ h41.size := by rw [W41.size]; exact Z40
  refine Own.aloadN X41 d5_27 rfl rfl ?_
  refine Own.dload X41 d5_28 rfl ?_
  refine Own.putF_ X41 d5_30 (host := "") (Or.inl (Own.wd hw 36 rfl)) Via.refl F44 F42 (Or.inr ⟨(Own.wd hw 37 rfl), rfl, rfl⟩) (Own.wd hw 2 rfl) (ty := .double) (by decide) rfl rfl ga fun T54 h54 X54 W54 => ?_
  have F55 := F42.wr W54
  have F56 := F43.wr W54 (Or.inl (List.mem_of_getElem? (i := 0) rfl))
  have F57 := F45.other W54 (Or.inr (slot_ne (Or.inr (Own.wd hw 39 rfl)) (Or.inr (Own.wd hw 37 rfl)) (by decide) (t := .double) (t' := .double) (by decide) (by decide)))
  have F58 := F46.other W54 (Or.inr (slot_ne (Or.inr (Own.wd hw 41 rfl)) (Or.inr (Own.wd hw 37 rfl)) (by decide) (t := .double) (t' := .double) (by decide) (by decide)))
  have F59 := F47.other W54 (Or.inr (slot_ne (Or.inr (Own.wd hw 43 rfl)) (Or.inr (Own.wd hw 37 rfl)) (by decide) (t := .double) (t' := .double) (by decide) (by decide)))
  have F60 := F48.other W54 (Or.inr (slot_ne (Or.inr (Own.wd hw 45 rfl)) (Or.inr (Own.wd hw 37 rfl)) (by decide) (t := .double) (t' := .double) (by decide) (by decide)))
  have F61 := F49.other W54 (Or.inr (slot_ne (Or.inr (Own.wd hw 29 rfl)) (Or.inr (Own.wd hw 37 rfl)) (by decide) (t := .double) (t' := .double) (by decide) (by decide)))
  have F62 := F50.other W54 (Or.inr (slot_ne (Or.inr (Own.wd hw 31 rfl)) (Or.inr (Own.wd hw 37 rfl)) (by decide) (t := .double) (t' := .double) (by decide) (by decide)))
  have F63 := F51.other W54 (Or.inr (slot_ne (Or.inr (Own.wd hw 33 rfl)) (Or.inr (Own.wd hw 37 rfl)) (by decide) (t := .double) (t' := .double) (by decide) (by decide)))
  have F64 := F52.other W54 (Or.inr (slot_ne (Or.inr (Own.wd hw 35 rfl)) (Or.inr (Own.wd hw 37 rfl)) (by decide) (t := .double) (t' := .double) (by decide) (by decide)))
  have F65 : Fld Z h54 a "com/example/swivel/swivel/Matrix3" "m22" "D" (.double p5) := Fld.same W54 F44
  have Z66 : n0 ≤ h54.size := by rw [W54.size]; exact Z53
  refine Own.aloadN X54 d5_33 rfl rfl ?_
  refine Own.dload X54 d5_34 rfl ?_
  refine Own.putF_ X54 d5_36 (host := "") (Or.inl (Own.wd hw 38 rfl)) Via.refl F57 F55 (Or.inr ⟨(Own.wd hw 39 rfl), rfl, rfl⟩) (Own.wd hw 2 rfl) (ty := .double) (by decide) rfl rfl ga fun T67 h67 X67 W67 => ?_
  have F68 := F55.wr W67
  have F69 := F56.wr W67 (Or.inl (List.mem_of_getElem? (i := 0) rfl))
  have F70 := F58.other W67 (Or.inr (slot_ne (Or.inr (Own.wd hw 41 rfl)) (Or.inr (Own.wd hw 39 rfl)) (by decide) (t := .double) (t' := .double) (by decide) (by decide)))
  have F71 := F59.other W67 (Or.inr (slot_ne (Or.inr (Own.wd hw 43 rfl)) (Or.inr (Own.wd hw 39 rfl)) (by decide) (t := .double) (t' := .double) (by decide) (by decide)))
  have F72 := F60.other W67 (Or.inr (slot_ne (Or.inr (Own.wd hw 45 rfl)) (Or.inr (Own.wd hw 39 rfl)) (by decide) (t := .double) (t' := .double) (by decide) (by decide)))
  have F73 := F61.other W67 (Or.inr (slot_ne (Or.inr (Own.wd hw 29 rfl)) (Or.inr (Own.wd hw 39 rfl)) (by decide) (t := .double) (t' := .double) (by decide) (by decide)))
  have F74 := F62.other W67 (Or.inr (slot_ne (Or.inr (Own.wd hw 31 rfl)) (Or.inr (Own.wd hw 39 rfl)) (by decide) (t := .double) (t' := .double) (by decide) (by decide)))
  have F75 := F63.other W67 (Or.inr (slot_ne (Or.inr (Own.wd hw 33 rfl)) (Or.inr (Own.wd hw 39 rfl)) (by decide) (t := .double) (t' := .double) (by decide) (by decide)))
  have F76 := F64.other W67 (Or.inr (slot_ne (Or.inr (Own.wd hw 35 rfl)) (Or.inr (Own.wd hw 39 rfl)) (by decide) (t := .double) (t' := .double) (by decide) (by decide)))
  have F77 := F65.other W67 (Or.inr (slot_ne (Or.inr (Own.wd hw 37 rfl)) (Or.inr (Own.wd hw 39 rfl)) (by decide) (t := .double) (t' := .double) (by decide) (by decide)))
  have F78 : Fld Z h67 a "com/example/swivel/swivel/Matrix3" "m23" "D" (.double p6) := Fld.same W67 F57
  have Z79 : n0 ≤ h67.size := by rw [W67.size]; exact Z66
  refine Own.aloadN X67 d5_39 rfl rfl ?_
  refine Own.dload X67 d5_40 rfl ?_
  refine Own.putF_ X67 d5_42 (host := "") (Or.inl (Own.wd hw 40 rfl)) Via.refl F70 F68 (Or.inr ⟨(Own.wd hw 41 rfl), rfl, rfl⟩) (Own.wd hw 2 rfl) (ty := .double) (by decide) rfl rfl ga fun T80 h80 X80 W80 => ?_
  have F81 := F68.wr W80
  have F82 := F69.wr W80 (Or.inl (List.mem_of_getElem? (i := 0) rfl))
  have F83 := F71.other W80 (Or.inr (slot_ne (Or.inr (Own.wd hw 43 rfl)) (Or.inr (Own.wd hw 41 rfl)) (by decide) (t := .double) (t' := .double) (by decide) (by decide)))
  have F84 := F72.other W80 (Or.inr (slot_ne (Or.inr (Own.wd hw 45 rfl)) (Or.inr (Own.wd hw 41 rfl)) (by decide) (t := .double) (t' := .double) (by decide) (by decide)))
  have F85 := F73.other W80 (Or.inr (slot_ne (Or.inr (Own.wd hw 29 rfl)) (Or.inr (Own.wd hw 41 rfl)) (by decide) (t := .double) (t' := .double) (by decide) (by decide)))
  have F86 := F74.other W80 (Or.inr (slot_ne (Or.inr (Own.wd hw 31 rfl)) (Or.inr (Own.wd hw 41 rfl)) (by decide) (t := .double) (t' := .double) (by decide) (by decide)))
  have F87 := F75.other W80 (Or.inr (slot_ne (Or.inr (Own.wd hw 33 rfl)) (Or.inr (Own.wd hw 41 rfl)) (by decide) (t := .double) (t' := .double) (by decide) (by decide)))
  have F88 := F76.other W80 (Or.inr (slot_ne (Or.inr (Own.wd hw 35 rfl)) (Or.inr (Own.wd hw 41 rfl)) (by decide) (t := .double) (t' := .double) (by decide) (by decide)))
  have F89 := F77.other W80 (Or.inr (slot_ne (Or.inr (Own.wd hw 37 rfl)) (Or.inr (Own.wd hw 41 rfl)) (by decide) (t := .double) (t' := .double) (by decide) (by decide)))
  have F90 := F78.other W80 (Or.inr (slot_ne (Or.inr (Own.wd hw 39 rfl)) (Or.inr (Own.wd hw 41 rfl)) (by decide) (t := .double) (t' := .double) (by decide) (by decide)))
  have F91 : Fld Z h80 a "com/example/swivel/swivel/Matrix3" "m31" "D" (.double p7) := Fld.same W80 F70
  have Z92 : n0 ≤ h80.size := by rw [W80.size]; exact Z79
  refine Own.aloadN X80 d5_45 rfl rfl ?_
  refine Own.dload X80 d5_46 rfl ?_
  refine Own.putF_ X80 d5_48 (host := "") (Or.inl (Own.wd hw 42 rfl)) Via.refl F83 F81 (Or.inr ⟨(Own.wd hw 43 rfl), rfl, rfl⟩) (Own.wd hw 2 rfl) (ty := .double) (by decide) rfl rfl ga fun T93 h93 X93 W93 => ?_
  have F94 := F81.wr W93
  have F95 := F82.wr W93 (Or.inl (List.mem_of_getElem? (i := 0) rfl))
  have F96 := F84.other W93 (Or.inr (slot_ne (Or.inr (Own.wd hw 45 rfl)) (Or.inr (Own.wd hw 43 rfl)) (by decide) (t := .double) (t' := .double) (by decide) (by decide)))
  have F97 := F85.other W93 (Or.inr (slot_ne (Or.inr (Own.wd hw 29 rfl)) (Or.inr (Own.wd hw 43 rfl)) (by decide) (t := .double) (t' := .double) (by decide) (by decide)))
  have F98 := F86.other W93 (Or.inr (slot_ne (Or.inr (Own.wd hw 31 rfl)) (Or.inr (Own.wd hw 43 rfl)) (by decide) (t := .double) (t' := .double) (by decide) (by decide)))
  have F99 := F87.other W93 (Or.inr (slot_ne (Or.inr (Own.wd hw 33 rfl)) (Or.inr (Own.wd hw 43 rfl)) (by decide) (t := .double) (t' := .double) (by decide) (by decide)))
  have F100 := F88.other W93 (Or.inr (slot_ne (Or.inr (Own.wd hw 35 rfl)) (Or.inr (Own.wd hw 43 rfl)) (by decide) (t := .double) (t' := .double) (by decide) (by decide)))
  have F101 := F89.other W93 (Or.inr (slot_ne (Or.inr (Own.wd hw 37 rfl)) (Or.inr (Own.wd hw 43 rfl)) (by decide) (t := .double) (t' := .double) (by decide) (by decide)))
  have F102 := F90.other W93 (Or.inr (slot_ne (Or.inr (Own.wd hw 39 rfl)) (Or.inr (Own.wd hw 43 rfl)) (by decide) (t := .double) (t' := .double) (by decide) (by decide)))
  have F103 := F91.other W93 (Or.inr (slot_ne (Or.inr (Own.wd hw 41 rfl)) (Or.inr (Own.wd hw 43 rfl)) (by decide) (t := .double) (t' := .double) (by decide) (by decide)))
  have F104 : Fld Z h93 a "com/example/swivel/swivel/Matrix3" "m32" "D" (.double p8) := Fld.same W93 F83
  have Z105 : n0 ≤ h93.size := by rw [W93.size]; exact Z92
  refine Own.aloadN X93 d5_51 rfl rfl ?_
  refine Own.dload X93 d5_52 rfl ?_
  refine Own.putF_ X93 d5_54 (host := "") (Or.inl (Own.wd hw 44 rfl)) Via.refl F96 F94 (Or.inr ⟨(Own.wd hw 45 rfl), rfl, rfl⟩) (Own.wd hw 2 rfl) (ty := .double) (by decide) rfl rfl ga fun T106 h106 X106 W106 => ?_
  have F107 := F94.wr W106
  have F108 := F95.wr W106 (Or.inl (List.mem_of_getElem? (i := 0) rfl))
  have F109 := F97.other W106 (Or.inr (slot_ne (Or.inr (Own.wd hw 29 rfl)) (Or.inr (Own.wd hw 45 rfl)) (by decide) (t := .double) (t' := .double) (by decide) (by decide)))
  have F110 := F98.other W106 (Or.inr (slot_ne (Or.inr (Own.wd hw 31 rfl)) (Or.inr (Own.wd hw 45 rfl)) (by decide) (t := .double) (t' := .double) (by decide) (by decide)))
  have F111 := F99.other W106 (Or.inr (slot_ne (Or.inr (Own.wd hw 33 rfl)) (Or.inr (Own.wd hw 45 rfl)) (by decide) (t := .double) (t' := .double) (by decide) (by decide)))
  have F112 := F100.other W106 (Or.inr (slot_ne (Or.inr (Own.wd hw 35 rfl)) (Or.inr (Own.wd hw 45 rfl)) (by decide) (t := .double) (t' := .double) (by decide) (by decide)))
  have F113 := F101.other W106 (Or.inr (slot_ne (Or.inr (Own.wd hw 37 rfl)) (Or.inr (Own.wd hw 45 rfl)) (by decide) (t := .double) (t' := .double) (by decide) (by decide)))
  have F114 := F102.other W106 (Or.inr (slot_ne (Or.inr (Own.wd hw 39 rfl)) (Or.inr (Own.wd hw 45 rfl)) (by decide) (t := .double) (t' := .double) (by decide) (by decide)))
  have F115 := F103.other W106 (Or.inr (slot_ne (Or.inr (Own.wd hw 41 rfl)) (Or.inr (Own.wd hw 45 rfl)) (by decide) (t := .double) (t' := .double) (by decide) (by decide)))
  have F116 := F104.other W106 (Or.inr (slot_ne (Or.inr (Own.wd hw 43 rfl)) (Or.inr (Own.wd hw 45 rfl)) (by decide) (t := .double) (t' := .double) (by decide) (by decide)))
  have F117 : Fld Z h106 a "com/example/swivel/swivel/Matrix3" "m33" "D" (.double p9) := Fld.same W106 F96
  have Z118 : n0 ≤ h106.size := by rw [W106.size]; exact Z105
  exact Own.retV X106 d5_57 ⟨rfl, F108, F109, F110, F111, F112, F113, F114, F115, F116, F117⟩ (by decide) (by decide)
theorem ef_1 (m : MethodId) (x0 : Addr) (x1 : UInt64) (x2 : UInt64) (x3 : UInt64) (x4 : UInt64) (x5 : UInt64) (x6 : UInt64) (x7 : UInt64) (x8 : UInt64) (x9 : UInt64) : entryFrame m #[.ref x0, .double x1, .double x2, .double x3, .double x4, .double x5, .double x6, .double x7, .double x8, .double x9] 19 = mkF m 0 #[.val (.ref x0), .val (.double x1), .second, .val (.double x2), .second, .val (.double x3), .second, .val (.double x4), .second, .val (.double x5), .second, .val (.double x6), .second, .val (.double x7), .second, .val (.double x8), .second, .val (.double x9), .second] [] := by first | (simp [entryFrame, mkF, argsToLocals, Value.category, maxLocals]; done) | rfl
set_option maxRecDepth 65536 in
set_option maxHeartbeats 40000000 in
theorem rm1 (l : Launch) (Z : State) (a0 : Array Value) (hw : ∀ d ∈ tables_1, d.before a0 Z = true) (a : Addr) (p1 : UInt64) (p2 : UInt64) (p3 : UInt64) (p4 : UInt64) (p5 : UInt64) (p6 : UInt64) (p7 : UInt64) (p8 : UInt64) (p9 : UInt64) (fe : Addr) (h0 : Heap) (n0 : Nat) (Z0 : n0 ≤ h0.size) (ga : n0 ≤ a) (Ea : Exa Z h0 a "com/example/swivel/swivel/Matrix3") (F0_m11 : Fld Z h0 a "com/example/swivel/swivel/Matrix3" "m11" "D" (.double 0)) (F0_m12 : Fld Z h0 a "com/example/swivel/swivel/Matrix3" "m12" "D" (.double 0)) (F0_m13 : Fld Z h0 a "com/example/swivel/swivel/Matrix3" "m13" "D" (.double 0)) (F0_m21 : Fld Z h0 a "com/example/swivel/swivel/Matrix3" "m21" "D" (.double 0)) (F0_m22 : Fld Z h0 a "com/example/swivel/swivel/Matrix3" "m22" "D" (.double 0)) (F0_m23 : Fld Z h0 a "com/example/swivel/swivel/Matrix3" "m23" "D" (.double 0)) (F0_m31 : Fld Z h0 a "com/example/swivel/swivel/Matrix3" "m31" "D" (.double 0)) (F0_m32 : Fld Z h0 a "com/example/swivel/swivel/Matrix3" "m32" "D" (.double 0)) (F0_m33 : Fld Z h0 a "com/example/swivel/swivel/Matrix3" "m33" "D" (.double 0)) (B_p1 : Own.Bd p1 8589934592) (B_p2 : Own.Bd p2 8589934592) (B_p3 : Own.Bd p3 8589934592) (B_p4 : Own.Bd p4 8589934592) (B_p5 : Own.Bd p5 8589934592) (B_p6 : Own.Bd p6 8589934592) (B_p7 : Own.Bd p7 8589934592) (B_p8 : Own.Bd p8 8589934592) (B_p9 : Own.Bd p9 8589934592) (S_F : Sta Z h0 "com/example/swivel/swivel/Matrix3$Entries" "FINITE" "Lcom/example/swivel/swivel/Matrix3$Entries;" (.ref fe)) :
    Own.Con l Z mn_7 [] prog_6_method_1_code 19 none ({ frames := 3, cells := 0, slots := 0, locals := 56 } : Room) #[.ref a, .double p1, .double p2, .double p3, .double p4, .double p5, .double p6, .double p7, .double p8, .double p9] h0 n0 (fun v h => v = none ∧ Keep h0 h [a] ∧ Fld Z h a "com/example/swivel/swivel/Matrix3" "m11" "D" (.double p1) ∧ Fld Z h a "com/example/swivel/swivel/Matrix3" "m12" "D" (.double p2) ∧ Fld Z h a "com/example/swivel/swivel/Matrix3" "m13" "D" (.double p3) ∧ Fld Z h a "com/example/swivel/swivel/Matrix3" "m21" "D" (.double p4) ∧ Fld Z h a "com/example/swivel/swivel/Matrix3" "m22" "D" (.double p5) ∧ Fld Z h a "com/example/swivel/swivel/Matrix3" "m23" "D" (.double p6) ∧ Fld Z h a "com/example/swivel/swivel/Matrix3" "m31" "D" (.double p7) ∧ Fld Z h a "com/example/swivel/swivel/Matrix3" "m32" "D" (.double p8) ∧ Fld Z h a "com/example/swivel/swivel/Matrix3" "m33" "D" (.double p9)) := by
  refine Own.enter (own := "com/example/swivel/swivel/Matrix3") (nm := "<init>") (plainFor_of_name pn_com_example_swivel_swivel_Matrix3) rfl rfl (fun m => ef_1 m a p1 p2 p3 p4 p5 p6 p7 p8 p9) fun p e s m below meth c T X => ?_
  refine Own.aloadN X d1_0 rfl rfl ?_
  refine Own.dloadN X d1_1 rfl ?_
  refine Own.dloadN X d1_2 rfl ?_
  refine Own.dload X d1_3 rfl ?_
  refine Own.dload X d1_5 rfl ?_
  refine Own.dload X d1_7 rfl ?_
  refine Own.dload X d1_9 rfl ?_
  refine Own.dload X d1_11 rfl ?_
  refine Own.dload X d1_13 rfl ?_
  refine Own.dload X d1_15 rfl ?_
  refine Own.callS_ (y := mn_3) X d1_17 (Own.wd hw 7 rfl) (Own.wd hw 8 rfl) (Own.wd hw 3 rfl) (Own.wd hw 9 rfl) (by decide) (rm2 l Z a0 hw p1 p2 p3 p4 p5 p6 p7 p8 p9 fe h0 n0 Z0  B_p1 B_p2 B_p3 B_p4 B_p5 B_p6 B_p7 B_p8 B_p9 S_F) (lenOf pd_5 rfl) rfl (argsL := [.double p1, .double p2, .double p3, .double p4, .double p5, .double p6, .double p7, .double p8, .double p9]) (rest := [.ref a]) rfl (W := 1) (Nat.le_of_eq rfl) (by decide) (by decide) (by decide) (by decide) fun T1 h1 v1 X1 q1 => ?_
  obtain ⟨rfl, rfl⟩ := q1
  show Own.Go p e below s n0 _ _ _ (T1.setTop (mkF m 20 _ [.ref fe, .ref a]))
  refine Own.dloadN X1 d1_20 rfl ?_
  refine Own.dloadN X1 d1_21 rfl ?_
  refine Own.dload X1 d1_22 rfl ?_
  refine Own.dload X1 d1_24 rfl ?_
  refine Own.dload X1 d1_26 rfl ?_
  refine Own.dload X1 d1_28 rfl ?_
  refine Own.dload X1 d1_30 rfl ?_
  refine Own.dload X1 d1_32 rfl ?_
  refine Own.dload X1 d1_34 rfl ?_
  refine Own.callI_ (y := mn_4) (a := a) X1 d1_36 rfl (Own.wd hw 22 rfl) (Own.wd hw 23 rfl) (Own.wd hw 3 rfl) (Own.wd hw 24 rfl) (by decide) (rm5 l Z a0 hw a fe p1 p2 p3 p4 p5 p6 p7 p8 p9 h0 n0 Z0 ga Ea F0_m11 F0_m12 F0_m13 F0_m21 F0_m22 F0_m23 F0_m31 F0_m32 F0_m33) (lenOf pd_6 rfl) rfl (argsL := [.ref fe, .double p1, .double p2, .double p3, .double p4, .double p5, .double p6, .double p7, .double p8, .double p9]) (rest := []) rfl (W := 0) (Nat.le_of_eq rfl) (by decide) (by decide) (by decide) (by decide) fun T2 h2 v2 X2 q2 => ?_
  obtain ⟨rfl, K2, G2_0, G2_1, G2_2, G2_3, G2_4, G2_5, G2_6, G2_7, G2_8⟩ := q2
  have F3 := Ea.keep K2
  have F4 := (Keep.refl h0 [a]).trans K2 (allS (Or.inl (List.mem_of_getElem? (i := 0) rfl)) all0)
  have Z5 : n0 ≤ h2.size := Nat.le_trans Z0 K2.1
  show Own.Go p e below s n0 _ _ _ (T2.setTop (mkF m 39 _ []))
  exact Own.retV X2 d1_39 ⟨rfl, F4, G2_0, G2_1, G2_2, G2_3, G2_4, G2_5, G2_6, G2_7, G2_8⟩ (by decide) (by decide)
theorem ef_7 (m : MethodId) (x0 : Addr) : entryFrame m #[.ref x0] 1 = mkF m 0 #[.val (.ref x0)] [] := by first | (simp [entryFrame, mkF, argsToLocals, Value.category, maxLocals]; done) | rfl
set_option maxRecDepth 65536 in
set_option maxHeartbeats 40000000 in
theorem rm7 (l : Launch) (Z : State) (a0 : Array Value) (hw : ∀ d ∈ tables_1, d.before a0 Z = true) (a : Addr) (u11 : UInt64) (u12 : UInt64) (u13 : UInt64) (u21 : UInt64) (u22 : UInt64) (u23 : UInt64) (u31 : UInt64) (u32 : UInt64) (u33 : UInt64) (h0 : Heap) (n0 : Nat) (Z0 : n0 ≤ h0.size) (F_m11 : Fld Z h0 a "com/example/swivel/swivel/Matrix3" "m11" "D" (.double u11)) (F_m12 : Fld Z h0 a "com/example/swivel/swivel/Matrix3" "m12" "D" (.double u12)) (F_m13 : Fld Z h0 a "com/example/swivel/swivel/Matrix3" "m13" "D" (.double u13)) (F_m21 : Fld Z h0 a "com/example/swivel/swivel/Matrix3" "m21" "D" (.double u21)) (F_m22 : Fld Z h0 a "com/example/swivel/swivel/Matrix3" "m22" "D" (.double u22)) (F_m23 : Fld Z h0 a "com/example/swivel/swivel/Matrix3" "m23" "D" (.double u23)) (F_m31 : Fld Z h0 a "com/example/swivel/swivel/Matrix3" "m31" "D" (.double u31)) (F_m32 : Fld Z h0 a "com/example/swivel/swivel/Matrix3" "m32" "D" (.double u32)) (F_m33 : Fld Z h0 a "com/example/swivel/swivel/Matrix3" "m33" "D" (.double u33)) :
    Own.Con l Z mn_8 [] prog_6_method_14_code 1 (some (.array (.array .double))) ({ frames := 0, cells := 4, slots := 12, locals := 0 } : Room) #[.ref a] h0 n0 (fun v h => ∃ (ro rw0 rw1 rw2 : Addr) (k_ro k_rw0 k_rw1 k_rw2 : ClassId), v = some (.ref ro) ∧ h0.size ≤ ro ∧ h0.size ≤ rw0 ∧ h0.size ≤ rw1 ∧ h0.size ≤ rw2 ∧ ro ≠ rw0 ∧ ro ≠ rw1 ∧ ro ≠ rw2 ∧ rw0 ≠ rw1 ∧ rw0 ≠ rw2 ∧ rw1 ≠ rw2 ∧ Keep h0 h [] ∧ Arv Z h ro k_ro (.array .double) (3 : Int32) [.ref rw0, .ref rw1, .ref rw2] (.null) ∧ Arv Z h rw0 k_rw0 .double (3 : Int32) [.double u11, .double u12, .double u13] (.double 0) ∧ Arv Z h rw1 k_rw1 .double (3 : Int32) [.double u21, .double u22, .double u23] (.double 0) ∧ Arv Z h rw2 k_rw2 .double (3 : Int32) [.double u31, .double u32, .double u33] (.double 0)) := by
  refine Own.enter (own := "com/example/swivel/swivel/Matrix3") (nm := "rows") (plainFor_of_name pn_com_example_swivel_swivel_Matrix3) rfl rfl (fun m => ef_7 m a) fun p e s m below meth c T X => ?_
  refine Own.iconst X (v := 3) d7_0 rfl ?_
  refine Own.newRA_ (ty := .double) X (cap := 3) (ad := "[[D") d7_1 (by decide) (by decide) (Own.wd hw 51 rfl) (Own.wd hw 52 rfl) (by decide) (by decide) (by decide) (by decide) (by decide) fun T1 h1 ro k_ro g_ro X1 E1 V1 A1 O1 => ?_
  have ne2 : a ≠ ro := Nat.ne_of_lt (Nat.lt_of_lt_of_le F_m11.lt (Nat.le_of_eq g_ro.symm))
  have fr3 : n0 ≤ ro := Nat.le_trans Z0 (Nat.le_of_eq g_ro.symm)
  have bn4 : h0.size ≤ ro := Nat.le_trans (Keep.refl h0 []).1 (Nat.le_of_eq g_ro.symm)
  have F5 := F_m11.ext E1
  have F6 := F_m12.ext E1
  have F7 := F_m13.ext E1
  have F8 := F_m21.ext E1
  have F9 := F_m22.ext E1
  have F10 := F_m23.ext E1
  have F11 := F_m31.ext E1
  have F12 := F_m32.ext E1
  have F13 := F_m33.ext E1
  have F14 := (Keep.refl h0 []).ext E1
  have Z15 : n0 ≤ h1.size := Nat.le_trans Z0 E1.1
  have V16 : Arv Z h1 ro k_ro (.array .double) (3 : Int32) [.null, .null, .null] (.null) := V1.pad (pad_rep [] .null 3)
  refine Own.dup X1 d7_4 rfl ?_
  refine Own.iconst X1 (v := 0) d7_5 rfl ?_
  refine Own.iconst X1 (v := 3) d7_6 rfl ?_
  refine Own.newP_ X1 (cap := 3) (ty := .double) (dv := .double 0) (ad := "[D") d7_7 rfl rfl (by decide) (Own.wd hw 0 rfl) (by decide) (by decide) (by decide) (by decide) (by decide) fun T17 h17 rw0 k_rw0 g_rw0 X17 E17 V17 A17 => ?_
  have ne18 : a ≠ rw0 := Nat.ne_of_lt (Nat.lt_of_lt_of_le F5.lt (Nat.le_of_eq g_rw0.symm))
  have ne19 : ro ≠ rw0 := Nat.ne_of_lt (Nat.lt_of_lt_of_le A1.lt (Nat.le_of_eq g_rw0.symm))
  have fr20 : n0 ≤ rw0 := Nat.le_trans Z15 (Nat.le_of_eq g_rw0.symm)
  have bn21 : h0.size ≤ rw0 := Nat.le_trans F14.1 (Nat.le_of_eq g_rw0.symm)
  have F22 := F5.ext E17
  have F23 := F6.ext E17
  have F24 := F7.ext E17
  have F25 := F8.ext E17
  have F26 := F9.ext E17
  have F27 := F10.ext E17
  have F28 := F11.ext E17
  have F29 := F12.ext E17
  have F30 := F13.ext E17
  have F31 := F14.ext E17
  have F32 := A1.ext E17
  have F33 := V16.ext E17
  have Z34 : n0 ≤ h17.size := Nat.le_trans Z15 E17.1
  have V35 : Arv Z h17 rw0 k_rw0 .double (3 : Int32) [.double 0, .double 0, .double 0] (.double 0) := V17.pad (pad_rep [] (.double 0) 3)
  refine Own.dup X17 d7_9 rfl ?_
  refine Own.iconst X17 (v := 0) d7_10 rfl ?_
  refine Own.aloadN X17 d7_11 rfl rfl ?_
  refine Own.getF_ X17 d7_12 (host := "") (Or.inl (Own.wd hw 28 rfl)) Via.refl F22 fun T36 X36 => ?_
  refine Own.dastore_ X36 (i := 0) d7_15 V35 (by decide) rfl (Nat.le_of_ble_eq_true rfl) fr20 fun T37 h37 X37 W37 V37 => ?_
  have F38 := F22.other W37 (Or.inl ne18)
  have F39 := F23.other W37 (Or.inl ne18)
  have F40 := F24.other W37 (Or.inl ne18)
  have F41 := F25.other W37 (Or.inl ne18)
  have F42 := F26.other W37 (Or.inl ne18)
  have F43 := F27.other W37 (Or.inl ne18)
  have F44 := F28.other W37 (Or.inl ne18)
  have F45 := F29.other W37 (Or.inl ne18)
  have F46 := F30.other W37 (Or.inl ne18)
  have F47 := F31.wr W37 (Or.inr bn21)
  have F48 := F32.wr W37
  have F49 := F33.other W37 ne19
  have F50 := A17.wr W37
  have Z51 : n0 ≤ h37.size := by rw [W37.size]; exact Z34
  have V52 : Arv Z h37 rw0 k_rw0 .double (3 : Int32) [.double u11, .double 0, .double 0] (.double 0) := V37
  refine Own.dup X37 d7_16 rfl ?_
  refine Own.iconst X37 (v := 1) d7_17 rfl ?_
  refine Own.aloadN X37 d7_18 rfl rfl ?_
  refine Own.getF_ X37 d7_19 (host := "") (Or.inl (Own.wd hw 30 rfl)) Via.refl F39 fun T53 X53 => ?_
  refine Own.dastore_ X53 (i := 1) d7_22 V52 (by decide) rfl (Nat.le_of_ble_eq_true rfl) fr20 fun T54 h54 X54 W54 V54 => ?_
  have F55 := F38.other W54 (Or.inl ne18)
  have F56 := F39.other W54 (Or.inl ne18)
  have F57 := F40.other W54 (Or.inl ne18)
  have F58 := F41.other W54 (Or.inl ne18)
  have F59 := F42.other W54 (Or.inl ne18)
  have F60 := F43.other W54 (Or.inl ne18)
  have F61 := F44.other W54 (Or.inl ne18)
  have F62 := F45.other W54 (Or.inl ne18)
  have F63 := F46.other W54 (Or.inl ne18)
  have F64 := F47.wr W54 (Or.inr bn21)
  have F65 := F48.wr W54
  have F66 := F49.other W54 ne19
  have F67 := F50.wr W54
  have Z68 : n0 ≤ h54.size := by rw [W54.size]; exact Z51
  have V69 : Arv Z h54 rw0 k_rw0 .double (3 : Int32) [.double u11, .double u12, .double 0] (.double 0) := V54
  refine Own.dup X54 d7_23 rfl ?_
  refine Own.iconst X54 (v := 2) d7_24 rfl ?_
  refine Own.aloadN X54 d7_25 rfl rfl ?_
  refine Own.getF_ X54 d7_26 (host := "") (Or.inl (Own.wd hw 32 rfl)) Via.refl F57 fun T70 X70 => ?_
  refine Own.dastore_ X70 (i := 2) d7_29 V69 (by decide) rfl (Nat.le_of_ble_eq_true rfl) fr20 fun T71 h71 X71 W71 V71 => ?_
  have F72 := F55.other W71 (Or.inl ne18)
  have F73 := F56.other W71 (Or.inl ne18)
  have F74 := F57.other W71 (Or.inl ne18)
  have F75 := F58.other W71 (Or.inl ne18)
  have F76 := F59.other W71 (Or.inl ne18)
  have F77 := F60.other W71 (Or.inl ne18)
  have F78 := F61.other W71 (Or.inl ne18)
  have F79 := F62.other W71 (Or.inl ne18)
  have F80 := F63.other W71 (Or.inl ne18)
  have F81 := F64.wr W71 (Or.inr bn21)
  have F82 := F65.wr W71
  have F83 := F66.other W71 ne19
  have F84 := F67.wr W71
  have Z85 : n0 ≤ h71.size := by rw [W71.size]; exact Z68
  have V86 : Arv Z h71 rw0 k_rw0 .double (3 : Int32) [.double u11, .double u12, .double u13] (.double 0) := V71
  refine Own.aastore_ X71 (i := 0) d7_30 F83 rfl (by decide) rfl (Nat.le_of_ble_eq_true rfl) fr3 rfl (fun cl A' q' => Sto.ofVA A' q' O1 (Ins.self F84)) fun T87 h87 X87 W87 V87 => ?_
  have F88 := F72.other W87 (Or.inl ne2)
  have F89 := F73.other W87 (Or.inl ne2)
  have F90 := F74.other W87 (Or.inl ne2)
  have F91 := F75.other W87 (Or.inl ne2)
  have F92 := F76.other W87 (Or.inl ne2)
  have F93 := F77.other W87 (Or.inl ne2)
  have F94 := F78.other W87 (Or.inl ne2)
  have F95 := F79.other W87 (Or.inl ne2)
  have F96 := F80.other W87 (Or.inl ne2)
  have F97 := F81.wr W87 (Or.inr bn4)
  have F98 := F82.wr W87
  have F99 := F84.wr W87
  have F100 := V86.other W87 (Ne.symm ne19)
  have Z101 : n0 ≤ h87.size := by rw [W87.size]; exact Z85
  have V102 : Arv Z h87 ro k_ro (.array .double) (3 : Int32) [.ref rw0, .null, .null] (.null) := V87
  refine Own.dup X87 d7_31 rfl ?_
  refine Own.iconst X87 (v := 1) d7_32 rfl ?_
  refine Own.iconst X87 (v := 3) d7_33 rfl ?_
  refine Own.newP_ X87 (cap := 3) (ty := .double) (dv := .double 0) (ad := "[D") d7_34 rfl rfl (by decide) (Own.wd hw 0 rfl) (by decide) (by decide) (by decide) (by decide) (by decide) fun T103 h103 rw1 k_rw1 g_rw1 X103 E103 V103 A103 => ?_
  have ne104 : a ≠ rw1 := Nat.ne_of_lt (Nat.lt_of_lt_of_le F88.lt (Nat.le_of_eq g_rw1.symm))
  have ne105 : ro ≠ rw1 := Nat.ne_of_lt (Nat.lt_of_lt_of_le F98.lt (Nat.le_of_eq g_rw1.symm))
  have ne106 : rw0 ≠ rw1 := Nat.ne_of_lt (Nat.lt_of_lt_of_le F99.lt (Nat.le_of_eq g_rw1.symm))
  have fr107 : n0 ≤ rw1 := Nat.le_trans Z101 (Nat.le_of_eq g_rw1.symm)
  have bn108 : h0.size ≤ rw1 := Nat.le_trans F97.1 (Nat.le_of_eq g_rw1.symm)
  have F109 := F88.ext E103
  have F110 := F89.ext E103
  have F111 := F90.ext E103
  have F112 := F91.ext E103
  have F113 := F92.ext E103
  have F114 := F93.ext E103
  have F115 := F94.ext E103
  have F116 := F95.ext E103
  have F117 := F96.ext E103
  have F118 := F97.ext E103
  have F119 := F98.ext E103
  have F120 := F99.ext E103
  have F121 := F100.ext E103
  have F122 := V102.ext E103
  have Z123 : n0 ≤ h103.size := Nat.le_trans Z101 E103.1
  have V124 : Arv Z h103 rw1 k_rw1 .double (3 : Int32) [.double 0, .double 0, .double 0] (.double 0) := V103.pad (pad_rep [] (.double 0) 3)
  refine Own.dup X103 d7_36 rfl ?_
  refine Own.iconst X103 (v := 0) d7_37 rfl ?_
  refine Own.aloadN X103 d7_38 rfl rfl ?_
  refine Own.getF_ X103 d7_39 (host := "") (Or.inl (Own.wd hw 34 rfl)) Via.refl F112 fun T125 X125 => ?_
  refine Own.dastore_ X125 (i := 0) d7_42 V124 (by decide) rfl (Nat.le_of_ble_eq_true rfl) fr107 fun T126 h126 X126 W126 V126 => ?_
  have F127 := F109.other W126 (Or.inl ne104)
  have F128 := F110.other W126 (Or.inl ne104)
  have F129 := F111.other W126 (Or.inl ne104)
  have F130 := F112.other W126 (Or.inl ne104)
  have F131 := F113.other W126 (Or.inl ne104)
  have F132 := F114.other W126 (Or.inl ne104)
  have F133 := F115.other W126 (Or.inl ne104)
  have F134 := F116.other W126 (Or.inl ne104)
  have F135 := F117.other W126 (Or.inl ne104)
  have F136 := F118.wr W126 (Or.inr bn108)
  have F137 := F119.wr W126
  have F138 := F120.wr W126
  have F139 := F121.other W126 ne106
  have F140 := F122.other W126 ne105
  have F141 := A103.wr W126
  have Z142 : n0 ≤ h126.size := by rw [W126.size]; exact Z123
  have V143 : Arv Z h126 rw1 k_rw1 .double (3 : Int32) [.double u21, .double 0, .double 0] (.double 0) := V126
  refine Own.dup X126 d7_43 rfl ?_
  refine Own.iconst X126 (v := 1) d7_44 rfl ?_
  refine Own.aloadN X126 d7_45 rfl rfl ?_
  refine Own.getF_ X126 d7_46 (host := "") (Or.inl (Own.wd hw 36 rfl)) Via.refl F131 fun T144 X144 => ?_
  refine Own.dastore_ X144 (i := 1) d7_49 V143 (by decide) rfl (Nat.le_of_ble_eq_true rfl) fr107 fun T145 h145 X145 W145 V145 => ?_
  have F146 := F127.other W145 (Or.inl ne104)
  have F147 := F128.other W145 (Or.inl ne104)
  have F148 := F129.other W145 (Or.inl ne104)
  have F149 := F130.other W145 (Or.inl ne104)
  have F150 := F131.other W145 (Or.inl ne104)
  have F151 := F132.other W145 (Or.inl ne104)
  have F152 := F133.other W145 (Or.inl ne104)
  have F153 := F134.other W145 (Or.inl ne104)
  have F154 := F135.other W145 (Or.inl ne104)
  have F155 := F136.wr W145 (Or.inr bn108)
  have F156 := F137.wr W145
  have F157 := F138.wr W145
  have F158 := F139.other W145 ne106
  have F159 := F140.other W145 ne105
  have F160 := F141.wr W145
  have Z161 : n0 ≤ h145.size := by rw [W145.size]; exact Z142
  have V162 : Arv Z h145 rw1 k_rw1 .double (3 : Int32) [.double u21, .double u22, .double 0] (.double 0) := V145
  refine Own.dup X145 d7_50 rfl ?_
  refine Own.iconst X145 (v := 2) d7_51 rfl ?_
  refine Own.aloadN X145 d7_52 rfl rfl ?_
  refine Own.getF_ X145 d7_53 (host := "") (Or.inl (Own.wd hw 38 rfl)) Via.refl F151 fun T163 X163 => ?_
  refine Own.dastore_ X163 (i := 2) d7_56 V162 (by decide) rfl (Nat.le_of_ble_eq_true rfl) fr107 fun T164 h164 X164 W164 V164 => ?_
  have F165 := F146.other W164 (Or.inl ne104)
  have F166 := F147.other W164 (Or.inl ne104)
  have F167 := F148.other W164 (Or.inl ne104)
  have F168 := F149.other W164 (Or.inl ne104)
  have F169 := F150.other W164 (Or.inl ne104)
  have F170 := F151.other W164 (Or.inl ne104)
  have F171 := F152.other W164 (Or.inl ne104)
  have F172 := F153.other W164 (Or.inl ne104)
  have F173 := F154.other W164 (Or.inl ne104)
  have F174 := F155.wr W164 (Or.inr bn108)
  have F175 := F156.wr W164
  have F176 := F157.wr W164
  have F177 := F158.other W164 ne106
  have F178 := F159.other W164 ne105
  have F179 := F160.wr W164
  have Z180 : n0 ≤ h164.size := by rw [W164.size]; exact Z161
  have V181 : Arv Z h164 rw1 k_rw1 .double (3 : Int32) [.double u21, .double u22, .double u23] (.double 0) := V164
  refine Own.aastore_ X164 (i := 1) d7_57 F178 rfl (by decide) rfl (Nat.le_of_ble_eq_true rfl) fr3 rfl (fun cl A' q' => Sto.ofVA A' q' O1 (Ins.self F179)) fun T182 h182 X182 W182 V182 => ?_
  have F183 := F165.other W182 (Or.inl ne2)
  have F184 := F166.other W182 (Or.inl ne2)
  have F185 := F167.other W182 (Or.inl ne2)
  have F186 := F168.other W182 (Or.inl ne2)
  have F187 := F169.other W182 (Or.inl ne2)
  have F188 := F170.other W182 (Or.inl ne2)
  have F189 := F171.other W182 (Or.inl ne2)
  have F190 := F172.other W182 (Or.inl ne2)
  have F191 := F173.other W182 (Or.inl ne2)
  have F192 := F174.wr W182 (Or.inr bn4)
  have F193 := F175.wr W182
  have F194 := F176.wr W182
  have F195 := F177.other W182 (Ne.symm ne19)
  have F196 := F179.wr W182
  have F197 := V181.other W182 (Ne.symm ne105)
  have Z198 : n0 ≤ h182.size := by rw [W182.size]; exact Z180
  have V199 : Arv Z h182 ro k_ro (.array .double) (3 : Int32) [.ref rw0, .ref rw1, .null] (.null) := V182
  refine Own.dup X182 d7_58 rfl ?_
  refine Own.iconst X182 (v := 2) d7_59 rfl ?_
  refine Own.iconst X182 (v := 3) d7_60 rfl ?_
  refine Own.newP_ X182 (cap := 3) (ty := .double) (dv := .double 0) (ad := "[D") d7_61 rfl rfl (by decide) (Own.wd hw 0 rfl) (by decide) (by decide) (by decide) (by decide) (by decide) fun T200 h200 rw2 k_rw2 g_rw2 X200 E200 V200 A200 => ?_
  have ne201 : a ≠ rw2 := Nat.ne_of_lt (Nat.lt_of_lt_of_le F183.lt (Nat.le_of_eq g_rw2.symm))
  have ne202 : ro ≠ rw2 := Nat.ne_of_lt (Nat.lt_of_lt_of_le F193.lt (Nat.le_of_eq g_rw2.symm))
  have ne203 : rw0 ≠ rw2 := Nat.ne_of_lt (Nat.lt_of_lt_of_le F194.lt (Nat.le_of_eq g_rw2.symm))
  have ne204 : rw1 ≠ rw2 := Nat.ne_of_lt (Nat.lt_of_lt_of_le F196.lt (Nat.le_of_eq g_rw2.symm))
  have fr205 : n0 ≤ rw2 := Nat.le_trans Z198 (Nat.le_of_eq g_rw2.symm)
  have bn206 : h0.size ≤ rw2 := Nat.le_trans F192.1 (Nat.le_of_eq g_rw2.symm)
  have F207 := F183.ext E200
  have F208 := F184.ext E200
  have F209 := F185.ext E200
  have F210 := F186.ext E200
  have F211 := F187.ext E200
  have F212 := F188.ext E200
  have F213 := F189.ext E200
  have F214 := F190.ext E200
  have F215 := F191.ext E200
  have F216 := F192.ext E200
  have F217 := F193.ext E200
  have F218 := F194.ext E200
  have F219 := F195.ext E200
  have F220 := F196.ext E200
  have F221 := F197.ext E200
  have F222 := V199.ext E200
  have Z223 : n0 ≤ h200.size := Nat.le_trans Z198 E200.1
  have V224 : Arv Z h200 rw2 k_rw2 .double (3 : Int32) [.double 0, .double 0, .double 0] (.double 0) := V200.pad (pad_rep [] (.double 0) 3)
  refine Own.dup X200 d7_63 rfl ?_
  refine Own.iconst X200 (v := 0) d7_64 rfl ?_
  refine Own.aloadN X200 d7_65 rfl rfl ?_
  refine Own.getF_ X200 d7_66 (host := "") (Or.inl (Own.wd hw 40 rfl)) Via.refl F213 fun T225 X225 => ?_
  refine Own.dastore_ X225 (i := 0) d7_69 V224 (by decide) rfl (Nat.le_of_ble_eq_true rfl) fr205 fun T226 h226 X226 W226 V226 => ?_
  have F227 := F207.other W226 (Or.inl ne201)
  have F228 := F208.other W226 (Or.inl ne201)
  have F229 := F209.other W226 (Or.inl ne201)
  have F230 := F210.other W226 (Or.inl ne201)
  have F231 := F211.other W226 (Or.inl ne201)
  have F232 := F212.other W226 (Or.inl ne201)
  have F233 := F213.other W226 (Or.inl ne201)
  have F234 := F214.other W226 (Or.inl ne201)
  have F235 := F215.other W226 (Or.inl ne201)
  have F236 := F216.wr W226 (Or.inr bn206)
  have F237 := F217.wr W226
  have F238 := F218.wr W226
  have F239 := F219.other W226 ne203
  have F240 := F220.wr W226
  have F241 := F221.other W226 ne204
  have F242 := F222.other W226 ne202
  have F243 := A200.wr W226
  have Z244 : n0 ≤ h226.size := by rw [W226.size]; exact Z223
  have V245 : Arv Z h226 rw2 k_rw2 .double (3 : Int32) [.double u31, .double 0, .double 0] (.double 0) := V226
  refine Own.dup X226 d7_70 rfl ?_
  refine Own.iconst X226 (v := 1) d7_71 rfl ?_
  refine Own.aloadN X226 d7_72 rfl rfl ?_
  refine Own.getF_ X226 d7_73 (host := "") (Or.inl (Own.wd hw 42 rfl)) Via.refl F234 fun T246 X246 => ?_
  refine Own.dastore_ X246 (i := 1) d7_76 V245 (by decide) rfl (Nat.le_of_ble_eq_true rfl) fr205 fun T247 h247 X247 W247 V247 => ?_
  have F248 := F227.other W247 (Or.inl ne201)
  have F249 := F228.other W247 (Or.inl ne201)
  have F250 := F229.other W247 (Or.inl ne201)
  have F251 := F230.other W247 (Or.inl ne201)
  have F252 := F231.other W247 (Or.inl ne201)
  have F253 := F232.other W247 (Or.inl ne201)
  have F254 := F233.other W247 (Or.inl ne201)
  have F255 := F234.other W247 (Or.inl ne201)
  have F256 := F235.other W247 (Or.inl ne201)
  have F257 := F236.wr W247 (Or.inr bn206)
  have F258 := F237.wr W247
  have F259 := F238.wr W247
  have F260 := F239.other W247 ne203
  have F261 := F240.wr W247
  have F262 := F241.other W247 ne204
  have F263 := F242.other W247 ne202
  have F264 := F243.wr W247
  have Z265 : n0 ≤ h247.size := by rw [W247.size]; exact Z244
  have V266 : Arv Z h247 rw2 k_rw2 .double (3 : Int32) [.double u31, .double u32, .double 0] (.double 0) := V247
  refine Own.dup X247 d7_77 rfl ?_
  refine Own.iconst X247 (v := 2) d7_78 rfl ?_
  refine Own.aloadN X247 d7_79 rfl rfl ?_
  refine Own.getF_ X247 d7_80 (host := "") (Or.inl (Own.wd hw 44 rfl)) Via.refl F256 fun T267 X267 => ?_
  refine Own.dastore_ X267 (i := 2) d7_83 V266 (by decide) rfl (Nat.le_of_ble_eq_true rfl) fr205 fun T268 h268 X268 W268 V268 => ?_
  have F269 := F248.other W268 (Or.inl ne201)
  have F270 := F249.other W268 (Or.inl ne201)
  have F271 := F250.other W268 (Or.inl ne201)
  have F272 := F251.other W268 (Or.inl ne201)
  have F273 := F252.other W268 (Or.inl ne201)
  have F274 := F253.other W268 (Or.inl ne201)
  have F275 := F254.other W268 (Or.inl ne201)
  have F276 := F255.other W268 (Or.inl ne201)
  have F277 := F256.other W268 (Or.inl ne201)
  have F278 := F257.wr W268 (Or.inr bn206)
  have F279 := F258.wr W268
  have F280 := F259.wr W268
  have F281 := F260.other W268 ne203
  have F282 := F261.wr W268
  have F283 := F262.other W268 ne204
  have F284 := F263.other W268 ne202
  have F285 := F264.wr W268
  have Z286 : n0 ≤ h268.size := by rw [W268.size]; exact Z265
  have V287 : Arv Z h268 rw2 k_rw2 .double (3 : Int32) [.double u31, .double u32, .double u33] (.double 0) := V268
  refine Own.aastore_ X268 (i := 2) d7_84 F284 rfl (by decide) rfl (Nat.le_of_ble_eq_true rfl) fr3 rfl (fun cl A' q' => Sto.ofVA A' q' O1 (Ins.self F285)) fun T288 h288 X288 W288 V288 => ?_
  have F289 := F269.other W288 (Or.inl ne2)
  have F290 := F270.other W288 (Or.inl ne2)
  have F291 := F271.other W288 (Or.inl ne2)
  have F292 := F272.other W288 (Or.inl ne2)
  have F293 := F273.other W288 (Or.inl ne2)
  have F294 := F274.other W288 (Or.inl ne2)
  have F295 := F275.other W288 (Or.inl ne2)
  have F296 := F276.other W288 (Or.inl ne2)
  have F297 := F277.other W288 (Or.inl ne2)
  have F298 := F278.wr W288 (Or.inr bn4)
  have F299 := F279.wr W288
  have F300 := F280.wr W288
  have F301 := F281.other W288 (Ne.symm ne19)
  have F302 := F282.wr W288
  have F303 := F283.other W288 (Ne.symm ne105)
  have F304 := F285.wr W288
  have F305 := V287.other W288 (Ne.symm ne202)
  have Z306 : n0 ≤ h288.size := by rw [W288.size]; exact Z286
  have V307 : Arv Z h288 ro k_ro (.array .double) (3 : Int32) [.ref rw0, .ref rw1, .ref rw2] (.null) := V288
  exact Own.retA X288 d7_85 rfl rfl rfl ⟨ro, rw0, rw1, rw2, k_ro, k_rw0, k_rw1, k_rw2, rfl, bn4, bn21, bn108, bn206, ne19, ne105, ne202, ne106, ne203, ne204, F298, V307, F301, F303, F305⟩ (by decide) (by decide)
theorem ef_8 (m : MethodId) (x0 : Addr) (x1 : Addr) : entryFrame m #[.ref x0, .ref x1] 2 = mkF m 0 #[.val (.ref x0), .val (.ref x1)] [] := by first | (simp [entryFrame, mkF, argsToLocals, Value.category, maxLocals]; done) | rfl
set_option maxRecDepth 65536 in
set_option maxHeartbeats 40000000 in
theorem rm8 (l : Launch) (Z : State) (a0 : Array Value) (hw : ∀ d ∈ tables_1, d.before a0 Z = true) (ro av rw0 rw1 rw2 : Addr) (k_ro k_rw0 k_rw1 k_rw2 k_av : ClassId) (x0 x1 x2 x3 x4 x5 x6 x7 x8 : UInt64) (h0 : Heap) (n0 : Nat) (Z0 : n0 ≤ h0.size) (A_ro : Arv Z h0 ro k_ro (.array .double) (3 : Int32) [.ref rw0, .ref rw1, .ref rw2] (.null)) (A_rw0 : Arv Z h0 rw0 k_rw0 .double (3 : Int32) [.double x0, .double x1, .double x2] (.double 0)) (A_rw1 : Arv Z h0 rw1 k_rw1 .double (3 : Int32) [.double x3, .double x4, .double x5] (.double 0)) (A_rw2 : Arv Z h0 rw2 k_rw2 .double (3 : Int32) [.double x6, .double x7, .double x8] (.double 0)) (A_av : Arv Z h0 av k_av .double (9 : Int32) [.double x0, .double x1, .double x2, .double x3, .double x4, .double x5, .double x6, .double x7, .double x8] (.double 0)) (n_x0 : NoNaN64 x0) (n_x1 : NoNaN64 x1) (n_x2 : NoNaN64 x2) (n_x3 : NoNaN64 x3) (n_x4 : NoNaN64 x4) (n_x5 : NoNaN64 x5) (n_x6 : NoNaN64 x6) (n_x7 : NoNaN64 x7) (n_x8 : NoNaN64 x8) :
    Own.Con l Z mn_9 [] method_3_code 2 (some .boolean) ({ frames := 0, cells := 0, slots := 0, locals := 0 } : Room) #[.ref ro, .ref av] h0 n0 (fun v h => v = some (.int 1) ∧ h0 = h) := by
  refine Own.enter (own := "com/example/swivel/swivel/Matrix3RowsPinLaw") (nm := "same") (plainFor_of_name pn_com_example_swivel_swivel_Matrix3RowsPinLaw) rfl rfl (fun m => ef_8 m ro av) fun p e s m below meth c T X => ?_
  refine Own.aloadN X d8_0 rfl rfl ?_
  refine Own.ifnullN X d8_1 ?_
  refine Own.aloadN X d8_4 rfl rfl ?_
  refine Own.alen_ X d8_5 A_ro ?_
  refine Own.iconst X (v := 3) d8_6 rfl ?_
  refine Own.icmp_ X (pc' := 12) d8_7 (by decide) (fun _ => ?_) (fun q => absurd (show (3 : Int) = (3 : Int) from by decide) q)
  refine Own.aloadN X d8_12 rfl rfl ?_
  refine Own.iconst X (v := 0) d8_13 rfl ?_
  refine Own.aaload_ X d8_14 A_ro rfl (by decide) rfl ?_
  refine Own.ifnullN X d8_15 ?_
  refine Own.aloadN X d8_18 rfl rfl ?_
  refine Own.iconst X (v := 1) d8_19 rfl ?_
  refine Own.aaload_ X d8_20 A_ro rfl (by decide) rfl ?_
  refine Own.ifnullN X d8_21 ?_
  refine Own.aloadN X d8_24 rfl rfl ?_
  refine Own.iconst X (v := 2) d8_25 rfl ?_
  refine Own.aaload_ X d8_26 A_ro rfl (by decide) rfl ?_
  refine Own.ifnonnullY X (pc' := 32) d8_27 (by decide) ?_
  refine Own.aloadN X d8_32 rfl rfl ?_
  refine Own.iconst X (v := 0) d8_33 rfl ?_
  refine Own.aaload_ X d8_34 A_ro rfl (by decide) rfl ?_
  refine Own.alen_ X d8_35 A_rw0 ?_
  refine Own.iconst X (v := 3) d8_36 rfl ?_
  refine Own.icmp_ X (pc' := 56) d8_37 (by decide) (fun q => absurd (show ¬ ((3 : Int) = (3 : Int)) from q) (show ¬ (¬ ((3 : Int) = (3 : Int))) from fun z => z (by decide))) (fun _ => ?_)
  refine Own.aloadN X d8_40 rfl rfl ?_
  refine Own.iconst X (v := 1) d8_41 rfl ?_
  refine Own.aaload_ X d8_42 A_ro rfl (by decide) rfl ?_
  refine Own.alen_ X d8_43 A_rw1 ?_
  refine Own.iconst X (v := 3) d8_44 rfl ?_
  refine Own.icmp_ X (pc' := 56) d8_45 (by decide) (fun q => absurd (show ¬ ((3 : Int) = (3 : Int)) from q) (show ¬ (¬ ((3 : Int) = (3 : Int))) from fun z => z (by decide))) (fun _ => ?_)
  refine Own.aloadN X d8_48 rfl rfl ?_
  refine Own.iconst X (v := 2) d8_49 rfl ?_
  refine Own.aaload_ X d8_50 A_ro rfl (by decide) rfl ?_
  refine Own.alen_ X d8_51 A_rw2 ?_
  refine Own.iconst X (v := 3) d8_52 rfl ?_
  refine Own.icmp_ X (pc' := 58) d8_53 (by decide) (fun _ => ?_) (fun q => absurd (show (3 : Int) = (3 : Int) from by decide) q)
  refine Own.aloadN X d8_58 rfl rfl ?_
  refine Own.iconst X (v := 0) d8_59 rfl ?_
  refine Own.aaload_ X d8_60 A_ro rfl (by decide) rfl ?_
  refine Own.iconst X (v := 0) d8_61 rfl ?_
  refine Own.daload_ X d8_62 A_rw0 (by decide) rfl ?_
  refine Own.aloadN X d8_63 rfl rfl ?_
  refine Own.iconst X (v := 0) d8_64 rfl ?_
  refine Own.daload_ X d8_65 A_av (by decide) rfl ?_
  refine Own.dcmpF X (pc' := 173) d8_66 d8_67 (by decide) n_x0 n_x0 (fun q => absurd (show ¬ (Own.dz x0 = Own.dz x0) from q) (show ¬ (¬ (Own.dz x0 = Own.dz x0)) from fun z => z (rfl))) (fun _ => ?_)
  refine Own.aloadN X d8_70 rfl rfl ?_
  refine Own.iconst X (v := 0) d8_71 rfl ?_
  refine Own.aaload_ X d8_72 A_ro rfl (by decide) rfl ?_
  refine Own.iconst X (v := 1) d8_73 rfl ?_
  refine Own.daload_ X d8_74 A_rw0 (by decide) rfl ?_
  refine Own.aloadN X d8_75 rfl rfl ?_
  refine Own.iconst X (v := 1) d8_76 rfl ?_
  refine Own.daload_ X d8_77 A_av (by decide) rfl ?_
  refine Own.dcmpF X (pc' := 173) d8_78 d8_79 (by decide) n_x1 n_x1 (fun q => absurd (show ¬ (Own.dz x1 = Own.dz x1) from q) (show ¬ (¬ (Own.dz x1 = Own.dz x1)) from fun z => z (rfl))) (fun _ => ?_)
  refine Own.aloadN X d8_82 rfl rfl ?_
  refine Own.iconst X (v := 0) d8_83 rfl ?_
  refine Own.aaload_ X d8_84 A_ro rfl (by decide) rfl ?_
  refine Own.iconst X (v := 2) d8_85 rfl ?_
  refine Own.daload_ X d8_86 A_rw0 (by decide) rfl ?_
  refine Own.aloadN X d8_87 rfl rfl ?_
  refine Own.iconst X (v := 2) d8_88 rfl ?_
  refine Own.daload_ X d8_89 A_av (by decide) rfl ?_
  refine Own.dcmpF X (pc' := 173) d8_90 d8_91 (by decide) n_x2 n_x2 (fun q => absurd (show ¬ (Own.dz x2 = Own.dz x2) from q) (show ¬ (¬ (Own.dz x2 = Own.dz x2)) from fun z => z (rfl))) (fun _ => ?_)
  refine Own.aloadN X d8_94 rfl rfl ?_
  refine Own.iconst X (v := 1) d8_95 rfl ?_
  refine Own.aaload_ X d8_96 A_ro rfl (by decide) rfl ?_
  refine Own.iconst X (v := 0) d8_97 rfl ?_
  refine Own.daload_ X d8_98 A_rw1 (by decide) rfl ?_
  refine Own.aloadN X d8_99 rfl rfl ?_
  refine Own.iconst X (v := 3) d8_100 rfl ?_
  refine Own.daload_ X d8_101 A_av (by decide) rfl ?_
  refine Own.dcmpF X (pc' := 173) d8_102 d8_103 (by decide) n_x3 n_x3 (fun q => absurd (show ¬ (Own.dz x3 = Own.dz x3) from q) (show ¬ (¬ (Own.dz x3 = Own.dz x3)) from fun z => z (rfl))) (fun _ => ?_)
  refine Own.aloadN X d8_106 rfl rfl ?_
  refine Own.iconst X (v := 1) d8_107 rfl ?_
  refine Own.aaload_ X d8_108 A_ro rfl (by decide) rfl ?_
  refine Own.iconst X (v := 1) d8_109 rfl ?_
  refine Own.daload_ X d8_110 A_rw1 (by decide) rfl ?_
  refine Own.aloadN X d8_111 rfl rfl ?_
  refine Own.iconst X (v := 4) d8_112 rfl ?_
  refine Own.daload_ X d8_113 A_av (by decide) rfl ?_
  refine Own.dcmpF X (pc' := 173) d8_114 d8_115 (by decide) n_x4 n_x4 (fun q => absurd (show ¬ (Own.dz x4 = Own.dz x4) from q) (show ¬ (¬ (Own.dz x4 = Own.dz x4)) from fun z => z (rfl))) (fun _ => ?_)
  refine Own.aloadN X d8_118 rfl rfl ?_
  refine Own.iconst X (v := 1) d8_119 rfl ?_
  refine Own.aaload_ X d8_120 A_ro rfl (by decide) rfl ?_
  refine Own.iconst X (v := 2) d8_121 rfl ?_
  refine Own.daload_ X d8_122 A_rw1 (by decide) rfl ?_
  refine Own.aloadN X d8_123 rfl rfl ?_
  refine Own.iconst X (v := 5) d8_124 rfl ?_
  refine Own.daload_ X d8_125 A_av (by decide) rfl ?_
  refine Own.dcmpF X (pc' := 173) d8_126 d8_127 (by decide) n_x5 n_x5 (fun q => absurd (show ¬ (Own.dz x5 = Own.dz x5) from q) (show ¬ (¬ (Own.dz x5 = Own.dz x5)) from fun z => z (rfl))) (fun _ => ?_)
  refine Own.aloadN X d8_130 rfl rfl ?_
  refine Own.iconst X (v := 2) d8_131 rfl ?_
  refine Own.aaload_ X d8_132 A_ro rfl (by decide) rfl ?_
  refine Own.iconst X (v := 0) d8_133 rfl ?_
  refine Own.daload_ X d8_134 A_rw2 (by decide) rfl ?_
  refine Own.aloadN X d8_135 rfl rfl ?_
  refine Own.bipush X (v := 6) d8_136 rfl ?_
  refine Own.daload_ X d8_138 A_av (by decide) rfl ?_
  refine Own.dcmpF X (pc' := 173) d8_139 d8_140 (by decide) n_x6 n_x6 (fun q => absurd (show ¬ (Own.dz x6 = Own.dz x6) from q) (show ¬ (¬ (Own.dz x6 = Own.dz x6)) from fun z => z (rfl))) (fun _ => ?_)
  refine Own.aloadN X d8_143 rfl rfl ?_
  refine Own.iconst X (v := 2) d8_144 rfl ?_
  refine Own.aaload_ X d8_145 A_ro rfl (by decide) rfl ?_
  refine Own.iconst X (v := 1) d8_146 rfl ?_
  refine Own.daload_ X d8_147 A_rw2 (by decide) rfl ?_
  refine Own.aloadN X d8_148 rfl rfl ?_
  refine Own.bipush X (v := 7) d8_149 rfl ?_
  refine Own.daload_ X d8_151 A_av (by decide) rfl ?_
  refine Own.dcmpF X (pc' := 173) d8_152 d8_153 (by decide) n_x7 n_x7 (fun q => absurd (show ¬ (Own.dz x7 = Own.dz x7) from q) (show ¬ (¬ (Own.dz x7 = Own.dz x7)) from fun z => z (rfl))) (fun _ => ?_)
  refine Own.aloadN X d8_156 rfl rfl ?_
  refine Own.iconst X (v := 2) d8_157 rfl ?_
  refine Own.aaload_ X d8_158 A_ro rfl (by decide) rfl ?_
  refine Own.iconst X (v := 2) d8_159 rfl ?_
  refine Own.daload_ X d8_160 A_rw2 (by decide) rfl ?_
  refine Own.aloadN X d8_161 rfl rfl ?_
  refine Own.bipush X (v := 8) d8_162 rfl ?_
  refine Own.daload_ X d8_164 A_av (by decide) rfl ?_
  refine Own.dcmpF X (pc' := 173) d8_165 d8_166 (by decide) n_x8 n_x8 (fun q => absurd (show ¬ (Own.dz x8 = Own.dz x8) from q) (show ¬ (¬ (Own.dz x8 = Own.dz x8)) from fun z => z (rfl))) (fun _ => ?_)
  refine Own.iconst X (v := 1) d8_169 rfl ?_
  refine Own.goto_ X (pc' := 174) d8_170 (by decide) ?_
  exact Own.retB X d8_174 (by decide) ⟨rfl, rfl⟩ (by decide) (by decide)
theorem ef_0 (m : MethodId) (x0 : Int32) (x1 : Int32) (x2 : Int32) (x3 : Int32) (x4 : Int32) (x5 : Int32) : entryFrame m #[.int x0, .int x1, .int x2, .int x3, .int x4, .int x5] maxLocals = mkF m 0 #[.val (.int x0), .val (.int x1), .val (.int x2), .val (.int x3), .val (.int x4), .val (.int x5), .unset, .unset, .unset, .unset] [] := by first | (simp [entryFrame, mkF, argsToLocals, Value.category, maxLocals]; done) | rfl
set_option maxRecDepth 65536 in
set_option maxHeartbeats 40000000 in
theorem rm0 (l : Launch) (Z : State) (a0 : Array Value) (hw : ∀ d ∈ tables_1, d.before a0 Z = true) (i0 i1 i2 i3 i4 i5 : Int32) (h0 : Heap) (n0 : Nat) (Z0 : n0 ≤ h0.size) (fe : Addr) (S_F : Sta Z Z.heap "com/example/swivel/swivel/Matrix3$Entries" "FINITE" "Lcom/example/swivel/swivel/Matrix3$Entries;" (.ref fe)) (O0 : Old Z n0 h0) :
    Own.Con l Z x tables_1 code maxLocals ret room_1 #[.int i0, .int i1, .int i2, .int i3, .int i4, .int i5] h0 n0 (fun v _ => v = some (.int 1)) := by
  refine Own.enter (own := "com/example/swivel/swivel/Matrix3RowsPinLaw") (nm := "law") (plainFor_of_name pn_com_example_swivel_swivel_Matrix3RowsPinLaw) rfl rfl (fun m => ef_0 m i0 i1 i2 i3 i4 i5) fun p e s m below meth c T X => ?_
  refine Own.bipush X (v := 9) at_0 rfl ?_
  refine Own.newP_ X (cap := 9) (ty := .double) (dv := .double 0) (ad := "[D") at_2 rfl rfl (by decide) (Own.wd hw 0 rfl) (by decide) (by decide) (by decide) (by decide) (by decide) fun T1 h1 av k_av g_av X1 E1 V1 A1 => ?_
  have fr2 : n0 ≤ av := Nat.le_trans Z0 (Nat.le_of_eq g_av.symm)
  have F3 := O0.ext E1
  have Z4 : n0 ≤ h1.size := Nat.le_trans Z0 E1.1
  have V5 : Arv Z h1 av k_av .double (9 : Int32) [.double 0, .double 0, .double 0, .double 0, .double 0, .double 0, .double 0, .double 0, .double 0] (.double 0) := V1.pad (pad_rep [] (.double 0) 9)
  refine Own.astore X1 at_4 rfl (l' := #[.val (.int i0), .val (.int i1), .val (.int i2), .val (.int i3), .val (.int i4), .val (.int i5), .val (.ref av), .unset, .unset, .unset]) rfl ?_
  refine Own.aload X1 at_6 rfl rfl ?_
  refine Own.iconst X1 (v := 0) at_8 rfl ?_
  refine Own.iloadN X1 at_9 rfl ?_
  obtain ⟨d10, e_d10⟩ : ∃ v, FP.i2d i0 = v := ⟨_, rfl⟩
  have B_d10 := (Own.Bd.i2d e_d10).mono (by decide : _ ≤ (8589934592 : Int))
  have f_d10 := B_d10.1
  have n_d10 := f_d10.noNaN
  refine Own.i2d X1 at_10 e_d10 ?_
  refine Own.dastore_ X1 (i := 0) at_11 V5 (by decide) rfl (Nat.le_of_ble_eq_true rfl) fr2 fun T6 h6 X6 W6 V6 => ?_
  have F7 := F3.wr W6 fr2
  have F8 := A1.wr W6
  have Z9 : n0 ≤ h6.size := by rw [W6.size]; exact Z4
  have V10 : Arv Z h6 av k_av .double (9 : Int32) [.double d10, .double 0, .double 0, .double 0, .double 0, .double 0, .double 0, .double 0, .double 0] (.double 0) := V6
  refine Own.aload X6 at_12 rfl rfl ?_
  refine Own.iconst X6 (v := 1) at_14 rfl ?_
  refine Own.iloadN X6 at_15 rfl ?_
  obtain ⟨d16, e_d16⟩ : ∃ v, FP.i2d i1 = v := ⟨_, rfl⟩
  have B_d16 := (Own.Bd.i2d e_d16).mono (by decide : _ ≤ (8589934592 : Int))
  have f_d16 := B_d16.1
  have n_d16 := f_d16.noNaN
  refine Own.i2d X6 at_16 e_d16 ?_
  refine Own.dastore_ X6 (i := 1) at_17 V10 (by decide) rfl (Nat.le_of_ble_eq_true rfl) fr2 fun T11 h11 X11 W11 V11 => ?_
  have F12 := F7.wr W11 fr2
  have F13 := F8.wr W11
  have Z14 : n0 ≤ h11.size := by rw [W11.size]; exact Z9
  have V15 : Arv Z h11 av k_av .double (9 : Int32) [.double d10, .double d16, .double 0, .double 0, .double 0, .double 0, .double 0, .double 0, .double 0] (.double 0) := V11
  refine Own.aload X11 at_18 rfl rfl ?_
  refine Own.iconst X11 (v := 2) at_20 rfl ?_
  refine Own.iloadN X11 at_21 rfl ?_
  obtain ⟨d22, e_d22⟩ : ∃ v, FP.i2d i2 = v := ⟨_, rfl⟩
  have B_d22 := (Own.Bd.i2d e_d22).mono (by decide : _ ≤ (8589934592 : Int))
  have f_d22 := B_d22.1
  have n_d22 := f_d22.noNaN
  refine Own.i2d X11 at_22 e_d22 ?_
  refine Own.dastore_ X11 (i := 2) at_23 V15 (by decide) rfl (Nat.le_of_ble_eq_true rfl) fr2 fun T16 h16 X16 W16 V16 => ?_
  have F17 := F12.wr W16 fr2
  have F18 := F13.wr W16
  have Z19 : n0 ≤ h16.size := by rw [W16.size]; exact Z14
  have V20 : Arv Z h16 av k_av .double (9 : Int32) [.double d10, .double d16, .double d22, .double 0, .double 0, .double 0, .double 0, .double 0, .double 0] (.double 0) := V16
  refine Own.aload X16 at_24 rfl rfl ?_
  refine Own.iconst X16 (v := 3) at_26 rfl ?_
  refine Own.iloadN X16 at_27 rfl ?_
  obtain ⟨d28, e_d28⟩ : ∃ v, FP.i2d i3 = v := ⟨_, rfl⟩
  have B_d28 := (Own.Bd.i2d e_d28).mono (by decide : _ ≤ (8589934592 : Int))
  have f_d28 := B_d28.1
  have n_d28 := f_d28.noNaN
  refine Own.i2d X16 at_28 e_d28 ?_
  refine Own.dastore_ X16 (i := 3) at_29 V20 (by decide) rfl (Nat.le_of_ble_eq_true rfl) fr2 fun T21 h21 X21 W21 V21 => ?_
  have F22 := F17.wr W21 fr2
  have F23 := F18.wr W21
  have Z24 : n0 ≤ h21.size := by rw [W21.size]; exact Z19
  have V25 : Arv Z h21 av k_av .double (9 : Int32) [.double d10, .double d16, .double d22, .double d28, .double 0, .double 0, .double 0, .double 0, .double 0] (.double 0) := V21
  refine Own.aload X21 at_30 rfl rfl ?_
  refine Own.iconst X21 (v := 4) at_32 rfl ?_
  refine Own.iload X21 at_33 rfl ?_
  obtain ⟨d35, e_d35⟩ : ∃ v, FP.i2d i4 = v := ⟨_, rfl⟩
  have B_d35 := (Own.Bd.i2d e_d35).mono (by decide : _ ≤ (8589934592 : Int))
  have f_d35 := B_d35.1
  have n_d35 := f_d35.noNaN
  refine Own.i2d X21 at_35 e_d35 ?_
  refine Own.dastore_ X21 (i := 4) at_36 V25 (by decide) rfl (Nat.le_of_ble_eq_true rfl) fr2 fun T26 h26 X26 W26 V26 => ?_
  have F27 := F22.wr W26 fr2
  have F28 := F23.wr W26
  have Z29 : n0 ≤ h26.size := by rw [W26.size]; exact Z24
  have V30 : Arv Z h26 av k_av .double (9 : Int32) [.double d10, .double d16, .double d22, .double d28, .double d35, .double 0, .double 0, .double 0, .double 0] (.double 0) := V26
  refine Own.aload X26 at_37 rfl rfl ?_
  refine Own.iconst X26 (v := 5) at_39 rfl ?_
  refine Own.iload X26 at_40 rfl ?_
  obtain ⟨d42, e_d42⟩ : ∃ v, FP.i2d i5 = v := ⟨_, rfl⟩
  have B_d42 := (Own.Bd.i2d e_d42).mono (by decide : _ ≤ (8589934592 : Int))
  have f_d42 := B_d42.1
  have n_d42 := f_d42.noNaN
  refine Own.i2d X26 at_42 e_d42 ?_
  refine Own.dastore_ X26 (i := 5) at_43 V30 (by decide) rfl (Nat.le_of_ble_eq_true rfl) fr2 fun T31 h31 X31 W31 V31 => ?_
  have F32 := F27.wr W31 fr2
  have F33 := F28.wr W31
  have Z34 : n0 ≤ h31.size := by rw [W31.size]; exact Z29
  have V35 : Arv Z h31 av k_av .double (9 : Int32) [.double d10, .double d16, .double d22, .double d28, .double d35, .double d42, .double 0, .double 0, .double 0] (.double 0) := V31
  refine Own.aload X31 at_44 rfl rfl ?_
  refine Own.bipush X31 (v := 6) at_46 rfl ?_
  refine Own.iloadN X31 at_48 rfl ?_
  obtain ⟨d49, e_d49⟩ : ∃ v, FP.i2d i0 = v := ⟨_, rfl⟩
  have B_d49 := Own.Bd.i2d e_d49
  have f_d49 := B_d49.1
  have n_d49 := f_d49.noNaN
  refine Own.i2d X31 at_49 e_d49 ?_
  refine Own.iloadN X31 at_50 rfl ?_
  obtain ⟨d51, e_d51⟩ : ∃ v, FP.i2d i1 = v := ⟨_, rfl⟩
  have B_d51 := Own.Bd.i2d e_d51
  have f_d51 := B_d51.1
  have n_d51 := f_d51.noNaN
  refine Own.i2d X31 at_51 e_d51 ?_
  obtain ⟨d52, e_d52⟩ : ∃ v, FP.dsub d49 d51 = v := ⟨_, rfl⟩
  have B_d52 := (Own.Bd.sub e_d52 B_d49 B_d51 (by decide)).mono (by decide : _ ≤ (8589934592 : Int))
  have n_d52 := B_d52.1.noNaN
  have f_d52 := B_d52.1
  refine Own.dsub X31 at_52 e_d52 n_d52 ?_
  refine Own.dastore_ X31 (i := 6) at_53 V35 (by decide) rfl (Nat.le_of_ble_eq_true rfl) fr2 fun T36 h36 X36 W36 V36 => ?_
  have F37 := F32.wr W36 fr2
  have F38 := F33.wr W36
  have Z39 : n0 ≤ h36.size := by rw [W36.size]; exact Z34
  have V40 : Arv Z h36 av k_av .double (9 : Int32) [.double d10, .double d16, .double d22, .double d28, .double d35, .double d42, .double d52, .double 0, .double 0] (.double 0) := V36
  refine Own.aload X36 at_54 rfl rfl ?_
  refine Own.bipush X36 (v := 7) at_56 rfl ?_
  refine Own.iloadN X36 at_58 rfl ?_
  obtain ⟨d59, e_d59⟩ : ∃ v, FP.i2d i2 = v := ⟨_, rfl⟩
  have B_d59 := Own.Bd.i2d e_d59
  have f_d59 := B_d59.1
  have n_d59 := f_d59.noNaN
  refine Own.i2d X36 at_59 e_d59 ?_
  refine Own.iloadN X36 at_60 rfl ?_
  obtain ⟨d61, e_d61⟩ : ∃ v, FP.i2d i3 = v := ⟨_, rfl⟩
  have B_d61 := Own.Bd.i2d e_d61
  have f_d61 := B_d61.1
  have n_d61 := f_d61.noNaN
  refine Own.i2d X36 at_61 e_d61 ?_
  obtain ⟨d62, e_d62⟩ : ∃ v, FP.dsub d59 d61 = v := ⟨_, rfl⟩
  have B_d62 := (Own.Bd.sub e_d62 B_d59 B_d61 (by decide)).mono (by decide : _ ≤ (8589934592 : Int))
  have n_d62 := B_d62.1.noNaN
  have f_d62 := B_d62.1
  refine Own.dsub X36 at_62 e_d62 n_d62 ?_
  refine Own.dastore_ X36 (i := 7) at_63 V40 (by decide) rfl (Nat.le_of_ble_eq_true rfl) fr2 fun T41 h41 X41 W41 V41 => ?_
  have F42 := F37.wr W41 fr2
  have F43 := F38.wr W41
  have Z44 : n0 ≤ h41.size := by rw [W41.size]; exact Z39
  have V45 : Arv Z h41 av k_av .double (9 : Int32) [.double d10, .double d16, .double d22, .double d28, .double d35, .double d42, .double d52, .double d62, .double 0] (.double 0) := V41
  refine Own.aload X41 at_64 rfl rfl ?_
  refine Own.bipush X41 (v := 8) at_66 rfl ?_
  refine Own.iload X41 at_68 rfl ?_
  obtain ⟨d70, e_d70⟩ : ∃ v, FP.i2d i4 = v := ⟨_, rfl⟩
  have B_d70 := Own.Bd.i2d e_d70
  have f_d70 := B_d70.1
  have n_d70 := f_d70.noNaN
  refine Own.i2d X41 at_70 e_d70 ?_
  refine Own.iload X41 at_71 rfl ?_
  obtain ⟨d73, e_d73⟩ : ∃ v, FP.i2d i5 = v := ⟨_, rfl⟩
  have B_d73 := Own.Bd.i2d e_d73
  have f_d73 := B_d73.1
  have n_d73 := f_d73.noNaN
  refine Own.i2d X41 at_73 e_d73 ?_
  obtain ⟨d74, e_d74⟩ : ∃ v, FP.dsub d70 d73 = v := ⟨_, rfl⟩
  have B_d74 := (Own.Bd.sub e_d74 B_d70 B_d73 (by decide)).mono (by decide : _ ≤ (8589934592 : Int))
  have n_d74 := B_d74.1.noNaN
  have f_d74 := B_d74.1
  refine Own.dsub X41 at_74 e_d74 n_d74 ?_
  refine Own.dastore_ X41 (i := 8) at_75 V45 (by decide) rfl (Nat.le_of_ble_eq_true rfl) fr2 fun T46 h46 X46 W46 V46 => ?_
  have F47 := F42.wr W46 fr2
  have F48 := F43.wr W46
  have Z49 : n0 ≤ h46.size := by rw [W46.size]; exact Z44
  have V50 : Arv Z h46 av k_av .double (9 : Int32) [.double d10, .double d16, .double d22, .double d28, .double d35, .double d42, .double d52, .double d62, .double d74] (.double 0) := V46
  refine Own.newO_ X46 at_76 (Own.wd hw 1 rfl) (Own.wd hw 2 rfl) (Own.wd hw 3 rfl) (by decide) (by decide) fun T51 h51 o76 g_o76 X51 E51 A51 D51 => ?_
  have ne52 : av ≠ o76 := Nat.ne_of_lt (Nat.lt_of_lt_of_le F48.lt (Nat.le_of_eq g_o76.symm))
  have fr53 : n0 ≤ o76 := Nat.le_trans Z49 (Nat.le_of_eq g_o76.symm)
  have F54 := F47.ext E51
  have F55 := F48.ext E51
  have F56 := V50.ext E51
  have Z57 : n0 ≤ h51.size := Nat.le_trans Z49 E51.1
  have F58 : Fld Z h51 o76 "com/example/swivel/swivel/Matrix3" "m11" "D" (.double 0) := D51 (Or.inr (Own.wd hw 29 rfl)) (ty := .double) (by decide)
  have F59 : Fld Z h51 o76 "com/example/swivel/swivel/Matrix3" "m12" "D" (.double 0) := D51 (Or.inr (Own.wd hw 31 rfl)) (ty := .double) (by decide)
  have F60 : Fld Z h51 o76 "com/example/swivel/swivel/Matrix3" "m13" "D" (.double 0) := D51 (Or.inr (Own.wd hw 33 rfl)) (ty := .double) (by decide)
  have F61 : Fld Z h51 o76 "com/example/swivel/swivel/Matrix3" "m21" "D" (.double 0) := D51 (Or.inr (Own.wd hw 35 rfl)) (ty := .double) (by decide)
  have F62 : Fld Z h51 o76 "com/example/swivel/swivel/Matrix3" "m22" "D" (.double 0) := D51 (Or.inr (Own.wd hw 37 rfl)) (ty := .double) (by decide)
  have F63 : Fld Z h51 o76 "com/example/swivel/swivel/Matrix3" "m23" "D" (.double 0) := D51 (Or.inr (Own.wd hw 39 rfl)) (ty := .double) (by decide)
  have F64 : Fld Z h51 o76 "com/example/swivel/swivel/Matrix3" "m31" "D" (.double 0) := D51 (Or.inr (Own.wd hw 41 rfl)) (ty := .double) (by decide)
  have F65 : Fld Z h51 o76 "com/example/swivel/swivel/Matrix3" "m32" "D" (.double 0) := D51 (Or.inr (Own.wd hw 43 rfl)) (ty := .double) (by decide)
  have F66 : Fld Z h51 o76 "com/example/swivel/swivel/Matrix3" "m33" "D" (.double 0) := D51 (Or.inr (Own.wd hw 45 rfl)) (ty := .double) (by decide)
  refine Own.dup X51 at_79 rfl ?_
  refine Own.aload X51 at_80 rfl rfl ?_
  refine Own.iconst X51 (v := 0) at_82 rfl ?_
  refine Own.daload_ X51 at_83 F56 (by decide) rfl ?_
  refine Own.aload X51 at_84 rfl rfl ?_
  refine Own.iconst X51 (v := 1) at_86 rfl ?_
  refine Own.daload_ X51 at_87 F56 (by decide) rfl ?_
  refine Own.aload X51 at_88 rfl rfl ?_
  refine Own.iconst X51 (v := 2) at_90 rfl ?_
  refine Own.daload_ X51 at_91 F56 (by decide) rfl ?_
  refine Own.aload X51 at_92 rfl rfl ?_
  refine Own.iconst X51 (v := 3) at_94 rfl ?_
  refine Own.daload_ X51 at_95 F56 (by decide) rfl ?_
  refine Own.aload X51 at_96 rfl rfl ?_
  refine Own.iconst X51 (v := 4) at_98 rfl ?_
  refine Own.daload_ X51 at_99 F56 (by decide) rfl ?_
  refine Own.aload X51 at_100 rfl rfl ?_
  refine Own.iconst X51 (v := 5) at_102 rfl ?_
  refine Own.daload_ X51 at_103 F56 (by decide) rfl ?_
  refine Own.aload X51 at_104 rfl rfl ?_
  refine Own.bipush X51 (v := 6) at_106 rfl ?_
  refine Own.daload_ X51 at_108 F56 (by decide) rfl ?_
  refine Own.aload X51 at_109 rfl rfl ?_
  refine Own.bipush X51 (v := 7) at_111 rfl ?_
  refine Own.daload_ X51 at_113 F56 (by decide) rfl ?_
  refine Own.aload X51 at_114 rfl rfl ?_
  refine Own.bipush X51 (v := 8) at_116 rfl ?_
  refine Own.daload_ X51 at_118 F56 (by decide) rfl ?_
  refine Own.callI_ (y := mn_7) (a := o76) X51 at_119 rfl (Own.wd hw 4 rfl) (Own.wd hw 5 rfl) (Own.wd hw 3 rfl) (Own.wd hw 6 rfl) (by decide) (rm1 l Z a0 hw o76 d10 d16 d22 d28 d35 d42 d52 d62 d74 fe h51 n0 Z57 fr53 A51 F58 F59 F60 F61 F62 F63 F64 F65 F66 B_d10 B_d16 B_d22 B_d28 B_d35 B_d42 B_d52 B_d62 B_d74 (S_F.ext F54.2)) (lenOf pd_10 rfl) rfl (argsL := [.double d10, .double d16, .double d22, .double d28, .double d35, .double d42, .double d52, .double d62, .double d74]) (rest := [.ref o76]) rfl (W := 1) (Nat.le_of_eq rfl) (by decide) (by decide) (by decide) (by decide) fun T67 h67 v67 X67 q67 => ?_
  obtain ⟨rfl, K67, G67_0, G67_1, G67_2, G67_3, G67_4, G67_5, G67_6, G67_7, G67_8⟩ := q67
  have F68 := F54.keep K67 (allS fr53 all0)
  have F69 := F55.keep K67
  have F70 := F56.keep K67 (ninS ne52 nin0)
  have F71 := A51.keep K67
  have Z72 : n0 ≤ h67.size := Nat.le_trans Z57 K67.1
  show Own.Go p e below s n0 _ _ _ (T67.setTop (mkF m 122 _ [.ref o76]))
  refine Own.astore X67 at_122 rfl (l' := #[.val (.int i0), .val (.int i1), .val (.int i2), .val (.int i3), .val (.int i4), .val (.int i5), .val (.ref av), .val (.ref o76), .unset, .unset]) rfl ?_
  refine Own.aload X67 at_124 rfl rfl ?_
  refine Own.callV_ (y := mn_8) (z := mn_8) (a := o76) X67 at_126 (Own.wd hw 46 rfl) (Own.wd hw 47 rfl) (Own.wd hw 49 rfl) (Own.wd hw 48 rfl) rfl (Own.wd hw 3 rfl) (Own.wd hw 50 rfl) (by decide) F71 (rm7 l Z a0 hw o76 d10 d16 d22 d28 d35 d42 d52 d62 d74 h67 n0 Z72 G67_0 G67_1 G67_2 G67_3 G67_4 G67_5 G67_6 G67_7 G67_8) (lenOf pd_11 rfl) rfl (argsL := []) (rest := []) rfl (W := 0) (Nat.le_of_eq rfl) (by decide) (by decide) (by decide) (by decide) fun T73 h73 v73 X73 q73 => ?_
  obtain ⟨ro_126, rw0_126, rw1_126, rw2_126, k_ro_126, k_rw0_126, k_rw1_126, k_rw2_126, rfl, B73_0, B73_1, B73_2, B73_3, D73_0, D73_1, D73_2, D73_3, D73_4, D73_5, K73, V73_0, V73_1, V73_2, V73_3⟩ := q73
  have F74 := F68.keep K73 all0
  have F75 := F69.keep K73
  have F76 := F70.keep K73 nin0
  have F77 := F71.keep K73
  have F78 := G67_0.keep K73 nin0
  have F79 := G67_1.keep K73 nin0
  have F80 := G67_2.keep K73 nin0
  have F81 := G67_3.keep K73 nin0
  have F82 := G67_4.keep K73 nin0
  have F83 := G67_5.keep K73 nin0
  have F84 := G67_6.keep K73 nin0
  have F85 := G67_7.keep K73 nin0
  have F86 := G67_8.keep K73 nin0
  have Z87 : n0 ≤ h73.size := Nat.le_trans Z72 K73.1
  have ne88 : av ≠ ro_126 := Nat.ne_of_lt (Nat.lt_of_lt_of_le F69.lt B73_0)
  have ne89 : o76 ≠ ro_126 := Nat.ne_of_lt (Nat.lt_of_lt_of_le F71.lt B73_0)
  have fr90 : n0 ≤ ro_126 := Nat.le_trans Z72 B73_0
  have ne91 : av ≠ rw0_126 := Nat.ne_of_lt (Nat.lt_of_lt_of_le F69.lt B73_1)
  have ne92 : o76 ≠ rw0_126 := Nat.ne_of_lt (Nat.lt_of_lt_of_le F71.lt B73_1)
  have fr93 : n0 ≤ rw0_126 := Nat.le_trans Z72 B73_1
  have ne94 : av ≠ rw1_126 := Nat.ne_of_lt (Nat.lt_of_lt_of_le F69.lt B73_2)
  have ne95 : o76 ≠ rw1_126 := Nat.ne_of_lt (Nat.lt_of_lt_of_le F71.lt B73_2)
  have fr96 : n0 ≤ rw1_126 := Nat.le_trans Z72 B73_2
  have ne97 : av ≠ rw2_126 := Nat.ne_of_lt (Nat.lt_of_lt_of_le F69.lt B73_3)
  have ne98 : o76 ≠ rw2_126 := Nat.ne_of_lt (Nat.lt_of_lt_of_le F71.lt B73_3)
  have fr99 : n0 ≤ rw2_126 := Nat.le_trans Z72 B73_3
  show Own.Go p e below s n0 _ _ _ (T73.setTop (mkF m 129 _ [.ref ro_126]))
  refine Own.astore X73 at_129 rfl (l' := #[.val (.int i0), .val (.int i1), .val (.int i2), .val (.int i3), .val (.int i4), .val (.int i5), .val (.ref av), .val (.ref o76), .val (.ref ro_126), .unset]) rfl ?_
  refine Own.aload X73 at_131 rfl rfl ?_
  refine Own.aload X73 at_133 rfl rfl ?_
  refine Own.callS_ (y := mn_9) X73 at_135 (Own.wd hw 54 rfl) (Own.wd hw 55 rfl) (Own.wd hw 56 rfl) (Own.wd hw 57 rfl) (by decide) (rm8 l Z a0 hw ro_126 av rw0_126 rw1_126 rw2_126 k_ro_126 k_rw0_126 k_rw1_126 k_rw2_126 k_av d10 d16 d22 d28 d35 d42 d52 d62 d74 h73 n0 Z87 V73_0 V73_1 V73_2 V73_3 F76 n_d10 n_d16 n_d22 n_d28 n_d35 n_d42 n_d52 n_d62 n_d74) (lenOf pd_12 rfl) rfl (argsL := [.ref ro_126, .ref av]) (rest := []) rfl (W := 0) (Nat.le_of_eq rfl) (by decide) (by decide) (by decide) (by decide) fun T100 h100 v100 X100 q100 => ?_
  obtain ⟨rfl, rfl⟩ := q100
  show Own.Go p e below s n0 _ _ _ (T100.setTop (mkF m 138 _ [.int (1 : Int32)]))
  refine Own.iff_ X100 (pc' := 143) at_138 (by decide) (fun _ => ?_) (fun q => absurd (show ¬ ((1 : Int) = (0 : Int)) from by decide) q)
  refine Own.aload X100 at_143 rfl rfl ?_
  refine Own.iconst X100 (v := 0) at_145 rfl ?_
  refine Own.aaload_ X100 at_146 V73_0 rfl (by decide) rfl ?_
  refine Own.iconst X100 (v := 0) at_147 rfl ?_
  refine Own.aload X100 at_148 rfl rfl ?_
  refine Own.iconst X100 (v := 0) at_150 rfl ?_
  refine Own.daload_ X100 at_151 F76 (by decide) rfl ?_
  refine Own.dconst1 X100 at_152 ?_
  obtain ⟨d153, e_d153⟩ : ∃ v, FP.dadd d10 4607182418800017408 = v := ⟨_, rfl⟩
  have n_d153 : NoNaN64 d153 := e_d153 ▸ dadd_out n_d10 Own.fin_1
  refine Own.dadd X100 at_153 e_d153 n_d153 ?_
  refine Own.dastore_ X100 (i := 0) at_154 V73_1 (by decide) rfl (Nat.le_of_ble_eq_true rfl) fr93 fun T101 h101 X101 W101 V101 => ?_
  have F102 := F74.wr W101 fr93
  have F103 := F75.wr W101
  have F104 := F76.other W101 ne91
  have F105 := F77.wr W101
  have F106 := F78.other W101 (Or.inl ne92)
  have F107 := F79.other W101 (Or.inl ne92)
  have F108 := F80.other W101 (Or.inl ne92)
  have F109 := F81.other W101 (Or.inl ne92)
  have F110 := F82.other W101 (Or.inl ne92)
  have F111 := F83.other W101 (Or.inl ne92)
  have F112 := F84.other W101 (Or.inl ne92)
  have F113 := F85.other W101 (Or.inl ne92)
  have F114 := F86.other W101 (Or.inl ne92)
  have F115 := V73_0.other W101 D73_0
  have F116 := V73_2.other W101 (Ne.symm D73_3)
  have F117 := V73_3.other W101 (Ne.symm D73_4)
  have Z118 : n0 ≤ h101.size := by rw [W101.size]; exact Z87
  have V119 : Arv Z h101 rw0_126 k_rw0_126 .double (3 : Int32) [.double d153, .double d16, .double d22] (.double 0) := V101
  refine Own.aload X101 at_155 rfl rfl ?_
  refine Own.iconst X101 (v := 1) at_157 rfl ?_
  refine Own.aaload_ X101 at_158 F115 rfl (by decide) rfl ?_
  refine Own.iconst X101 (v := 1) at_159 rfl ?_
  refine Own.aload X101 at_160 rfl rfl ?_
  refine Own.iconst X101 (v := 4) at_162 rfl ?_
  refine Own.daload_ X101 at_163 F104 (by decide) rfl ?_
  refine Own.dconst1 X101 at_164 ?_
  obtain ⟨d165, e_d165⟩ : ∃ v, FP.dadd d35 4607182418800017408 = v := ⟨_, rfl⟩
  have n_d165 : NoNaN64 d165 := e_d165 ▸ dadd_out n_d35 Own.fin_1
  refine Own.dadd X101 at_165 e_d165 n_d165 ?_
  refine Own.dastore_ X101 (i := 1) at_166 F116 (by decide) rfl (Nat.le_of_ble_eq_true rfl) fr96 fun T120 h120 X120 W120 V120 => ?_
  have F121 := F102.wr W120 fr96
  have F122 := F103.wr W120
  have F123 := F104.other W120 ne94
  have F124 := F105.wr W120
  have F125 := F106.other W120 (Or.inl ne95)
  have F126 := F107.other W120 (Or.inl ne95)
  have F127 := F108.other W120 (Or.inl ne95)
  have F128 := F109.other W120 (Or.inl ne95)
  have F129 := F110.other W120 (Or.inl ne95)
  have F130 := F111.other W120 (Or.inl ne95)
  have F131 := F112.other W120 (Or.inl ne95)
  have F132 := F113.other W120 (Or.inl ne95)
  have F133 := F114.other W120 (Or.inl ne95)
  have F134 := F115.other W120 D73_1
  have F135 := F117.other W120 (Ne.symm D73_5)
  have F136 := V119.other W120 D73_3
  have Z137 : n0 ≤ h120.size := by rw [W120.size]; exact Z118
  have V138 : Arv Z h120 rw1_126 k_rw1_126 .double (3 : Int32) [.double d28, .double d165, .double d42] (.double 0) := V120
  refine Own.aload X120 at_167 rfl rfl ?_
  refine Own.iconst X120 (v := 2) at_169 rfl ?_
  refine Own.aaload_ X120 at_170 F134 rfl (by decide) rfl ?_
  refine Own.iconst X120 (v := 2) at_171 rfl ?_
  refine Own.aload X120 at_172 rfl rfl ?_
  refine Own.bipush X120 (v := 8) at_174 rfl ?_
  refine Own.daload_ X120 at_176 F123 (by decide) rfl ?_
  refine Own.dconst1 X120 at_177 ?_
  obtain ⟨d178, e_d178⟩ : ∃ v, FP.dadd d74 4607182418800017408 = v := ⟨_, rfl⟩
  have n_d178 : NoNaN64 d178 := e_d178 ▸ dadd_out n_d74 Own.fin_1
  refine Own.dadd X120 at_178 e_d178 n_d178 ?_
  refine Own.dastore_ X120 (i := 2) at_179 F135 (by decide) rfl (Nat.le_of_ble_eq_true rfl) fr99 fun T139 h139 X139 W139 V139 => ?_
  have F140 := F121.wr W139 fr99
  have F141 := F122.wr W139
  have F142 := F123.other W139 ne97
  have F143 := F124.wr W139
  have F144 := F125.other W139 (Or.inl ne98)
  have F145 := F126.other W139 (Or.inl ne98)
  have F146 := F127.other W139 (Or.inl ne98)
  have F147 := F128.other W139 (Or.inl ne98)
  have F148 := F129.other W139 (Or.inl ne98)
  have F149 := F130.other W139 (Or.inl ne98)
  have F150 := F131.other W139 (Or.inl ne98)
  have F151 := F132.other W139 (Or.inl ne98)
  have F152 := F133.other W139 (Or.inl ne98)
  have F153 := F134.other W139 D73_2
  have F154 := F136.other W139 D73_4
  have F155 := V138.other W139 D73_5
  have Z156 : n0 ≤ h139.size := by rw [W139.size]; exact Z137
  have V157 : Arv Z h139 rw2_126 k_rw2_126 .double (3 : Int32) [.double d52, .double d62, .double d178] (.double 0) := V139
  refine Own.aload X139 at_180 rfl rfl ?_
  refine Own.callV_ (y := mn_8) (z := mn_8) (a := o76) X139 at_182 (Own.wd hw 46 rfl) (Own.wd hw 47 rfl) (Own.wd hw 49 rfl) (Own.wd hw 48 rfl) rfl (Own.wd hw 3 rfl) (Own.wd hw 50 rfl) (by decide) F143 (rm7 l Z a0 hw o76 d10 d16 d22 d28 d35 d42 d52 d62 d74 h139 n0 Z156 F144 F145 F146 F147 F148 F149 F150 F151 F152) (lenOf pd_11 rfl) rfl (argsL := []) (rest := []) rfl (W := 0) (Nat.le_of_eq rfl) (by decide) (by decide) (by decide) (by decide) fun T158 h158 v158 X158 q158 => ?_
  obtain ⟨ro_182, rw0_182, rw1_182, rw2_182, k_ro_182, k_rw0_182, k_rw1_182, k_rw2_182, rfl, B158_0, B158_1, B158_2, B158_3, D158_0, D158_1, D158_2, D158_3, D158_4, D158_5, K158, V158_0, V158_1, V158_2, V158_3⟩ := q158
  have F159 := F140.keep K158 all0
  have F160 := F141.keep K158
  have F161 := F142.keep K158 nin0
  have F162 := F143.keep K158
  have F163 := F144.keep K158 nin0
  have F164 := F145.keep K158 nin0
  have F165 := F146.keep K158 nin0
  have F166 := F147.keep K158 nin0
  have F167 := F148.keep K158 nin0
  have F168 := F149.keep K158 nin0
  have F169 := F150.keep K158 nin0
  have F170 := F151.keep K158 nin0
  have F171 := F152.keep K158 nin0
  have F172 := F153.keep K158 nin0
  have F173 := F154.keep K158 nin0
  have F174 := F155.keep K158 nin0
  have F175 := V157.keep K158 nin0
  have Z176 : n0 ≤ h158.size := Nat.le_trans Z156 K158.1
  have ne177 : av ≠ ro_182 := Nat.ne_of_lt (Nat.lt_of_lt_of_le F141.lt B158_0)
  have ne178 : o76 ≠ ro_182 := Nat.ne_of_lt (Nat.lt_of_lt_of_le F143.lt B158_0)
  have ne179 : ro_126 ≠ ro_182 := Nat.ne_of_lt (Nat.lt_of_lt_of_le F153.lt B158_0)
  have ne180 : rw0_126 ≠ ro_182 := Nat.ne_of_lt (Nat.lt_of_lt_of_le F154.lt B158_0)
  have ne181 : rw1_126 ≠ ro_182 := Nat.ne_of_lt (Nat.lt_of_lt_of_le F155.lt B158_0)
  have ne182 : rw2_126 ≠ ro_182 := Nat.ne_of_lt (Nat.lt_of_lt_of_le V157.lt B158_0)
  have fr183 : n0 ≤ ro_182 := Nat.le_trans Z156 B158_0
  have ne184 : av ≠ rw0_182 := Nat.ne_of_lt (Nat.lt_of_lt_of_le F141.lt B158_1)
  have ne185 : o76 ≠ rw0_182 := Nat.ne_of_lt (Nat.lt_of_lt_of_le F143.lt B158_1)
  have ne186 : ro_126 ≠ rw0_182 := Nat.ne_of_lt (Nat.lt_of_lt_of_le F153.lt B158_1)
  have ne187 : rw0_126 ≠ rw0_182 := Nat.ne_of_lt (Nat.lt_of_lt_of_le F154.lt B158_1)
  have ne188 : rw1_126 ≠ rw0_182 := Nat.ne_of_lt (Nat.lt_of_lt_of_le F155.lt B158_1)
  have ne189 : rw2_126 ≠ rw0_182 := Nat.ne_of_lt (Nat.lt_of_lt_of_le V157.lt B158_1)
  have fr190 : n0 ≤ rw0_182 := Nat.le_trans Z156 B158_1
  have ne191 : av ≠ rw1_182 := Nat.ne_of_lt (Nat.lt_of_lt_of_le F141.lt B158_2)
  have ne192 : o76 ≠ rw1_182 := Nat.ne_of_lt (Nat.lt_of_lt_of_le F143.lt B158_2)
  have ne193 : ro_126 ≠ rw1_182 := Nat.ne_of_lt (Nat.lt_of_lt_of_le F153.lt B158_2)
  have ne194 : rw0_126 ≠ rw1_182 := Nat.ne_of_lt (Nat.lt_of_lt_of_le F154.lt B158_2)
  have ne195 : rw1_126 ≠ rw1_182 := Nat.ne_of_lt (Nat.lt_of_lt_of_le F155.lt B158_2)
  have ne196 : rw2_126 ≠ rw1_182 := Nat.ne_of_lt (Nat.lt_of_lt_of_le V157.lt B158_2)
  have fr197 : n0 ≤ rw1_182 := Nat.le_trans Z156 B158_2
  have ne198 : av ≠ rw2_182 := Nat.ne_of_lt (Nat.lt_of_lt_of_le F141.lt B158_3)
  have ne199 : o76 ≠ rw2_182 := Nat.ne_of_lt (Nat.lt_of_lt_of_le F143.lt B158_3)
  have ne200 : ro_126 ≠ rw2_182 := Nat.ne_of_lt (Nat.lt_of_lt_of_le F153.lt B158_3)
  have ne201 : rw0_126 ≠ rw2_182 := Nat.ne_of_lt (Nat.lt_of_lt_of_le F154.lt B158_3)
  have ne202 : rw1_126 ≠ rw2_182 := Nat.ne_of_lt (Nat.lt_of_lt_of_le F155.lt B158_3)
  have ne203 : rw2_126 ≠ rw2_182 := Nat.ne_of_lt (Nat.lt_of_lt_of_le V157.lt B158_3)
  have fr204 : n0 ≤ rw2_182 := Nat.le_trans Z156 B158_3
  show Own.Go p e below s n0 _ _ _ (T158.setTop (mkF m 185 _ [.ref ro_182]))
  refine Own.astore X158 at_185 rfl (l' := #[.val (.int i0), .val (.int i1), .val (.int i2), .val (.int i3), .val (.int i4), .val (.int i5), .val (.ref av), .val (.ref o76), .val (.ref ro_126), .val (.ref ro_182)]) rfl ?_
  refine Own.aload X158 at_187 rfl rfl ?_
  refine Own.aload X158 at_189 rfl rfl ?_
  refine Own.acmp_ X158 (pc' := 196) (same := false) at_191 rfl rfl (decide_eq_false fun q => (Ne.symm ne179) (Value.ref.inj q)) (by decide) (by decide) ?_
  refine Own.aload X158 at_196 rfl rfl ?_
  refine Own.aload X158 at_198 rfl rfl ?_
  refine Own.callS_ (y := mn_9) X158 at_200 (Own.wd hw 54 rfl) (Own.wd hw 55 rfl) (Own.wd hw 56 rfl) (Own.wd hw 57 rfl) (by decide) (rm8 l Z a0 hw ro_182 av rw0_182 rw1_182 rw2_182 k_ro_182 k_rw0_182 k_rw1_182 k_rw2_182 k_av d10 d16 d22 d28 d35 d42 d52 d62 d74 h158 n0 Z176 V158_0 V158_1 V158_2 V158_3 F161 n_d10 n_d16 n_d22 n_d28 n_d35 n_d42 n_d52 n_d62 n_d74) (lenOf pd_12 rfl) rfl (argsL := [.ref ro_182, .ref av]) (rest := []) rfl (W := 0) (Nat.le_of_eq rfl) (by decide) (by decide) (by decide) (by decide) fun T205 h205 v205 X205 q205 => ?_
  obtain ⟨rfl, rfl⟩ := q205
  show Own.Go p e below s n0 _ _ _ (T205.setTop (mkF m 203 _ [.int (1 : Int32)]))
  exact Own.retB X205 at_203 (by decide) rfl (by decide) (by decide)
set_option maxRecDepth 65536 in
set_option maxHeartbeats 40000000 in
theorem comes_1 {Post : Tables → Env → Array Value → State → Outcome → State → Prop} (hpost : ∀ tb e args s v u, (limb_1_1.after args s (.returned v) u = true ∧ limb_1_2.after args s (.returned v) u = true ∧ True) → FrameEnd s (.returned v) u (Jvm.fieldLocs frame_1_writes args s ++ Jvm.arrayLocs frame_1_arrays args s ++ Jvm.staticLocs frame_1_statics s) 32 192 → Post tb e args s (.returned v) u) :
    ArmFor flags0 classFile x code maxLocals ret World_1 tables_1 room_1 Calls_1 rest_1 Pre_1 Post := by
  intro l hfl _ _ p e ha hc hk s m args below hf hA hF happ hP
  obtain ⟨hcalls, hrest, hpre⟩ := hP
  obtain ⟨-, -, -, hnamed, -, -, -, hat⟩ := (Spec.applies_iff hf).mp happ
  obtain ⟨hg, hn⟩ := and_e (Cond.before_iff.mp (show (Jvm.Cond.and given_1 narrow_1).before args s = true from hpre))
  obtain ⟨g0, gs1⟩ := and_e hg
  obtain ⟨g1, gs2⟩ := and_e gs1
  obtain ⟨g2, gs3⟩ := and_e gs2
  obtain ⟨g3, gs4⟩ := and_e gs3
  obtain ⟨g4, gs5⟩ := and_e gs4
  obtain ⟨g5, gs6⟩ := and_e gs5
  have g6 := gs6
  obtain ⟨w0, w1, w2, w3, w4, w5, rfl⟩ : ∃ w0 w1 w2 w3 w4 w5 : Value, args = #[w0, w1, w2, w3, w4, w5] := by
    have hs : args.size = 6 := by simpa [Cond.value, given_1] using g0
    obtain ⟨L⟩ := args
    match L, hs with
    | [w0, w1, w2, w3, w4, w5], _ => exact ⟨w0, w1, w2, w3, w4, w5, rfl⟩
  have hw := fun d (hd : d ∈ tables_1) => atoms_spec (ws := Jvm.Cond.code x code maxLocals ret :: tables_1) hat d (List.mem_cons_of_mem _ hd)
  obtain ⟨i0, ei0⟩ := is_v g1
  obtain rfl : w0 = (.int i0) := Option.some.inj ei0
  obtain ⟨i1, ei1⟩ := is_v g2
  obtain rfl : w1 = (.int i1) := Option.some.inj ei1
  obtain ⟨i2, ei2⟩ := is_v g3
  obtain rfl : w2 = (.int i2) := Option.some.inj ei2
  obtain ⟨i3, ei3⟩ := is_v g4
  obtain rfl : w3 = (.int i3) := Option.some.inj ei3
  obtain ⟨i4, ei4⟩ := is_v g5
  obtain rfl : w4 = (.int i4) := Option.some.inj ei4
  obtain ⟨i5, ei5⟩ := is_v g6
  obtain rfl : w5 = (.int i5) := Option.some.inj ei5
  obtain ⟨fe, v_F⟩ := exa_v hn
  have S_F := Sta.start v_F (Or.inr ⟨(Own.wd hw 20 rfl), (Own.wd hw 21 rfl)⟩)
  obtain ⟨n, o, h1, h2, h3, v, L, rfl, ⟨hQ, N⟩, hq⟩ := rm0 l s _ hw i0 i1 i2 i3 i4 i5 s.heap s.heap.size (Nat.le_refl _) fe S_F (Old.start s) p e ha hc hk s m _ below hf ((Spec.applies_iff_loose hf).mp happ).1 ⟨rfl, State.Warmed39.refl s, rfl⟩ trivial
  obtain rfl := hQ
  refine ⟨n, _, h1, h2, h3, hpost _ _ _ _ _ _ ⟨Cond.after_iff.mpr rfl, Cond.after_iff.mpr (eq_i res_at (Term.int_eval (1)) rfl), trivial⟩ ⟨hq.1, hq.2.1, (hq.2.2.sift fun y hy => Or.inr (N y hy)).mono (by decide) (by decide)⟩⟩
theorem main_1_1 : Claimed_1_1 := comes_1 fun _ _ _ _ _ _ h hF => ⟨h.1, hF⟩
theorem main_1_2 : Claimed_1_2 := comes_1 fun _ _ _ _ _ _ h hF => ⟨h.2.1, hF⟩

end Jvm.Pilot.@@N@@
namespace Jvm.Pilot.@@N@@
open Jvm Jvm.ClassFile Sem Op Lib Jvm.Free Jvm.Stand Jvm.Pilot.@@N@@.Jvm.D
/-! MADE BY PROGRAM (witnessworld.py) out of the Statement's table words and the real class files: 20 classes; the members and pool entries that the words name. The judged class is class 1, her method 1. -/
namespace start1
open Jvm.ClassFile
def u (s : String) : CpInfo := .utf8 (stringToUtf16 s)
/-- a pool by its gaps: so many unusable entries, then the entry; so many at the end -/
def gap : Nat → List CpInfo → List CpInfo
  | 0, r => r
  | n + 1, r => .unusable :: gap n r
def poolList (es : List (Nat × CpInfo)) (last : Nat) : List CpInfo := es.foldr (fun e r => gap e.1 (e.2 :: r)) (gap last [])
def pool (es : List (Nat × CpInfo)) (last : Nat) : Array CpInfo := ⟨poolList es last⟩
def fileOf (pool : Array CpInfo) (this : Nat) (attrs : Array Attribute := #[]) (ms : Array MethodInfo := #[]) (fl : Nat := 33) (sup : Nat := 0) (ifs : Array Nat := #[]) (fds : Array FieldInfo := #[]) : ClassFile where
  minorVersion := 0
  majorVersion := 65
  constantPool := pool
  accessFlags := fl
  thisClass := this
  superClass := sup
  interfaces := ifs
  fields := fds
  methods := ms
  attributes := attrs
def plain (name : String) (sup : Option ClassId) : Class where
  name := name
  kind := .ordinary
  loader := none
  accessFlags := 33
  super := sup
  interfaces := #[]
  cf := none
  fields := #[]
  methods := #[]
  instanceTypes := #[]
  staticTypes := #[]
  resolved := #[]
  callSites := []
  init := .initialized
  statics := none
  mirror := none

def pool0 : Array CpInfo := pool [(5, u "<init>"), (0, u "()V"), (1, .class_ 10), (1, u "java/lang/Object")] 113

def k0c0 : Code := { maxStack := 0, maxLocals := 1, code := object_method_1_code, exceptionTable := #[], attributes := #[] }
def k0m0 : Method := { name := "<init>", desc := "()V", sig := { parameters := [], returnType := none }, accessFlags := 1, code := some k0c0 }
/-- java/lang/Object -/
def k0 : Class := { plain "java/lang/Object" none with
  accessFlags := 33
  interfaces := #[]
  cf := some (fileOf pool0 8 #[] #[{ accessFlags := 1, nameIndex := 5, descriptorIndex := 6, attributes := #[] }] 33 0 #[] #[])
  fields := #[]
  methods := #[k0m0]
  instanceTypes := #[]
  staticTypes := #[]
  resolved := Array.replicate 124 none
  statics := none }

def pool1 : Array CpInfo := pool [(2, .class_ 4), (1, u "java/lang/Object"), (0, u "<init>"), (0, u "()V"), (0, .class_ 8), (0, u "com/example/swivel/swivel/Matrix3"), (0, .methodref 7 10), (0, .nameAndType 5 11), (0, u "(DDDDDDDDD)V"), (0, .methodref 7 13), (0, .nameAndType 14 15), (0, u "rows"), (0, u "()[[D"), (0, .methodref 17 18), (0, .class_ 19), (0, .nameAndType 20 21), (0, u "com/example/swivel/swivel/Matrix3RowsPinLaw"), (0, u "same"), (0, u "([[D[D)Z"), (2, u "law"), (0, u "(IIIIII)Z")] 7

def k1m0 : Method := { name := "<init>", desc := "()V", sig := { parameters := [], returnType := none }, accessFlags := 1, code := none }
def k1c1 : Code := { maxStack := 20, maxLocals := 10, code := code, exceptionTable := #[], attributes := #[] }
def k1m1 : Method := { name := "law", desc := "(IIIIII)Z", sig := { parameters := [.int, .int, .int, .int, .int, .int], returnType := some .boolean }, accessFlags := 9, code := some k1c1 }
def k1c2 : Code := { maxStack := 4, maxLocals := 2, code := method_3_code, exceptionTable := #[], attributes := #[] }
def k1m2 : Method := { name := "same", desc := "([[D[D)Z", sig := { parameters := [(.array (.array .double)), (.array .double)], returnType := some .boolean }, accessFlags := 10, code := some k1c2 }
/-- com/example/swivel/swivel/Matrix3RowsPinLaw -/
def k1 : Class := { plain "com/example/swivel/swivel/Matrix3RowsPinLaw" (some 0) with
  accessFlags := 49
  interfaces := #[]
  cf := some (fileOf pool1 17 #[] #[{ accessFlags := 1, nameIndex := 5, descriptorIndex := 6, attributes := #[] }, { accessFlags := 9, nameIndex := 24, descriptorIndex := 25, attributes := #[] }, { accessFlags := 10, nameIndex := 20, descriptorIndex := 21, attributes := #[] }] 49 2 #[] #[])
  fields := #[]
  methods := #[k1m0, k1m1, k1m2]
  instanceTypes := #[]
  staticTypes := #[]
  resolved := Array.replicate 33 none
  statics := none }

def pool2 : Array CpInfo := pool [(1, .methodref 2 3), (0, .class_ 4), (0, .nameAndType 5 6), (0, u "com/example/swivel/swivel/Matrix3"), (0, u "requireFinite"), (0, u "(DDDDDDDDD)Lcom/example/swivel/swivel/Matrix3$Entries;"), (0, .methodref 2 8), (0, .nameAndType 9 10), (0, u "<init>"), (0, u "(Lcom/example/swivel/swivel/Matrix3$Entries;DDDDDDDDD)V"), (0, .methodref 12 13), (0, .class_ 14), (0, .nameAndType 9 15), (0, u "java/lang/Object"), (0, u "()V"), (0, .fieldref 2 17), (0, .nameAndType 18 19), (0, u "m11"), (0, u "D"), (0, .fieldref 2 21), (0, .nameAndType 22 19), (0, u "m12"), (0, .fieldref 2 24), (0, .nameAndType 25 19), (0, u "m13"), (0, .fieldref 2 27), (0, .nameAndType 28 19), (0, u "m21"), (0, .fieldref 2 30), (0, .nameAndType 31 19), (0, u "m22"), (0, .fieldref 2 33), (0, .nameAndType 34 19), (0, u "m23"), (0, .fieldref 2 36), (0, .nameAndType 37 19), (0, u "m31"), (0, .fieldref 2 39), (0, .nameAndType 40 19), (0, u "m32"), (0, .fieldref 2 42), (0, .nameAndType 43 19), (0, u "m33"), (0, .methodref 45 46), (0, .class_ 47), (0, .nameAndType 48 49), (0, u "java/lang/Double"), (0, u "isFinite"), (0, u "(D)Z"), (5, .fieldref 56 57), (0, .class_ 58), (0, .nameAndType 59 60), (0, u "com/example/swivel/swivel/Matrix3$Entries"), (0, u "FINITE"), (0, u "Lcom/example/swivel/swivel/Matrix3$Entries;"), (135, .class_ 197), (0, u "[D"), (11, u "ORTHOGONALITY_TOLERANCE"), (1, u "SERIES_LIMIT"), (2, u "(DDDDDDDDD)V"), (7, u "rows"), (0, u "()[[D")] 29

def k2c0 : Code := { maxStack := 20, maxLocals := 19, code := prog_6_method_1_code, exceptionTable := #[], attributes := #[] }
def k2m0 : Method := { name := "<init>", desc := "(DDDDDDDDD)V", sig := { parameters := [.double, .double, .double, .double, .double, .double, .double, .double, .double], returnType := none }, accessFlags := 1, code := some k2c0 }
def k2c1 : Code := { maxStack := 3, maxLocals := 20, code := prog_6_method_2_code, exceptionTable := #[], attributes := #[] }
def k2m1 : Method := { name := "<init>", desc := "(Lcom/example/swivel/swivel/Matrix3$Entries;DDDDDDDDD)V", sig := { parameters := [(.object "com/example/swivel/swivel/Matrix3$Entries"), .double, .double, .double, .double, .double, .double, .double, .double, .double], returnType := none }, accessFlags := 2, code := some k2c1 }
def k2c2 : Code := { maxStack := 8, maxLocals := 18, code := prog_6_method_3_code, exceptionTable := #[], attributes := #[] }
def k2m2 : Method := { name := "requireFinite", desc := "(DDDDDDDDD)Lcom/example/swivel/swivel/Matrix3$Entries;", sig := { parameters := [.double, .double, .double, .double, .double, .double, .double, .double, .double], returnType := some (.object "com/example/swivel/swivel/Matrix3$Entries") }, accessFlags := 10, code := some k2c2 }
def k2c3 : Code := { maxStack := 8, maxLocals := 1, code := prog_6_method_14_code, exceptionTable := #[], attributes := #[] }
def k2m3 : Method := { name := "rows", desc := "()[[D", sig := { parameters := [], returnType := some (.array (.array .double)) }, accessFlags := 1, code := some k2c3 }
/-- com/example/swivel/swivel/Matrix3 -/
def k2 : Class := { plain "com/example/swivel/swivel/Matrix3" (some 0) with
  accessFlags := 49
  interfaces := #[]
  cf := some (fileOf pool2 2 #[.nestMembers #[56]] #[{ accessFlags := 1, nameIndex := 9, descriptorIndex := 214, attributes := #[] }, { accessFlags := 2, nameIndex := 9, descriptorIndex := 10, attributes := #[] }, { accessFlags := 10, nameIndex := 5, descriptorIndex := 6, attributes := #[] }, { accessFlags := 1, nameIndex := 222, descriptorIndex := 223, attributes := #[] }] 49 12 #[] #[{ accessFlags := 26, nameIndex := 209, descriptorIndex := 19, attributes := #[] }, { accessFlags := 26, nameIndex := 211, descriptorIndex := 19, attributes := #[] }, { accessFlags := 18, nameIndex := 18, descriptorIndex := 19, attributes := #[] }, { accessFlags := 18, nameIndex := 22, descriptorIndex := 19, attributes := #[] }, { accessFlags := 18, nameIndex := 25, descriptorIndex := 19, attributes := #[] }, { accessFlags := 18, nameIndex := 28, descriptorIndex := 19, attributes := #[] }, { accessFlags := 18, nameIndex := 31, descriptorIndex := 19, attributes := #[] }, { accessFlags := 18, nameIndex := 34, descriptorIndex := 19, attributes := #[] }, { accessFlags := 18, nameIndex := 37, descriptorIndex := 19, attributes := #[] }, { accessFlags := 18, nameIndex := 40, descriptorIndex := 19, attributes := #[] }, { accessFlags := 18, nameIndex := 43, descriptorIndex := 19, attributes := #[] }])
  fields := #[{ name := "ORTHOGONALITY_TOLERANCE", type := .double, accessFlags := 26, slot := 0, constantValue := 0 }, { name := "SERIES_LIMIT", type := .double, accessFlags := 26, slot := 1, constantValue := 0 }, { name := "m11", type := .double, accessFlags := 18, slot := 0, constantValue := 0 }, { name := "m12", type := .double, accessFlags := 18, slot := 1, constantValue := 0 }, { name := "m13", type := .double, accessFlags := 18, slot := 2, constantValue := 0 }, { name := "m21", type := .double, accessFlags := 18, slot := 3, constantValue := 0 }, { name := "m22", type := .double, accessFlags := 18, slot := 4, constantValue := 0 }, { name := "m23", type := .double, accessFlags := 18, slot := 5, constantValue := 0 }, { name := "m31", type := .double, accessFlags := 18, slot := 6, constantValue := 0 }, { name := "m32", type := .double, accessFlags := 18, slot := 7, constantValue := 0 }, { name := "m33", type := .double, accessFlags := 18, slot := 8, constantValue := 0 }]
  methods := #[k2m0, k2m1, k2m2, k2m3]
  instanceTypes := #[.double, .double, .double, .double, .double, .double, .double, .double, .double]
  staticTypes := #[.double, .double]
  resolved := Array.replicate 253 none
  statics := none }

def pool3 : Array CpInfo := pool [(1, .class_ 2), (0, u "java/io/Serializable"), (0, .class_ 4), (0, u "java/lang/Object")] 2

/-- java/io/Serializable -/
def k3 : Class := { plain "java/io/Serializable" (some 0) with
  accessFlags := 1537
  interfaces := #[]
  cf := some (fileOf pool3 1 #[] #[] 1537 3 #[] #[])
  fields := #[]
  methods := #[]
  instanceTypes := #[]
  staticTypes := #[]
  resolved := Array.replicate 7 none
  statics := none }

def pool4 : Array CpInfo := pool [(2, .class_ 4), (1, u "java/lang/Object"), (0, u "<init>"), (0, u "()V"), (1, .class_ 10), (1, u "java/lang/Number"), (2, .class_ 14), (0, u "java/io/Serializable"), (0, u "serialVersionUID"), (0, u "J")] 20

def k4m0 : Method := { name := "<init>", desc := "()V", sig := { parameters := [], returnType := none }, accessFlags := 1, code := none }
/-- java/lang/Number -/
def k4 : Class := { plain "java/lang/Number" (some 0) with
  accessFlags := 1057
  interfaces := #[3]
  cf := some (fileOf pool4 8 #[] #[{ accessFlags := 1, nameIndex := 5, descriptorIndex := 6, attributes := #[] }] 1057 2 #[13] #[{ accessFlags := 26, nameIndex := 15, descriptorIndex := 16, attributes := #[] }])
  fields := #[{ name := "serialVersionUID", type := .long, accessFlags := 26, slot := 0, constantValue := 0 }]
  methods := #[k4m0]
  instanceTypes := #[]
  staticTypes := #[.long]
  resolved := Array.replicate 37 none
  statics := none }

def pool5 : Array CpInfo := pool [(1, .class_ 2), (0, u "java/lang/Comparable"), (0, .class_ 4), (0, u "java/lang/Object")] 7

/-- java/lang/Comparable -/
def k5 : Class := { plain "java/lang/Comparable" (some 0) with
  accessFlags := 1537
  interfaces := #[]
  cf := some (fileOf pool5 1 #[] #[] 1537 3 #[] #[])
  fields := #[]
  methods := #[]
  instanceTypes := #[]
  staticTypes := #[]
  resolved := Array.replicate 12 none
  statics := none }

def pool6 : Array CpInfo := pool [(1, .class_ 2), (0, u "java/lang/constant/Constable"), (0, .class_ 4), (0, u "java/lang/Object")] 6

/-- java/lang/constant/Constable -/
def k6 : Class := { plain "java/lang/constant/Constable" (some 0) with
  accessFlags := 1537
  interfaces := #[]
  cf := some (fileOf pool6 1 #[] #[] 1537 3 #[] #[])
  fields := #[]
  methods := #[]
  instanceTypes := #[]
  staticTypes := #[]
  resolved := Array.replicate 11 none
  statics := none }

def pool7 : Array CpInfo := pool [(1, .class_ 2), (0, u "java/lang/constant/ConstantDesc"), (0, .class_ 4), (0, u "java/lang/Object")] 32

/-- java/lang/constant/ConstantDesc -/
def k7 : Class := { plain "java/lang/constant/ConstantDesc" (some 0) with
  accessFlags := 1537
  interfaces := #[]
  cf := some (fileOf pool7 1 #[] #[] 1537 3 #[] #[])
  fields := #[]
  methods := #[]
  instanceTypes := #[]
  staticTypes := #[]
  resolved := Array.replicate 37 none
  statics := none }

def pool8 : Array CpInfo := pool [(1, .class_ 2), (0, u "java/lang/Double"), (10, u "isFinite"), (0, u "(D)Z"), (8, .class_ 25), (1, u "java/lang/Math"), (12, .methodref 23 39), (0, .nameAndType 40 41), (0, u "abs"), (0, u "(D)D"), (69, .double 9218868437227405311), (2, .class_ 116), (1, u "java/lang/Number"), (3, u "value"), (0, u "D"), (51, u "TYPE"), (0, u "Ljava/lang/Class;"), (0, .class_ 176), (0, u "java/lang/Comparable"), (0, .class_ 178), (0, u "java/lang/constant/Constable"), (0, .class_ 180), (0, u "java/lang/constant/ConstantDesc"), (0, u "POSITIVE_INFINITY"), (3, u "NEGATIVE_INFINITY"), (2, u "NaN"), (2, u "MAX_VALUE"), (0, u "MIN_NORMAL"), (0, u "MIN_VALUE"), (2, u "SIZE"), (0, u "I"), (1, u "PRECISION"), (1, u "MAX_EXPONENT"), (1, u "MIN_EXPONENT"), (1, u "BYTES"), (3, u "serialVersionUID"), (0, u "J")] 79

def k8c0 : Code := { maxStack := 4, maxLocals := 2, code := jdk_117_method_8_code, exceptionTable := #[], attributes := #[] }
def k8m0 : Method := { name := "isFinite", desc := "(D)Z", sig := { parameters := [.double], returnType := some .boolean }, accessFlags := 9, code := some k8c0 }
/-- java/lang/Double -/
def k8 : Class := { plain "java/lang/Double" (some 4) with
  accessFlags := 49
  interfaces := #[5, 6, 7]
  cf := some (fileOf pool8 1 #[] #[{ accessFlags := 9, nameIndex := 13, descriptorIndex := 14, attributes := #[] }] 49 114 #[175, 177, 179] #[{ accessFlags := 25, nameIndex := 181, descriptorIndex := 121, attributes := #[] }, { accessFlags := 25, nameIndex := 185, descriptorIndex := 121, attributes := #[] }, { accessFlags := 25, nameIndex := 188, descriptorIndex := 121, attributes := #[] }, { accessFlags := 25, nameIndex := 191, descriptorIndex := 121, attributes := #[] }, { accessFlags := 25, nameIndex := 192, descriptorIndex := 121, attributes := #[] }, { accessFlags := 25, nameIndex := 193, descriptorIndex := 121, attributes := #[] }, { accessFlags := 25, nameIndex := 196, descriptorIndex := 197, attributes := #[] }, { accessFlags := 25, nameIndex := 199, descriptorIndex := 197, attributes := #[] }, { accessFlags := 25, nameIndex := 201, descriptorIndex := 197, attributes := #[] }, { accessFlags := 25, nameIndex := 203, descriptorIndex := 197, attributes := #[] }, { accessFlags := 25, nameIndex := 205, descriptorIndex := 197, attributes := #[] }, { accessFlags := 25, nameIndex := 173, descriptorIndex := 174, attributes := #[] }, { accessFlags := 18, nameIndex := 120, descriptorIndex := 121, attributes := #[] }, { accessFlags := 26, nameIndex := 209, descriptorIndex := 210, attributes := #[] }])
  fields := #[{ name := "POSITIVE_INFINITY", type := .double, accessFlags := 25, slot := 0, constantValue := 0 }, { name := "NEGATIVE_INFINITY", type := .double, accessFlags := 25, slot := 1, constantValue := 0 }, { name := "NaN", type := .double, accessFlags := 25, slot := 2, constantValue := 0 }, { name := "MAX_VALUE", type := .double, accessFlags := 25, slot := 3, constantValue := 0 }, { name := "MIN_NORMAL", type := .double, accessFlags := 25, slot := 4, constantValue := 0 }, { name := "MIN_VALUE", type := .double, accessFlags := 25, slot := 5, constantValue := 0 }, { name := "SIZE", type := .int, accessFlags := 25, slot := 6, constantValue := 0 }, { name := "PRECISION", type := .int, accessFlags := 25, slot := 7, constantValue := 0 }, { name := "MAX_EXPONENT", type := .int, accessFlags := 25, slot := 8, constantValue := 0 }, { name := "MIN_EXPONENT", type := .int, accessFlags := 25, slot := 9, constantValue := 0 }, { name := "BYTES", type := .int, accessFlags := 25, slot := 10, constantValue := 0 }, { name := "TYPE", type := (.object "java/lang/Class"), accessFlags := 25, slot := 11, constantValue := 0 }, { name := "value", type := .double, accessFlags := 18, slot := 0, constantValue := 0 }, { name := "serialVersionUID", type := .long, accessFlags := 26, slot := 12, constantValue := 0 }]
  methods := #[k8m0]
  instanceTypes := #[.double]
  staticTypes := #[.double, .double, .double, .double, .double, .double, .int, .int, .int, .int, .int, (.object "java/lang/Class"), .long]
  resolved := Array.replicate 290 none
  statics := none }

def pool9 : Array CpInfo := pool [(1, .class_ 2), (0, u "java/lang/Math"), (1, .class_ 6), (1, u "java/lang/Object"), (0, u "<init>"), (0, u "()V"), (5, u "(D)D"), (83, .class_ 100), (1, u "java/lang/Math$RandomNumberGeneratorHolder"), (23, u "abs"), (47, u "negativeZeroFloatBits"), (0, u "J"), (2, u "negativeZeroDoubleBits"), (68, u "$assertionsDisabled"), (0, u "Z"), (91, u "twoToTheDoubleScaleDown"), (0, u "D"), (4, u "twoToTheDoubleScaleUp"), (9, u "E"), (3, u "PI"), (2, u "TAU"), (2, u "DEGREES_TO_RADIANS"), (0, u "RADIANS_TO_DEGREES")] 94

def k9m0 : Method := { name := "<init>", desc := "()V", sig := { parameters := [], returnType := none }, accessFlags := 2, code := none }
def k9c1 : Code := { maxStack := 4, maxLocals := 2, code := jdk_29_method_64_code, exceptionTable := #[], attributes := #[] }
def k9m1 : Method := { name := "abs", desc := "(D)D", sig := { parameters := [.double], returnType := some .double }, accessFlags := 9, code := some k9c1 }
/-- java/lang/Math -/
def k9 : Class := { plain "java/lang/Math" (some 0) with
  accessFlags := 49
  interfaces := #[]
  cf := some (fileOf pool9 1 #[.nestMembers #[98]] #[{ accessFlags := 2, nameIndex := 7, descriptorIndex := 8, attributes := #[] }, { accessFlags := 9, nameIndex := 124, descriptorIndex := 14, attributes := #[] }] 49 4 #[] #[{ accessFlags := 25, nameIndex := 354, descriptorIndex := 339, attributes := #[] }, { accessFlags := 25, nameIndex := 358, descriptorIndex := 339, attributes := #[] }, { accessFlags := 25, nameIndex := 361, descriptorIndex := 339, attributes := #[] }, { accessFlags := 26, nameIndex := 364, descriptorIndex := 339, attributes := #[] }, { accessFlags := 26, nameIndex := 365, descriptorIndex := 339, attributes := #[] }, { accessFlags := 26, nameIndex := 172, descriptorIndex := 173, attributes := #[] }, { accessFlags := 26, nameIndex := 176, descriptorIndex := 173, attributes := #[] }, { accessFlags := 8, nameIndex := 344, descriptorIndex := 339, attributes := #[] }, { accessFlags := 8, nameIndex := 338, descriptorIndex := 339, attributes := #[] }, { accessFlags := 4120, nameIndex := 245, descriptorIndex := 246, attributes := #[] }])
  fields := #[{ name := "E", type := .double, accessFlags := 25, slot := 0, constantValue := 0 }, { name := "PI", type := .double, accessFlags := 25, slot := 1, constantValue := 0 }, { name := "TAU", type := .double, accessFlags := 25, slot := 2, constantValue := 0 }, { name := "DEGREES_TO_RADIANS", type := .double, accessFlags := 26, slot := 3, constantValue := 0 }, { name := "RADIANS_TO_DEGREES", type := .double, accessFlags := 26, slot := 4, constantValue := 0 }, { name := "negativeZeroFloatBits", type := .long, accessFlags := 26, slot := 5, constantValue := 0 }, { name := "negativeZeroDoubleBits", type := .long, accessFlags := 26, slot := 6, constantValue := 0 }, { name := "twoToTheDoubleScaleUp", type := .double, accessFlags := 8, slot := 7, constantValue := 0 }, { name := "twoToTheDoubleScaleDown", type := .double, accessFlags := 8, slot := 8, constantValue := 0 }, { name := "$assertionsDisabled", type := .boolean, accessFlags := 4120, slot := 9, constantValue := 0 }]
  methods := #[k9m0, k9m1]
  instanceTypes := #[]
  staticTypes := #[.double, .double, .double, .double, .double, .long, .long, .double, .double, .boolean]
  resolved := Array.replicate 460 none
  statics := none }

def pool10 : Array CpInfo := pool [(2, .class_ 4), (1, u "java/lang/Enum"), (0, u "name"), (0, u "Ljava/lang/String;"), (2, u "ordinal"), (0, u "I"), (1, .class_ 14), (1, u "java/lang/Object"), (4, u "hash"), (86, .class_ 108), (1, u "java/lang/Enum$EnumDesc"), (2, .class_ 112), (0, u "java/lang/constant/Constable"), (0, .class_ 114), (0, u "java/lang/Comparable"), (0, .class_ 116), (0, u "java/io/Serializable")] 87

/-- java/lang/Enum -/
def k10 : Class := { plain "java/lang/Enum" (some 0) with
  accessFlags := 1057
  interfaces := #[6, 5, 3]
  cf := some (fileOf pool10 2 #[.nestMembers #[106]] #[] 1057 12 #[111, 113, 115] #[{ accessFlags := 18, nameIndex := 5, descriptorIndex := 6, attributes := #[] }, { accessFlags := 18, nameIndex := 9, descriptorIndex := 10, attributes := #[] }, { accessFlags := 2, nameIndex := 19, descriptorIndex := 10, attributes := #[] }])
  fields := #[{ name := "name", type := (.object "java/lang/String"), accessFlags := 18, slot := 0, constantValue := 0 }, { name := "ordinal", type := .int, accessFlags := 18, slot := 1, constantValue := 0 }, { name := "hash", type := .int, accessFlags := 2, slot := 2, constantValue := 0 }]
  methods := #[]
  instanceTypes := #[(.object "java/lang/String"), .int, .int]
  staticTypes := #[]
  resolved := Array.replicate 204 none
  statics := none }

def pool11 : Array CpInfo := pool [(1, .class_ 2), (0, u "com/example/swivel/swivel/Matrix3$Entries"), (2, u "FINITE"), (0, u "Lcom/example/swivel/swivel/Matrix3$Entries;"), (2, u "$VALUES"), (0, u "[Lcom/example/swivel/swivel/Matrix3$Entries;"), (6, .class_ 19), (1, u "java/lang/Enum"), (24, .class_ 45), (0, u "com/example/swivel/swivel/Matrix3")] 2

/-- com/example/swivel/swivel/Matrix3$Entries -/
def k11 : Class := { plain "com/example/swivel/swivel/Matrix3$Entries" (some 10) with
  accessFlags := 16432
  interfaces := #[]
  cf := some (fileOf pool11 1 #[.nestHost 44] #[] 16432 17 #[] #[{ accessFlags := 16409, nameIndex := 5, descriptorIndex := 6, attributes := #[] }, { accessFlags := 4122, nameIndex := 9, descriptorIndex := 10, attributes := #[] }])
  fields := #[{ name := "FINITE", type := (.object "com/example/swivel/swivel/Matrix3$Entries"), accessFlags := 16409, slot := 0, constantValue := 0 }, { name := "$VALUES", type := (.array (.object "com/example/swivel/swivel/Matrix3$Entries")), accessFlags := 4122, slot := 1, constantValue := 0 }]
  methods := #[]
  instanceTypes := #[(.object "java/lang/String"), .int, .int]
  staticTypes := #[(.object "com/example/swivel/swivel/Matrix3$Entries"), (.array (.object "com/example/swivel/swivel/Matrix3$Entries"))]
  resolved := Array.replicate 48 none
  statics := some 0 }

def pool12 : Array CpInfo := pool [(1, u "java/lang/Cloneable"), (0, .class_ 1), (0, u "java/lang/Object"), (0, .class_ 3)] 3

/-- java/lang/Cloneable -/
def k12 : Class := { plain "java/lang/Cloneable" (some 0) with
  accessFlags := 1537
  interfaces := #[]
  cf := some (fileOf pool12 2 #[] #[] 1537 4 #[] #[])
  fields := #[]
  methods := #[]
  instanceTypes := #[]
  staticTypes := #[]
  resolved := Array.replicate 8 none
  statics := none }

/-- the primitive byte -/
def k13 : Class := { plain "byte" none with kind := .primitive 'B', accessFlags := 0x411 }
/-- [B -/
def k14 : Class := { plain "[B" (some 0) with kind := .array 13 .byte, interfaces := #[12, 3], accessFlags := 1041 }

/-- the primitive double -/
def k15 : Class := { plain "double" none with kind := .primitive 'D', accessFlags := 0x411 }
/-- [D -/
def k16 : Class := { plain "[D" (some 0) with kind := .array 15 .double, interfaces := #[12, 3], accessFlags := 1041 }

/-- the primitive int -/
def k17 : Class := { plain "int" none with kind := .primitive 'I', accessFlags := 0x411 }
/-- [I -/
def k18 : Class := { plain "[I" (some 0) with kind := .array 17 .int, interfaces := #[12, 3], accessFlags := 1041 }

/-- [[D -/
def k19 : Class := { plain "[[D" (some 0) with kind := .array 16 (.array .double), interfaces := #[12, 3], accessFlags := 1041 }

def heap : Heap := #[{ cls := 11, slots := #[.ref 1, .null], vm := .statics 11 },
  { cls := 11, slots := #[.null, .int 0, .int 0], vm := .none }]
def classes : Array Class := #[k0, k1, k2, k3, k4, k5, k6, k7, k8, k9, k10, k11, k12, k13, k14, k15, k16, k17, k18, k19]
def interned : List (Array UInt16 × Addr) := []
def slotsUsed : Nat := 5
def theMethod : MethodId := ⟨1, 1⟩
def args0 : Array Value := #[.int 5, .int 7, .int 0, .int 3, .int 2, .int 9]
def aboutOver (below : List Frame) : State where
  vm := { classes := classes, interned := interned.toArray }
  heap := heap
  slotsUsed := slotsUsed
  threads := #[{ frames := .invoking theMethod args0 :: below }]
def below0 : List Frame := [.native { method := ⟨0, 0⟩, args := #[] }]
def about1 : State := aboutOver below0
def p0 : Program := .bare "" "" ""
def e0 : Env := launch0.env 0 0 0
theorem w_frames : about1.frames = Frame.invoking theMethod args0 :: below0 := rfl
set_option maxRecDepth 65536 in
theorem w_args : argsFit about1.vm theMethod args0 = true := by decide +kernel
set_option maxRecDepth 65536 in
theorem w_heap : heapFits about1 = true := by decide +kernel
set_option maxRecDepth 65536 in
theorem w_runnable : about1.curStatus? = some .runnable := by decide +kernel
set_option maxRecDepth 65536 in
theorem w_alone : about1.alone = true := by decide +kernel
set_option maxRecDepth 65536 in
theorem w_named : about1.methodNamed? x = some theMethod := by decide +kernel
set_option maxRecDepth 65536 in
theorem w_hears : about1.hears theMethod below0 = true := by decide +kernel
set_option maxRecDepth 65536 in
theorem w_ripe : about1.ripe theMethod args0 below0 = true := by decide +kernel
theorem w_running : about1.status = .running := rfl
set_option maxRecDepth 65536 in
theorem w_room : about1.hasRoom e0.platform room_1 = true :=
  launch0.hasRoom_least _ room_1 (by decide +kernel) (by decide +kernel) (by decide +kernel) (by decide +kernel) (by decide +kernel) (by decide +kernel)
theorem allAtoms_all (ts : List Jvm.Cond) (a : Array Jvm.Value) (st : Jvm.State) : (allAtoms ts).before a st = ts.all (fun c => c.before a st) := by
  induction ts with
  | nil => rfl
  | cons c t ih =>
    show (Jvm.Cond.and c (allAtoms t)).before a st = _
    rw [Jvm.Cond.before_and, ih, List.all_cons]
def words1 : List Jvm.Cond := Jvm.Cond.code x code maxLocals ret :: tables_1
/-- a 'code' word, met by the world's own term for the bytes: nothing is compared byte by byte -/
theorem code_word {y : MethodName} {bytes : ByteArray} {mx : Nat} {rt : Option FieldType} {a : Array Value} {s : State} {m : MethodId} {meth : Method} {c : Code} (h1 : s.methodNamed? y = some m) (h2 : s.vm.method? m = some meth) (h3 : meth.code = some c) (h4 : c.code = bytes)
    (h5 : (c.maxLocals == mx && c.exceptionTable.isEmpty && decide (c.maxStack ≤ mostOperands) && decide (meth.sig.returnType = rt) && !meth.locks && decide (parseMethodDescriptor y.desc = some meth.sig)) = true) : (Jvm.Cond.code y bytes mx rt).before a s = true := by
  simp only [Bool.and_eq_true, beq_iff_eq, Bool.not_eq_true', decide_eq_true_eq] at h5
  obtain ⟨⟨⟨⟨⟨g1, g2⟩, g3⟩, g4⟩, g5⟩, g6⟩ := h5
  simp [Cond.before, Cond.holds, Cond.value, h1, h2, h3, h4, g1, g2, g3, g4, g5, g6]
def isCode : Jvm.Cond → Bool
  | .code _ _ _ _ => true
  | _ => false
theorem all_split {L : List Jvm.Cond} {P : Jvm.Cond → Bool} (h1 : L.all (fun c => isCode c || P c) = true) (h2 : ∀ c ∈ L.filter isCode, P c = true) : L.all P = true := by
  refine List.all_eq_true.mpr fun c hc => ?_
  have h := List.all_eq_true.mp h1 c hc
  rcases Bool.eq_false_or_eq_true (isCode c) with hi | hi
  · exact h2 c (List.mem_filter.mpr ⟨hc, hi⟩)
  · simpa [hi] using h
set_option maxRecDepth 65536 in
theorem w_c0 : (Jvm.Cond.code x code maxLocals ret).before args0 about1 = true := code_word (m := ⟨1, 1⟩) (meth := k1m1) (c := k1c1) (by decide +kernel) rfl rfl rfl (by decide +kernel)
set_option maxRecDepth 65536 in
theorem w_c1 : (Jvm.Cond.code ({ cls := "com/example/swivel/swivel/Matrix3", name := "<init>", desc := "(DDDDDDDDD)V" } : Jvm.MethodName) prog_6_method_1_code (19 : Nat) (Option.none : Option Jvm.ClassFile.FieldType)).before args0 about1 = true := code_word (m := ⟨2, 0⟩) (meth := k2m0) (c := k2c0) (by decide +kernel) rfl rfl rfl (by decide +kernel)
set_option maxRecDepth 65536 in
theorem w_c2 : (Jvm.Cond.code ({ cls := "com/example/swivel/swivel/Matrix3", name := "requireFinite", desc := "(DDDDDDDDD)Lcom/example/swivel/swivel/Matrix3$Entries;" } : Jvm.MethodName) prog_6_method_3_code (18 : Nat) (Option.some (Jvm.ClassFile.FieldType.object "com/example/swivel/swivel/Matrix3$Entries"))).before args0 about1 = true := code_word (m := ⟨2, 2⟩) (meth := k2m2) (c := k2c2) (by decide +kernel) rfl rfl rfl (by decide +kernel)
set_option maxRecDepth 65536 in
theorem w_c3 : (Jvm.Cond.code ({ cls := "java/lang/Double", name := "isFinite", desc := "(D)Z" } : Jvm.MethodName) jdk_117_method_8_code (2 : Nat) (Option.some Jvm.ClassFile.FieldType.boolean)).before args0 about1 = true := code_word (m := ⟨8, 0⟩) (meth := k8m0) (c := k8c0) (by decide +kernel) rfl rfl rfl (by decide +kernel)
set_option maxRecDepth 65536 in
theorem w_c4 : (Jvm.Cond.code ({ cls := "java/lang/Math", name := "abs", desc := "(D)D" } : Jvm.MethodName) jdk_29_method_64_code (2 : Nat) (Option.some Jvm.ClassFile.FieldType.double)).before args0 about1 = true := code_word (m := ⟨9, 1⟩) (meth := k9m1) (c := k9c1) (by decide +kernel) rfl rfl rfl (by decide +kernel)
set_option maxRecDepth 65536 in
theorem w_c5 : (Jvm.Cond.code ({ cls := "com/example/swivel/swivel/Matrix3", name := "<init>", desc := "(Lcom/example/swivel/swivel/Matrix3$Entries;DDDDDDDDD)V" } : Jvm.MethodName) prog_6_method_2_code (20 : Nat) (Option.none : Option Jvm.ClassFile.FieldType)).before args0 about1 = true := code_word (m := ⟨2, 1⟩) (meth := k2m1) (c := k2c1) (by decide +kernel) rfl rfl rfl (by decide +kernel)
set_option maxRecDepth 65536 in
theorem w_c6 : (Jvm.Cond.code ({ cls := "java/lang/Object", name := "<init>", desc := "()V" } : Jvm.MethodName) object_method_1_code (1 : Nat) (Option.none : Option Jvm.ClassFile.FieldType)).before args0 about1 = true := code_word (m := ⟨0, 0⟩) (meth := k0m0) (c := k0c0) (by decide +kernel) rfl rfl rfl (by decide +kernel)
set_option maxRecDepth 65536 in
theorem w_c7 : (Jvm.Cond.code ({ cls := "com/example/swivel/swivel/Matrix3", name := "rows", desc := "()[[D" } : Jvm.MethodName) prog_6_method_14_code (1 : Nat) (Option.some (Jvm.ClassFile.FieldType.array (Jvm.ClassFile.FieldType.array Jvm.ClassFile.FieldType.double)))).before args0 about1 = true := code_word (m := ⟨2, 3⟩) (meth := k2m3) (c := k2c3) (by decide +kernel) rfl rfl rfl (by decide +kernel)
set_option maxRecDepth 65536 in
theorem w_c8 : (Jvm.Cond.code ({ cls := "com/example/swivel/swivel/Matrix3RowsPinLaw", name := "same", desc := "([[D[D)Z" } : Jvm.MethodName) method_3_code (2 : Nat) (Option.some Jvm.ClassFile.FieldType.boolean)).before args0 about1 = true := code_word (m := ⟨1, 2⟩) (meth := k1m2) (c := k1c2) (by decide +kernel) rfl rfl rfl (by decide +kernel)
def codes1 : List Jvm.Cond := [Jvm.Cond.code x code maxLocals ret, Jvm.Cond.code ({ cls := "com/example/swivel/swivel/Matrix3", name := "<init>", desc := "(DDDDDDDDD)V" } : Jvm.MethodName) prog_6_method_1_code (19 : Nat) (Option.none : Option Jvm.ClassFile.FieldType), Jvm.Cond.code ({ cls := "com/example/swivel/swivel/Matrix3", name := "requireFinite", desc := "(DDDDDDDDD)Lcom/example/swivel/swivel/Matrix3$Entries;" } : Jvm.MethodName) prog_6_method_3_code (18 : Nat) (Option.some (Jvm.ClassFile.FieldType.object "com/example/swivel/swivel/Matrix3$Entries")), Jvm.Cond.code ({ cls := "java/lang/Double", name := "isFinite", desc := "(D)Z" } : Jvm.MethodName) jdk_117_method_8_code (2 : Nat) (Option.some Jvm.ClassFile.FieldType.boolean), Jvm.Cond.code ({ cls := "java/lang/Math", name := "abs", desc := "(D)D" } : Jvm.MethodName) jdk_29_method_64_code (2 : Nat) (Option.some Jvm.ClassFile.FieldType.double), Jvm.Cond.code ({ cls := "com/example/swivel/swivel/Matrix3", name := "<init>", desc := "(Lcom/example/swivel/swivel/Matrix3$Entries;DDDDDDDDD)V" } : Jvm.MethodName) prog_6_method_2_code (20 : Nat) (Option.none : Option Jvm.ClassFile.FieldType), Jvm.Cond.code ({ cls := "java/lang/Object", name := "<init>", desc := "()V" } : Jvm.MethodName) object_method_1_code (1 : Nat) (Option.none : Option Jvm.ClassFile.FieldType), Jvm.Cond.code ({ cls := "com/example/swivel/swivel/Matrix3", name := "rows", desc := "()[[D" } : Jvm.MethodName) prog_6_method_14_code (1 : Nat) (Option.some (Jvm.ClassFile.FieldType.array (Jvm.ClassFile.FieldType.array Jvm.ClassFile.FieldType.double))), Jvm.Cond.code ({ cls := "com/example/swivel/swivel/Matrix3RowsPinLaw", name := "same", desc := "([[D[D)Z" } : Jvm.MethodName) method_3_code (2 : Nat) (Option.some Jvm.ClassFile.FieldType.boolean)]
set_option maxRecDepth 65536 in
theorem codes_eq : words1.filter isCode = codes1 := rfl
theorem w_codes : ∀ c ∈ words1.filter isCode, c.before args0 about1 = true := by
  rw [codes_eq]
  intro c hc
  simp only [codes1, List.mem_cons, List.not_mem_nil, or_false] at hc
  rcases hc with rfl | rfl | rfl | rfl | rfl | rfl | rfl | rfl | rfl
  · exact w_c0
  · exact w_c1
  · exact w_c2
  · exact w_c3
  · exact w_c4
  · exact w_c5
  · exact w_c6
  · exact w_c7
  · exact w_c8
set_option maxRecDepth 65536 in
theorem w_t1 : (words1.take 24).all (fun c => isCode c || c.before args0 about1) = true := by decide +kernel
set_option maxRecDepth 65536 in
theorem w_t2 : ((words1.drop 24).take 24).all (fun c => isCode c || c.before args0 about1) = true := by decide +kernel
set_option maxRecDepth 65536 in
theorem w_t3 : ((words1.drop 24).drop 24).all (fun c => isCode c || c.before args0 about1) = true := by decide +kernel
theorem w_tables : (allAtoms (Jvm.Cond.code x code maxLocals ret :: tables_1)).before args0 about1 = true := by
  rw [allAtoms_all]
  show words1.all (fun c => c.before args0 about1) = true
  refine all_split ?_ w_codes
  rw [← List.take_append_drop 24 words1, List.all_append, w_t1, ← List.take_append_drop 24 (words1.drop 24), List.all_append, w_t2, w_t3]
  rfl
set_option maxRecDepth 65536 in
theorem w_case : (Jvm.Cond.and given_1 narrow_1).before args0 about1 = true := by decide +kernel
theorem w_applies : (headSpec (Jvm.Cond.code x code maxLocals ret :: tables_1) room_1).applies x e0.platform about1 = true :=
  (Spec.applies_iff w_frames).mpr ⟨w_running, w_runnable, w_alone, w_named, w_hears, w_ripe, w_room, w_tables⟩
theorem atStart : AtStart classFile x code maxLocals ret World_1 tables_1 room_1 Calls_1 rest_1 Pre_1 launch0 p0 e0 about1 theMethod args0 below0 :=
  ⟨lists_1, trivial, launch0.admits_env _ _ _, launch0.least_env, fairChoices_fair.cas, fairChoices_fair.clock, w_frames, w_args, w_heap, w_applies, trivial, trivial, w_case⟩
end start1
theorem witness_1 : WitnessClaimed_1 := ⟨start1.p0, start1.e0, start1.about1, start1.theMethod, start1.args0, start1.below0, start1.atStart⟩
end Jvm.Pilot.@@N@@
