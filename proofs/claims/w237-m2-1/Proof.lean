import JvmDerived
import JvmDerived.Pilot.@@N@@Statement
import JvmDerived.Pilot.@@N@@Code
set_option linter.unusedVariables false
set_option linter.unusedSimpArgs false
namespace Jvm.Own
open Sem ClassFile Op Lib Jvm.Stand Jvm.Free Jvm.LawKit Jvm.RoadKit Jvm.Free.Fl
/-- where a walk stands -/
def St (p : Program) (l : Launch) (e : Env) (R : Room) (s : State) (m : MethodId) (args : Array Value) (below : List Frame) (meth : Method) (c : Code) (Z : State) (B : ByteArray) (own nm : String) (ml : Nat) (ret : Option FieldType) (n0 : Nat) (T : State) (h : Heap) (k n : Nat) : Prop :=
  (p.tables.exec = Jvm.exec ∧ c.code = B ∧ Z.Warmed39 s.vm ∧ s.vm.findClass own = some m.cls ∧ c.maxLocals = ml ∧ meth.sig.returnType = ret ∧ meth.locks = false ∧ meth.name = nm) ∧ ∃ locs, Stand p l e R s m args below meth c T locs k n ∧ T.heap = h ∧ Fr n0 locs
/-- what is left to show of a walk: it ends, and what it leaves is Q -/
def Go (p : Program) (e : Env) (below : List Frame) (s : State) (n0 : Nat) (Q : Option Value → Heap → Prop) (kC kS : Nat) (t : State) : Prop :=
  ∃ s₂ o, Steps p.tables e below t s₂ ∧ s₂.status = .running ∧ Ended s₂ below o ∧ ∃ v L, o = .returned v ∧ (Q v s₂.heap ∧ Fr n0 L) ∧ FrameEnd s o s₂ L kC kS
/-- a body's contract -/
def Con (l : Launch) (Z : State) (y : MethodName) (ws : List Jvm.Cond) (B : ByteArray) (ml : Nat) (ret : Option FieldType) (rm : Room) (as : Array Value) (h0 : Heap) (n0 : Nat) (Q : Option Value → Heap → Prop) : Prop :=
  MetFree l y (head1 (Cond.code y B ml ret :: ws) rm) (fun a U => a = as ∧ Z.Warmed39 U.vm ∧ U.heap = h0) (fun _ _ _ _ _ => True) (fun _ U o U' => ∃ v L, o = .returned v ∧ (Q v U'.heap ∧ Fr n0 L) ∧ FrameEnd U o U' L rm.cells rm.slots)
theorem wd {ws : List Jvm.Cond} {a0 : Array Value} {Z : State} (hw : ∀ d ∈ ws, d.before a0 Z = true) (i : Nat) {d : Jvm.Cond} (q : ws[i]? = some d) : d.before a0 Z = true := hw d (List.mem_of_getElem? q)
section Kit
variable {p : Program} {l : Launch} {e : Env} {R : Room} {s : State} {m : MethodId} {args : Array Value} {below : List Frame} {meth : Method} {c : Code} {Z : State} {B : ByteArray} {own nm : String} {ml : Nat} {ret : Option FieldType} {n0 : Nat} {T : State} {h : Heap} {k n : Nat} {Q : Option Value → Heap → Prop} {kC kS : Nat}
theorem Go.st {t t' : State} (r : Go p e below s n0 Q kC kS t') (q : ∀ u, Steps p.tables e below t' u → Steps p.tables e below t u) : Go p e below s n0 Q kC kS t := by
  obtain ⟨s₂, o, h1, h2⟩ := r; exact ⟨s₂, o, q _ h1, h2⟩
theorem St.more {k' n' : Nat} (X : St p l e R s m args below meth c Z B own nm ml ret n0 T h k n) (hk : k ≤ k') (hn : n ≤ n') : St p l e R s m args below meth c Z B own nm ml ret n0 T h k' n' := by
  obtain ⟨q, locs, X, r⟩ := X; exact ⟨q, locs, X.more hk hn, r⟩
theorem St.z (X : St p l e R s m args below meth c Z B own nm ml ret n0 T h k n) : Z.Warmed39 s.vm := X.1.2.2.1

theorem iloadN (X : St p l e R s m args below meth c Z B own nm ml ret n0 T h k n) {pc : Nat} {Ls : Array Slot} {st : List Value} {j : Fin 4} {v : Int32} (hd : decode B pc = .ok (.iload_n j, 1)) (hl : Ls[j.val]? = some (.val (.int v)))
    (r : Go p e below s n0 Q kC kS (T.setTop (mkF m (pc + 1) Ls (.int v :: st)))) : Go p e below s n0 Q kC kS (T.setTop (mkF m pc Ls (st))) := by
  obtain ⟨⟨hx, rfl, -⟩, locs, X, -⟩ := X
  exact r.st fun u kk => XS.iloadN X.here hx rfl hd hl kk
theorem iload (X : St p l e R s m args below meth c Z B own nm ml ret n0 T h k n) {pc : Nat} {Ls : Array Slot} {st : List Value} {j : Nat} {v : Int32} (hd : decode B pc = .ok (.iload j, 2)) (hl : Ls[j]? = some (.val (.int v)))
    (r : Go p e below s n0 Q kC kS (T.setTop (mkF m (pc + 2) Ls (.int v :: st)))) : Go p e below s n0 Q kC kS (T.setTop (mkF m pc Ls (st))) := by
  obtain ⟨⟨hx, rfl, -⟩, locs, X, -⟩ := X
  exact r.st fun u kk => XS.iload X.here hx rfl hd hl kk
theorem istoreN (X : St p l e R s m args below meth c Z B own nm ml ret n0 T h k n) {pc : Nat} {Ls : Array Slot} {st : List Value} {j : Fin 4} {v : Int32} {l' : Array Slot} (hd : decode B pc = .ok (.istore_n j, 1)) (hl : storeLocals Ls j.val (.int v) = some l')
    (r : Go p e below s n0 Q kC kS (T.setTop (mkF m (pc + 1) l' (st)))) : Go p e below s n0 Q kC kS (T.setTop (mkF m pc Ls (.int v :: st))) := by
  obtain ⟨⟨hx, rfl, -⟩, locs, X, -⟩ := X
  exact r.st fun u kk => XS.istoreN X.here hx rfl hd rfl hl kk
theorem istore (X : St p l e R s m args below meth c Z B own nm ml ret n0 T h k n) {pc : Nat} {Ls : Array Slot} {st : List Value} {j : Nat} {v : Int32} {l' : Array Slot} (hd : decode B pc = .ok (.istore j, 2)) (hl : storeLocals Ls j (.int v) = some l')
    (r : Go p e below s n0 Q kC kS (T.setTop (mkF m (pc + 2) l' (st)))) : Go p e below s n0 Q kC kS (T.setTop (mkF m pc Ls (.int v :: st))) := by
  obtain ⟨⟨hx, rfl, -⟩, locs, X, -⟩ := X
  exact r.st fun u kk => XS.istore X.here hx rfl hd rfl hl kk
theorem lloadN (X : St p l e R s m args below meth c Z B own nm ml ret n0 T h k n) {pc : Nat} {Ls : Array Slot} {st : List Value} {j : Fin 4} {v : Int64} (hd : decode B pc = .ok (.lload_n j, 1)) (hl : Ls[j.val]? = some (.val (.long v)))
    (r : Go p e below s n0 Q kC kS (T.setTop (mkF m (pc + 1) Ls (.long v :: st)))) : Go p e below s n0 Q kC kS (T.setTop (mkF m pc Ls (st))) := by
  obtain ⟨⟨hx, rfl, -⟩, locs, X, -⟩ := X
  exact r.st fun u kk => XS.lloadN X.here hx rfl hd hl kk
theorem lload (X : St p l e R s m args below meth c Z B own nm ml ret n0 T h k n) {pc : Nat} {Ls : Array Slot} {st : List Value} {j : Nat} {v : Int64} (hd : decode B pc = .ok (.lload j, 2)) (hl : Ls[j]? = some (.val (.long v)))
    (r : Go p e below s n0 Q kC kS (T.setTop (mkF m (pc + 2) Ls (.long v :: st)))) : Go p e below s n0 Q kC kS (T.setTop (mkF m pc Ls (st))) := by
  obtain ⟨⟨hx, rfl, -⟩, locs, X, -⟩ := X
  exact r.st fun u kk => XS.lload X.here hx rfl hd hl kk
theorem lstoreN (X : St p l e R s m args below meth c Z B own nm ml ret n0 T h k n) {pc : Nat} {Ls : Array Slot} {st : List Value} {j : Fin 4} {v : Int64} {l' : Array Slot} (hd : decode B pc = .ok (.lstore_n j, 1)) (hl : storeLocals Ls j.val (.long v) = some l')
    (r : Go p e below s n0 Q kC kS (T.setTop (mkF m (pc + 1) l' (st)))) : Go p e below s n0 Q kC kS (T.setTop (mkF m pc Ls (.long v :: st))) := by
  obtain ⟨⟨hx, rfl, -⟩, locs, X, -⟩ := X
  exact r.st fun u kk => XS.lstoreN X.here hx rfl hd rfl hl kk
theorem lstore (X : St p l e R s m args below meth c Z B own nm ml ret n0 T h k n) {pc : Nat} {Ls : Array Slot} {st : List Value} {j : Nat} {v : Int64} {l' : Array Slot} (hd : decode B pc = .ok (.lstore j, 2)) (hl : storeLocals Ls j (.long v) = some l')
    (r : Go p e below s n0 Q kC kS (T.setTop (mkF m (pc + 2) l' (st)))) : Go p e below s n0 Q kC kS (T.setTop (mkF m pc Ls (.long v :: st))) := by
  obtain ⟨⟨hx, rfl, -⟩, locs, X, -⟩ := X
  exact r.st fun u kk => XS.lstore X.here hx rfl hd rfl hl kk
theorem dloadN (X : St p l e R s m args below meth c Z B own nm ml ret n0 T h k n) {pc : Nat} {Ls : Array Slot} {st : List Value} {j : Fin 4} {v : UInt64} (hd : decode B pc = .ok (.dload_n j, 1)) (hl : Ls[j.val]? = some (.val (.double v)))
    (r : Go p e below s n0 Q kC kS (T.setTop (mkF m (pc + 1) Ls (.double v :: st)))) : Go p e below s n0 Q kC kS (T.setTop (mkF m pc Ls (st))) := by
  obtain ⟨⟨hx, rfl, -⟩, locs, X, -⟩ := X
  exact r.st fun u kk => XS.dloadN X.here hx rfl hd hl kk
theorem dload (X : St p l e R s m args below meth c Z B own nm ml ret n0 T h k n) {pc : Nat} {Ls : Array Slot} {st : List Value} {j : Nat} {v : UInt64} (hd : decode B pc = .ok (.dload j, 2)) (hl : Ls[j]? = some (.val (.double v)))
    (r : Go p e below s n0 Q kC kS (T.setTop (mkF m (pc + 2) Ls (.double v :: st)))) : Go p e below s n0 Q kC kS (T.setTop (mkF m pc Ls (st))) := by
  obtain ⟨⟨hx, rfl, -⟩, locs, X, -⟩ := X
  exact r.st fun u kk => XS.dload X.here hx rfl hd hl kk
theorem dstoreN (X : St p l e R s m args below meth c Z B own nm ml ret n0 T h k n) {pc : Nat} {Ls : Array Slot} {st : List Value} {j : Fin 4} {v : UInt64} {l' : Array Slot} (hd : decode B pc = .ok (.dstore_n j, 1)) (hl : storeLocals Ls j.val (.double v) = some l')
    (r : Go p e below s n0 Q kC kS (T.setTop (mkF m (pc + 1) l' (st)))) : Go p e below s n0 Q kC kS (T.setTop (mkF m pc Ls (.double v :: st))) := by
  obtain ⟨⟨hx, rfl, -⟩, locs, X, -⟩ := X
  exact r.st fun u kk => XS.dstoreN X.here hx rfl hd rfl hl kk
theorem dstore (X : St p l e R s m args below meth c Z B own nm ml ret n0 T h k n) {pc : Nat} {Ls : Array Slot} {st : List Value} {j : Nat} {v : UInt64} {l' : Array Slot} (hd : decode B pc = .ok (.dstore j, 2)) (hl : storeLocals Ls j (.double v) = some l')
    (r : Go p e below s n0 Q kC kS (T.setTop (mkF m (pc + 2) l' (st)))) : Go p e below s n0 Q kC kS (T.setTop (mkF m pc Ls (.double v :: st))) := by
  obtain ⟨⟨hx, rfl, -⟩, locs, X, -⟩ := X
  exact r.st fun u kk => XS.dstore X.here hx rfl hd rfl hl kk
theorem aloadN (X : St p l e R s m args below meth c Z B own nm ml ret n0 T h k n) {pc : Nat} {Ls : Array Slot} {st : List Value} {j : Fin 4} {v : Value} (hd : decode B pc = .ok (.aload_n j, 1)) (hl : Ls[j.val]? = some (.val v)) (hv : v.isRef = true)
    (r : Go p e below s n0 Q kC kS (T.setTop (mkF m (pc + 1) Ls (v :: st)))) : Go p e below s n0 Q kC kS (T.setTop (mkF m pc Ls (st))) := by
  obtain ⟨⟨hx, rfl, -⟩, locs, X, -⟩ := X
  exact r.st fun u kk => XS.aloadN X.here hx rfl hd hl hv kk
theorem aload (X : St p l e R s m args below meth c Z B own nm ml ret n0 T h k n) {pc : Nat} {Ls : Array Slot} {st : List Value} {j : Nat} {v : Value} (hd : decode B pc = .ok (.aload j, 2)) (hl : Ls[j]? = some (.val v)) (hv : v.isRef = true)
    (r : Go p e below s n0 Q kC kS (T.setTop (mkF m (pc + 2) Ls (v :: st)))) : Go p e below s n0 Q kC kS (T.setTop (mkF m pc Ls (st))) := by
  obtain ⟨⟨hx, rfl, -⟩, locs, X, -⟩ := X
  exact r.st fun u kk => XS.aload X.here hx rfl hd hl hv kk
theorem astoreN (X : St p l e R s m args below meth c Z B own nm ml ret n0 T h k n) {pc : Nat} {Ls : Array Slot} {st : List Value} {j : Fin 4} {v : Value} {l' : Array Slot} (hd : decode B pc = .ok (.astore_n j, 1)) (hv : v.isRef = true) (hl : storeLocals Ls j.val v = some l')
    (r : Go p e below s n0 Q kC kS (T.setTop (mkF m (pc + 1) l' (st)))) : Go p e below s n0 Q kC kS (T.setTop (mkF m pc Ls (v :: st))) := by
  obtain ⟨⟨hx, rfl, -⟩, locs, X, -⟩ := X
  exact r.st fun u kk => XS.astoreN X.here hx rfl hd rfl hv hl kk
theorem astore (X : St p l e R s m args below meth c Z B own nm ml ret n0 T h k n) {pc : Nat} {Ls : Array Slot} {st : List Value} {j : Nat} {v : Value} {l' : Array Slot} (hd : decode B pc = .ok (.astore j, 2)) (hv : v.isRef = true) (hl : storeLocals Ls j v = some l')
    (r : Go p e below s n0 Q kC kS (T.setTop (mkF m (pc + 2) l' (st)))) : Go p e below s n0 Q kC kS (T.setTop (mkF m pc Ls (v :: st))) := by
  obtain ⟨⟨hx, rfl, -⟩, locs, X, -⟩ := X
  exact r.st fun u kk => XS.astore X.here hx rfl hd rfl hv hl kk
theorem iconst (X : St p l e R s m args below meth c Z B own nm ml ret n0 T h k n) {pc : Nat} {Ls : Array Slot} {st : List Value} {i : Int} (v : Int32) (hd : decode B pc = .ok (.iconst i, 1)) (hv : Int32.ofInt i = v)
    (r : Go p e below s n0 Q kC kS (T.setTop (mkF m (pc + 1) Ls (.int v :: st)))) : Go p e below s n0 Q kC kS (T.setTop (mkF m pc Ls (st))) := by
  obtain ⟨⟨hx, rfl, -⟩, locs, X, -⟩ := X
  subst hv
  exact r.st fun u kk => XS.iconst X.here hx rfl hd kk
theorem bipush (X : St p l e R s m args below meth c Z B own nm ml ret n0 T h k n) {pc : Nat} {Ls : Array Slot} {st : List Value} {i : Int} (v : Int32) (hd : decode B pc = .ok (.bipush i, 2)) (hv : (Int8.ofInt i).toInt32 = v)
    (r : Go p e below s n0 Q kC kS (T.setTop (mkF m (pc + 2) Ls (.int v :: st)))) : Go p e below s n0 Q kC kS (T.setTop (mkF m pc Ls (st))) := by
  obtain ⟨⟨hx, rfl, -⟩, locs, X, -⟩ := X
  subst hv
  exact r.st fun u kk => XS.bipush X.here hx rfl hd kk
theorem sipush (X : St p l e R s m args below meth c Z B own nm ml ret n0 T h k n) {pc : Nat} {Ls : Array Slot} {st : List Value} {i : Int} (v : Int32) (hd : decode B pc = .ok (.sipush i, 3)) (hv : (Int16.ofInt i).toInt32 = v)
    (r : Go p e below s n0 Q kC kS (T.setTop (mkF m (pc + 3) Ls (.int v :: st)))) : Go p e below s n0 Q kC kS (T.setTop (mkF m pc Ls (st))) := by
  obtain ⟨⟨hx, rfl, -⟩, locs, X, -⟩ := X
  subst hv
  exact r.st fun u kk => XS.sipush X.here hx rfl hd kk
theorem lconst (X : St p l e R s m args below meth c Z B own nm ml ret n0 T h k n) {pc : Nat} {Ls : Array Slot} {st : List Value} {i : Fin 2} (v : Int64) (hd : decode B pc = .ok (.lconst i, 1)) (hv : Int64.ofNat i = v)
    (r : Go p e below s n0 Q kC kS (T.setTop (mkF m (pc + 1) Ls (.long v :: st)))) : Go p e below s n0 Q kC kS (T.setTop (mkF m pc Ls (st))) := by
  obtain ⟨⟨hx, rfl, -⟩, locs, X, -⟩ := X
  subst hv
  exact r.st fun u kk => XS.lconst X.here hx rfl hd kk
theorem dconst0 (X : St p l e R s m args below meth c Z B own nm ml ret n0 T h k n) {pc : Nat} {Ls : Array Slot} {st : List Value}  (hd : decode B pc = .ok (.dconst 0, 1)) 
    (r : Go p e below s n0 Q kC kS (T.setTop (mkF m (pc + 1) Ls (.double 0 :: st)))) : Go p e below s n0 Q kC kS (T.setTop (mkF m pc Ls (st))) := by
  obtain ⟨⟨hx, rfl, -⟩, locs, X, -⟩ := X
  exact r.st fun u kk => XS.dconst0 X.here hx rfl hd rfl kk
theorem dconst1 (X : St p l e R s m args below meth c Z B own nm ml ret n0 T h k n) {pc : Nat} {Ls : Array Slot} {st : List Value}  (hd : decode B pc = .ok (.dconst 1, 1)) 
    (r : Go p e below s n0 Q kC kS (T.setTop (mkF m (pc + 1) Ls (.double 4607182418800017408 :: st)))) : Go p e below s n0 Q kC kS (T.setTop (mkF m pc Ls (st))) := by
  obtain ⟨⟨hx, rfl, -⟩, locs, X, -⟩ := X
  exact r.st fun u kk => XS.dconst1 X.here hx rfl hd rfl kk
theorem aconstNull (X : St p l e R s m args below meth c Z B own nm ml ret n0 T h k n) {pc : Nat} {Ls : Array Slot} {st : List Value}  (hd : decode B pc = .ok (.aconst_null, 1)) 
    (r : Go p e below s n0 Q kC kS (T.setTop (mkF m (pc + 1) Ls (.null :: st)))) : Go p e below s n0 Q kC kS (T.setTop (mkF m pc Ls (st))) := by
  obtain ⟨⟨hx, rfl, -⟩, locs, X, -⟩ := X
  exact r.st fun u kk => XS.aconstNull X.here hx rfl hd kk
theorem iadd (X : St p l e R s m args below meth c Z B own nm ml ret n0 T h k n) {pc : Nat} {Ls : Array Slot} {st : List Value} {x y : Int32} (hd : decode B pc = .ok (.iadd, 1)) 
    (r : Go p e below s n0 Q kC kS (T.setTop (mkF m (pc + 1) Ls (.int (x + y) :: st)))) : Go p e below s n0 Q kC kS (T.setTop (mkF m pc Ls (.int y :: .int x :: st))) := by
  obtain ⟨⟨hx, rfl, -⟩, locs, X, -⟩ := X
  exact r.st fun u kk => XS.iadd X.here hx rfl hd rfl kk
theorem isub (X : St p l e R s m args below meth c Z B own nm ml ret n0 T h k n) {pc : Nat} {Ls : Array Slot} {st : List Value} {x y : Int32} (hd : decode B pc = .ok (.isub, 1)) 
    (r : Go p e below s n0 Q kC kS (T.setTop (mkF m (pc + 1) Ls (.int (x - y) :: st)))) : Go p e below s n0 Q kC kS (T.setTop (mkF m pc Ls (.int y :: .int x :: st))) := by
  obtain ⟨⟨hx, rfl, -⟩, locs, X, -⟩ := X
  exact r.st fun u kk => XS.isub X.here hx rfl hd rfl kk
theorem imul (X : St p l e R s m args below meth c Z B own nm ml ret n0 T h k n) {pc : Nat} {Ls : Array Slot} {st : List Value} {x y : Int32} (hd : decode B pc = .ok (.imul, 1)) 
    (r : Go p e below s n0 Q kC kS (T.setTop (mkF m (pc + 1) Ls (.int (x * y) :: st)))) : Go p e below s n0 Q kC kS (T.setTop (mkF m pc Ls (.int y :: .int x :: st))) := by
  obtain ⟨⟨hx, rfl, -⟩, locs, X, -⟩ := X
  exact r.st fun u kk => XS.imul X.here hx rfl hd rfl kk
theorem iand (X : St p l e R s m args below meth c Z B own nm ml ret n0 T h k n) {pc : Nat} {Ls : Array Slot} {st : List Value} {x y : Int32} (hd : decode B pc = .ok (.iand, 1)) 
    (r : Go p e below s n0 Q kC kS (T.setTop (mkF m (pc + 1) Ls (.int (x &&& y) :: st)))) : Go p e below s n0 Q kC kS (T.setTop (mkF m pc Ls (.int y :: .int x :: st))) := by
  obtain ⟨⟨hx, rfl, -⟩, locs, X, -⟩ := X
  exact r.st fun u kk => XS.iand X.here hx rfl hd rfl kk
theorem ior (X : St p l e R s m args below meth c Z B own nm ml ret n0 T h k n) {pc : Nat} {Ls : Array Slot} {st : List Value} {x y : Int32} (hd : decode B pc = .ok (.ior, 1)) 
    (r : Go p e below s n0 Q kC kS (T.setTop (mkF m (pc + 1) Ls (.int (x ||| y) :: st)))) : Go p e below s n0 Q kC kS (T.setTop (mkF m pc Ls (.int y :: .int x :: st))) := by
  obtain ⟨⟨hx, rfl, -⟩, locs, X, -⟩ := X
  exact r.st fun u kk => Jvm.Free.XT.ior X.here hx rfl hd rfl kk
theorem ixor (X : St p l e R s m args below meth c Z B own nm ml ret n0 T h k n) {pc : Nat} {Ls : Array Slot} {st : List Value} {x y : Int32} (hd : decode B pc = .ok (.ixor, 1)) 
    (r : Go p e below s n0 Q kC kS (T.setTop (mkF m (pc + 1) Ls (.int (x ^^^ y) :: st)))) : Go p e below s n0 Q kC kS (T.setTop (mkF m pc Ls (.int y :: .int x :: st))) := by
  obtain ⟨⟨hx, rfl, -⟩, locs, X, -⟩ := X
  exact r.st fun u kk => Jvm.Free.XT.ixor X.here hx rfl hd rfl kk
theorem ishl (X : St p l e R s m args below meth c Z B own nm ml ret n0 T h k n) {pc : Nat} {Ls : Array Slot} {st : List Value} {x y : Int32} (hd : decode B pc = .ok (.ishl, 1)) 
    (r : Go p e below s n0 Q kC kS (T.setTop (mkF m (pc + 1) Ls (.int (x <<< (y &&& 31)) :: st)))) : Go p e below s n0 Q kC kS (T.setTop (mkF m pc Ls (.int y :: .int x :: st))) := by
  obtain ⟨⟨hx, rfl, -⟩, locs, X, -⟩ := X
  exact r.st fun u kk => Jvm.Free.XT.ishl X.here hx rfl hd rfl kk
theorem ishr (X : St p l e R s m args below meth c Z B own nm ml ret n0 T h k n) {pc : Nat} {Ls : Array Slot} {st : List Value} {x y : Int32} (hd : decode B pc = .ok (.ishr, 1)) 
    (r : Go p e below s n0 Q kC kS (T.setTop (mkF m (pc + 1) Ls (.int (x >>> (y &&& 31)) :: st)))) : Go p e below s n0 Q kC kS (T.setTop (mkF m pc Ls (.int y :: .int x :: st))) := by
  obtain ⟨⟨hx, rfl, -⟩, locs, X, -⟩ := X
  exact r.st fun u kk => Jvm.Free.XT.ishr X.here hx rfl hd rfl kk
theorem iushr (X : St p l e R s m args below meth c Z B own nm ml ret n0 T h k n) {pc : Nat} {Ls : Array Slot} {st : List Value} {x y : Int32} (hd : decode B pc = .ok (.iushr, 1)) 
    (r : Go p e below s n0 Q kC kS (T.setTop (mkF m (pc + 1) Ls (.int (Jvm.Free.XT.ushr x y) :: st)))) : Go p e below s n0 Q kC kS (T.setTop (mkF m pc Ls (.int y :: .int x :: st))) := by
  obtain ⟨⟨hx, rfl, -⟩, locs, X, -⟩ := X
  exact r.st fun u kk => Jvm.Free.XT.iushr X.here hx rfl hd rfl kk
theorem irem (X : St p l e R s m args below meth c Z B own nm ml ret n0 T h k n) {pc : Nat} {Ls : Array Slot} {st : List Value} {x y : Int32} (hd : decode B pc = .ok (.irem, 1)) (hy : y ≠ 0)
    (r : Go p e below s n0 Q kC kS (T.setTop (mkF m (pc + 1) Ls (.int (x % y) :: st)))) : Go p e below s n0 Q kC kS (T.setTop (mkF m pc Ls (.int y :: .int x :: st))) := by
  obtain ⟨⟨hx, rfl, -⟩, locs, X, -⟩ := X
  exact r.st fun u kk => iremM X hx rfl hd rfl hy kk
theorem ladd (X : St p l e R s m args below meth c Z B own nm ml ret n0 T h k n) {pc : Nat} {Ls : Array Slot} {st : List Value} {x y : Int64} (hd : decode B pc = .ok (.ladd, 1)) 
    (r : Go p e below s n0 Q kC kS (T.setTop (mkF m (pc + 1) Ls (.long (x + y) :: st)))) : Go p e below s n0 Q kC kS (T.setTop (mkF m pc Ls (.long y :: .long x :: st))) := by
  obtain ⟨⟨hx, rfl, -⟩, locs, X, -⟩ := X
  exact r.st fun u kk => Jvm.Free.XT.ladd X.here hx rfl hd rfl kk
theorem lsub (X : St p l e R s m args below meth c Z B own nm ml ret n0 T h k n) {pc : Nat} {Ls : Array Slot} {st : List Value} {x y : Int64} (hd : decode B pc = .ok (.lsub, 1)) 
    (r : Go p e below s n0 Q kC kS (T.setTop (mkF m (pc + 1) Ls (.long (x - y) :: st)))) : Go p e below s n0 Q kC kS (T.setTop (mkF m pc Ls (.long y :: .long x :: st))) := by
  obtain ⟨⟨hx, rfl, -⟩, locs, X, -⟩ := X
  exact r.st fun u kk => Jvm.Free.XT.lsub X.here hx rfl hd rfl kk
theorem lmul (X : St p l e R s m args below meth c Z B own nm ml ret n0 T h k n) {pc : Nat} {Ls : Array Slot} {st : List Value} {x y : Int64} (hd : decode B pc = .ok (.lmul, 1)) 
    (r : Go p e below s n0 Q kC kS (T.setTop (mkF m (pc + 1) Ls (.long (x * y) :: st)))) : Go p e below s n0 Q kC kS (T.setTop (mkF m pc Ls (.long y :: .long x :: st))) := by
  obtain ⟨⟨hx, rfl, -⟩, locs, X, -⟩ := X
  exact r.st fun u kk => Jvm.Free.XT.lmul X.here hx rfl hd rfl kk
theorem land (X : St p l e R s m args below meth c Z B own nm ml ret n0 T h k n) {pc : Nat} {Ls : Array Slot} {st : List Value} {x y : Int64} (hd : decode B pc = .ok (.land, 1)) 
    (r : Go p e below s n0 Q kC kS (T.setTop (mkF m (pc + 1) Ls (.long (x &&& y) :: st)))) : Go p e below s n0 Q kC kS (T.setTop (mkF m pc Ls (.long y :: .long x :: st))) := by
  obtain ⟨⟨hx, rfl, -⟩, locs, X, -⟩ := X
  exact r.st fun u kk => Jvm.Free.XT.land X.here hx rfl hd rfl kk
theorem lrem (X : St p l e R s m args below meth c Z B own nm ml ret n0 T h k n) {pc : Nat} {Ls : Array Slot} {st : List Value} {x y : Int64} (hd : decode B pc = .ok (.lrem, 1)) (hy : y ≠ 0)
    (r : Go p e below s n0 Q kC kS (T.setTop (mkF m (pc + 1) Ls (.long (x - (x / y) * y) :: st)))) : Go p e below s n0 Q kC kS (T.setTop (mkF m pc Ls (.long y :: .long x :: st))) := by
  obtain ⟨⟨hx, rfl, -⟩, locs, X, -⟩ := X
  exact r.st fun u kk => Jvm.Free.XT.lrem X.here hx rfl hd rfl hy kk
theorem lneg (X : St p l e R s m args below meth c Z B own nm ml ret n0 T h k n) {pc : Nat} {Ls : Array Slot} {st : List Value} {x : Int64} (hd : decode B pc = .ok (.lneg, 1)) 
    (r : Go p e below s n0 Q kC kS (T.setTop (mkF m (pc + 1) Ls (.long (-x) :: st)))) : Go p e below s n0 Q kC kS (T.setTop (mkF m pc Ls (.long x :: st))) := by
  obtain ⟨⟨hx, rfl, -⟩, locs, X, -⟩ := X
  exact r.st fun u kk => Jvm.Free.XT.lneg X.here hx rfl hd rfl kk
theorem i2l (X : St p l e R s m args below meth c Z B own nm ml ret n0 T h k n) {pc : Nat} {Ls : Array Slot} {st : List Value} {x : Int32} (hd : decode B pc = .ok (.i2l, 1)) 
    (r : Go p e below s n0 Q kC kS (T.setTop (mkF m (pc + 1) Ls (.long (x.toInt64) :: st)))) : Go p e below s n0 Q kC kS (T.setTop (mkF m pc Ls (.int x :: st))) := by
  obtain ⟨⟨hx, rfl, -⟩, locs, X, -⟩ := X
  exact r.st fun u kk => Jvm.Free.XT.i2l X.here hx rfl hd rfl kk
theorem l2i (X : St p l e R s m args below meth c Z B own nm ml ret n0 T h k n) {pc : Nat} {Ls : Array Slot} {st : List Value} {x : Int64} (hd : decode B pc = .ok (.l2i, 1)) 
    (r : Go p e below s n0 Q kC kS (T.setTop (mkF m (pc + 1) Ls (.int (x.toInt32) :: st)))) : Go p e below s n0 Q kC kS (T.setTop (mkF m pc Ls (.long x :: st))) := by
  obtain ⟨⟨hx, rfl, -⟩, locs, X, -⟩ := X
  exact r.st fun u kk => Jvm.Free.XT.l2i X.here hx rfl hd rfl kk
theorem i2s (X : St p l e R s m args below meth c Z B own nm ml ret n0 T h k n) {pc : Nat} {Ls : Array Slot} {st : List Value} {x : Int32} (hd : decode B pc = .ok (.i2s, 1)) 
    (r : Go p e below s n0 Q kC kS (T.setTop (mkF m (pc + 1) Ls (.int (x.toInt16.toInt32) :: st)))) : Go p e below s n0 Q kC kS (T.setTop (mkF m pc Ls (.int x :: st))) := by
  obtain ⟨⟨hx, rfl, -⟩, locs, X, -⟩ := X
  exact r.st fun u kk => Jvm.Free.XT.i2s X.here hx rfl hd rfl kk
theorem i2c (X : St p l e R s m args below meth c Z B own nm ml ret n0 T h k n) {pc : Nat} {Ls : Array Slot} {st : List Value} {x : Int32} (hd : decode B pc = .ok (.i2c, 1)) 
    (r : Go p e below s n0 Q kC kS (T.setTop (mkF m (pc + 1) Ls (.int (x.toUInt32.toUInt16.toUInt32.toInt32) :: st)))) : Go p e below s n0 Q kC kS (T.setTop (mkF m pc Ls (.int x :: st))) := by
  obtain ⟨⟨hx, rfl, -⟩, locs, X, -⟩ := X
  exact r.st fun u kk => Jvm.Free.XT.i2c X.here hx rfl hd rfl kk
theorem lshr (X : St p l e R s m args below meth c Z B own nm ml ret n0 T h k n) {pc : Nat} {Ls : Array Slot} {st : List Value} {x : Int64} {y : Int32} (hd : decode B pc = .ok (.lshr, 1)) 
    (r : Go p e below s n0 Q kC kS (T.setTop (mkF m (pc + 1) Ls (.long (x >>> (y.toInt64 &&& 63)) :: st)))) : Go p e below s n0 Q kC kS (T.setTop (mkF m pc Ls (.int y :: .long x :: st))) := by
  obtain ⟨⟨hx, rfl, -⟩, locs, X, -⟩ := X
  exact r.st fun u kk => Jvm.Free.XT.lshr X.here hx rfl hd rfl kk
theorem lshl (X : St p l e R s m args below meth c Z B own nm ml ret n0 T h k n) {pc : Nat} {Ls : Array Slot} {st : List Value} {x : Int64} {y : Int32} (hd : decode B pc = .ok (.lshl, 1)) 
    (r : Go p e below s n0 Q kC kS (T.setTop (mkF m (pc + 1) Ls (.long (x <<< (y.toInt64 &&& 63)) :: st)))) : Go p e below s n0 Q kC kS (T.setTop (mkF m pc Ls (.int y :: .long x :: st))) := by
  obtain ⟨⟨hx, rfl, -⟩, locs, X, -⟩ := X
  exact r.st fun u kk => Jvm.Free.XT.lshl X.here hx rfl hd rfl kk
theorem i2d (X : St p l e R s m args below meth c Z B own nm ml ret n0 T h k n) {pc : Nat} {Ls : Array Slot} {st : List Value} {x : Int32} {v : UInt64} (hd : decode B pc = .ok (.i2d, 1)) (hv : FP.i2d x = v)
    (r : Go p e below s n0 Q kC kS (T.setTop (mkF m (pc + 1) Ls (.double v :: st)))) : Go p e below s n0 Q kC kS (T.setTop (mkF m pc Ls (.int x :: st))) := by
  obtain ⟨⟨hx, rfl, -⟩, locs, X, -⟩ := X
  exact r.st fun u kk => XS.i2dS X.here hx rfl hd rfl hv kk
theorem l2d (X : St p l e R s m args below meth c Z B own nm ml ret n0 T h k n) {pc : Nat} {Ls : Array Slot} {st : List Value} {x : Int64} {v : UInt64} (hd : decode B pc = .ok (.l2d, 1)) (hv : FP.l2d x = v)
    (r : Go p e below s n0 Q kC kS (T.setTop (mkF m (pc + 1) Ls (.double v :: st)))) : Go p e below s n0 Q kC kS (T.setTop (mkF m pc Ls (.long x :: st))) := by
  obtain ⟨⟨hx, rfl, -⟩, locs, X, -⟩ := X
  exact r.st fun u kk => XS.l2dS X.here hx rfl hd rfl hv kk
theorem dneg (X : St p l e R s m args below meth c Z B own nm ml ret n0 T h k n) {pc : Nat} {Ls : Array Slot} {st : List Value} {x v : UInt64} (hd : decode B pc = .ok (.dneg, 1)) (hv : FP.dneg x = v)
    (r : Go p e below s n0 Q kC kS (T.setTop (mkF m (pc + 1) Ls (.double v :: st)))) : Go p e below s n0 Q kC kS (T.setTop (mkF m pc Ls (.double x :: st))) := by
  obtain ⟨⟨hx, rfl, -⟩, locs, X, -⟩ := X
  exact r.st fun u kk => XS.dnegS X.here hx rfl hd rfl hv kk
theorem dadd (X : St p l e R s m args below meth c Z B own nm ml ret n0 T h k n) {pc : Nat} {Ls : Array Slot} {st : List Value} {x y v : UInt64} (hd : decode B pc = .ok (.dadd, 1)) (hv : FP.dadd x y = v) (hn : NoNaN64 v)
    (r : Go p e below s n0 Q kC kS (T.setTop (mkF m (pc + 1) Ls (.double v :: st)))) : Go p e below s n0 Q kC kS (T.setTop (mkF m pc Ls (.double y :: .double x :: st))) := by
  obtain ⟨⟨hx, rfl, -⟩, locs, X, -⟩ := X
  exact r.st fun u kk => XS.daddS X.here hx rfl hd rfl (hv.symm ▸ hn) hv kk
theorem dsub (X : St p l e R s m args below meth c Z B own nm ml ret n0 T h k n) {pc : Nat} {Ls : Array Slot} {st : List Value} {x y v : UInt64} (hd : decode B pc = .ok (.dsub, 1)) (hv : FP.dsub x y = v) (hn : NoNaN64 v)
    (r : Go p e below s n0 Q kC kS (T.setTop (mkF m (pc + 1) Ls (.double v :: st)))) : Go p e below s n0 Q kC kS (T.setTop (mkF m pc Ls (.double y :: .double x :: st))) := by
  obtain ⟨⟨hx, rfl, -⟩, locs, X, -⟩ := X
  exact r.st fun u kk => XS.dsubS X.here hx rfl hd rfl (hv.symm ▸ hn) hv kk
theorem dmul (X : St p l e R s m args below meth c Z B own nm ml ret n0 T h k n) {pc : Nat} {Ls : Array Slot} {st : List Value} {x y v : UInt64} (hd : decode B pc = .ok (.dmul, 1)) (hv : FP.dmul x y = v) (hn : NoNaN64 v)
    (r : Go p e below s n0 Q kC kS (T.setTop (mkF m (pc + 1) Ls (.double v :: st)))) : Go p e below s n0 Q kC kS (T.setTop (mkF m pc Ls (.double y :: .double x :: st))) := by
  obtain ⟨⟨hx, rfl, -⟩, locs, X, -⟩ := X
  exact r.st fun u kk => XS.dmulS X.here hx rfl hd rfl (hv.symm ▸ hn) hv kk
theorem ddiv (X : St p l e R s m args below meth c Z B own nm ml ret n0 T h k n) {pc : Nat} {Ls : Array Slot} {st : List Value} {x y v : UInt64} (hd : decode B pc = .ok (.ddiv, 1)) (hv : FP.ddiv x y = v) (hn : NoNaN64 v)
    (r : Go p e below s n0 Q kC kS (T.setTop (mkF m (pc + 1) Ls (.double v :: st)))) : Go p e below s n0 Q kC kS (T.setTop (mkF m pc Ls (.double y :: .double x :: st))) := by
  obtain ⟨⟨hx, rfl, -⟩, locs, X, -⟩ := X
  exact r.st fun u kk => XS.ddivS X.here hx rfl hd rfl (hv.symm ▸ hn) hv kk
theorem dup (X : St p l e R s m args below meth c Z B own nm ml ret n0 T h k n) {pc : Nat} {Ls : Array Slot} {st : List Value} {x : Value} (hd : decode B pc = .ok (.dup, 1)) (hc : x.category = 1)
    (r : Go p e below s n0 Q kC kS (T.setTop (mkF m (pc + 1) Ls (x :: x :: st)))) : Go p e below s n0 Q kC kS (T.setTop (mkF m pc Ls (x :: st))) := by
  obtain ⟨⟨hx, rfl, -⟩, locs, X, -⟩ := X
  exact r.st fun u kk => XS.dup X.here hx rfl hd rfl hc kk
theorem pop (X : St p l e R s m args below meth c Z B own nm ml ret n0 T h k n) {pc : Nat} {Ls : Array Slot} {st : List Value} {x : Value} (hd : decode B pc = .ok (.pop, 1)) (hc : x.category = 1)
    (r : Go p e below s n0 Q kC kS (T.setTop (mkF m (pc + 1) Ls (st)))) : Go p e below s n0 Q kC kS (T.setTop (mkF m pc Ls (x :: st))) := by
  obtain ⟨⟨hx, rfl, -⟩, locs, X, -⟩ := X
  exact r.st fun u kk => Jvm.Free.XT.pop X.here hx rfl hd rfl hc kk
theorem iinc (X : St p l e R s m args below meth c Z B own nm ml ret n0 T h k n) {pc : Nat} {Ls : Array Slot} {st : List Value} {j : Nat} {cst : Int} {x : Int32} {l' : Array Slot} (hd : decode B pc = .ok (.iinc j cst, 3)) (hl : Ls[j]? = some (.val (.int x))) (hl' : storeLocals Ls j (.int (x + Int32.ofInt cst)) = some l')
    (r : Go p e below s n0 Q kC kS (T.setTop (mkF m (pc + 3) l' (st)))) : Go p e below s n0 Q kC kS (T.setTop (mkF m pc Ls (st))) := by
  obtain ⟨⟨hx, rfl, -⟩, locs, X, -⟩ := X
  exact r.st fun u kk => XS.iinc X.here hx rfl hd hl hl' kk
theorem goto_ (X : St p l e R s m args below meth c Z B own nm ml ret n0 T h k n) {pc pc' : Nat} {Ls : Array Slot} {st : List Value} {o : Int} (hd : decode B pc = .ok (.goto o, 3)) (hp : (decide (0 ≤ (pc : Int) + o) && decide (((pc : Int) + o).toNat = pc')) = true)
    (r : Go p e below s n0 Q kC kS (T.setTop (mkF m pc' Ls st))) : Go p e below s n0 Q kC kS (T.setTop (mkF m pc Ls st)) := by
  obtain ⟨⟨hx, rfl, -⟩, locs, X, -⟩ := X
  simp only [Bool.and_eq_true, decide_eq_true_eq] at hp
  exact r.st fun u kk => XS.goto X.here hx rfl rfl hd hp.1 hp.2 kk
/-- what a comparison asks, of whole numbers -/
def cmpI : ClassFile.Cond → Int → Int → Prop
  | .eq, a, b => a = b
  | .ne, a, b => ¬ (a = b)
  | .lt, a, b => a < b
  | .ge, a, b => b ≤ a
  | .gt, a, b => b < a
  | .le, a, b => a ≤ b
theorem holds_I (cd : ClassFile.Cond) (x y : Int32) : if_icmp.holds cd x y = true ↔ cmpI cd x.toInt y.toInt := by
  cases cd <;> simp [if_icmp.holds, cmpI, Int32.lt_iff_toInt_lt, Int32.le_iff_toInt_le, ← Int32.toInt_inj]
theorem holds_0 (cd : ClassFile.Cond) (x : Int32) : ifCond.holds cd x = true ↔ cmpI cd x.toInt 0 := by
  rw [if0]; exact holds_I cd x 0
theorem iff_ (X : St p l e R s m args below meth c Z B own nm ml ret n0 T h k n) {pc pc' : Nat} {Ls : Array Slot} {st : List Value} {cd : ClassFile.Cond} {o : Int} {x : Int32} (hd : decode B pc = .ok (.ifCond cd o, 3)) (hp : (decide (0 ≤ (pc : Int) + o) && decide (((pc : Int) + o).toNat = pc')) = true)
    (r1 : cmpI cd x.toInt 0 → Go p e below s n0 Q kC kS (T.setTop (mkF m pc' Ls st))) (r2 : ¬ cmpI cd x.toInt 0 → Go p e below s n0 Q kC kS (T.setTop (mkF m (pc + 3) Ls st))) : Go p e below s n0 Q kC kS (T.setTop (mkF m pc Ls (.int x :: st))) := by
  obtain ⟨⟨hx, rfl, -⟩, locs, X, -⟩ := X
  simp only [Bool.and_eq_true, decide_eq_true_eq] at hp
  by_cases q : ifCond.holds cd x = true
  · exact (r1 ((holds_0 cd x).mp q)).st fun u kk => XS.ifYes X.here hx rfl rfl hd rfl q hp.1 hp.2 kk
  · exact (r2 fun z => q ((holds_0 cd x).mpr z)).st fun u kk => XS.ifNo X.here hx rfl hd rfl (by simpa using q) kk
theorem icmp_ (X : St p l e R s m args below meth c Z B own nm ml ret n0 T h k n) {pc pc' : Nat} {Ls : Array Slot} {st : List Value} {cd : ClassFile.Cond} {o : Int} {x y : Int32} (hd : decode B pc = .ok (.if_icmp cd o, 3)) (hp : (decide (0 ≤ (pc : Int) + o) && decide (((pc : Int) + o).toNat = pc')) = true)
    (r1 : cmpI cd x.toInt y.toInt → Go p e below s n0 Q kC kS (T.setTop (mkF m pc' Ls st))) (r2 : ¬ cmpI cd x.toInt y.toInt → Go p e below s n0 Q kC kS (T.setTop (mkF m (pc + 3) Ls st))) : Go p e below s n0 Q kC kS (T.setTop (mkF m pc Ls (.int y :: .int x :: st))) := by
  obtain ⟨⟨hx, rfl, -⟩, locs, X, -⟩ := X
  simp only [Bool.and_eq_true, decide_eq_true_eq] at hp
  by_cases q : if_icmp.holds cd x y = true
  · exact (r1 ((holds_I cd x y).mp q)).st fun u kk => XS.icmpYes X.here hx rfl rfl hd rfl q hp.1 hp.2 kk
  · exact (r2 fun z => q ((holds_I cd x y).mpr z)).st fun u kk => XS.icmpNo X.here hx rfl hd rfl (by simpa using q) kk
/-- a boolean of the walk: 1 where P, else 0 -/
abbrev bo (P : Prop) [Decidable P] : Int32 := if P then 1 else 0
theorem bo_I (P : Prop) [Decidable P] : (bo P).toInt = if P then 1 else 0 := by unfold bo; split <;> rfl
theorem bo_t {P : Prop} [Decidable P] (q : P) : (1 : Int32) = bo P := (if_pos q).symm
theorem bo_f {P : Prop} [Decidable P] (q : ¬ P) : (0 : Int32) = bo P := (if_neg q).symm
theorem bo_c {P P' : Prop} [Decidable P] [Decidable P'] (q : P ↔ P') : bo P = bo P' := by unfold bo; by_cases z : P <;> simp [z, q.mp, q.mpr, ← q]
theorem nar_bo (P : Prop) [Decidable P] : narrow .boolean (.int (bo P)) = .int (bo P) := by unfold bo; split <;> rfl
theorem fits_bo (P : Prop) [Decidable P] : fits .boolean (.int (bo P)) = true := by unfold bo; split <;> rfl
theorem nar_z {z : Int32} (q : z &&& 1 = z) : narrow .boolean (.int z) = .int z := by show Value.int (z &&& 1) = _; rw [q]
theorem fits_z {z : Int32} (q : z &&& 1 = z) : fits .boolean (.int z) = true := by rcases and_one z with w | w <;> rw [q] at w <;> subst w <;> rfl
theorem bo0 (P : Prop) [Decidable P] : (bo P).toInt = 0 ↔ ¬ P := by rw [bo_I]; by_cases q : P <;> simp [q]
theorem ifeqB (X : St p l e R s m args below meth c Z B own nm ml ret n0 T h k n) {pc pc' : Nat} {Ls : Array Slot} {st : List Value} {o : Int} {P : Prop} [Decidable P] (hd : decode B pc = .ok (.ifCond .eq o, 3)) (hp : (decide (0 ≤ (pc : Int) + o) && decide (((pc : Int) + o).toNat = pc')) = true)
    (r1 : ¬ P → Go p e below s n0 Q kC kS (T.setTop (mkF m pc' Ls st))) (r2 : P → Go p e below s n0 Q kC kS (T.setTop (mkF m (pc + 3) Ls st))) : Go p e below s n0 Q kC kS (T.setTop (mkF m pc Ls (.int (bo P) :: st))) := by
  refine iff_ X hd hp (fun q => r1 fun z => ?_) (fun q => r2 (Classical.byContradiction fun z => q ?_))
  · rw [cmpI, bo_I, if_pos z] at q; cases q
  · rw [cmpI, bo_I, if_neg z]
theorem ifneB (X : St p l e R s m args below meth c Z B own nm ml ret n0 T h k n) {pc pc' : Nat} {Ls : Array Slot} {st : List Value} {o : Int} {P : Prop} [Decidable P] (hd : decode B pc = .ok (.ifCond .ne o, 3)) (hp : (decide (0 ≤ (pc : Int) + o) && decide (((pc : Int) + o).toNat = pc')) = true)
    (r1 : P → Go p e below s n0 Q kC kS (T.setTop (mkF m pc' Ls st))) (r2 : ¬ P → Go p e below s n0 Q kC kS (T.setTop (mkF m (pc + 3) Ls st))) : Go p e below s n0 Q kC kS (T.setTop (mkF m pc Ls (.int (bo P) :: st))) := by
  refine iff_ X hd hp (fun q => r1 (Classical.byContradiction fun z => q ?_)) (fun q => r2 fun z => q ?_)
  · rw [bo_I, if_neg z]
  · rw [cmpI, bo_I, if_pos z]; decide
theorem bo_eq (P P' : Prop) [Decidable P] [Decidable P'] : (bo P).toInt = (bo P').toInt ↔ (P ↔ P') := by
  rw [bo_I, bo_I]; by_cases a : P <;> by_cases b : P' <;> simp [a, b]
theorem icmpneB (X : St p l e R s m args below meth c Z B own nm ml ret n0 T h k n) {pc pc' : Nat} {Ls : Array Slot} {st : List Value} {o : Int} {P P' : Prop} [Decidable P] [Decidable P'] (hd : decode B pc = .ok (.if_icmp .ne o, 3)) (hp : (decide (0 ≤ (pc : Int) + o) && decide (((pc : Int) + o).toNat = pc')) = true)
    (r1 : ¬ (P ↔ P') → Go p e below s n0 Q kC kS (T.setTop (mkF m pc' Ls st))) (r2 : (P ↔ P') → Go p e below s n0 Q kC kS (T.setTop (mkF m (pc + 3) Ls st))) : Go p e below s n0 Q kC kS (T.setTop (mkF m pc Ls (.int (bo P') :: .int (bo P) :: st))) := by
  refine icmp_ X hd hp (fun q => r1 fun z => q ((bo_eq P P').mpr z)) (fun q => r2 (Classical.byContradiction fun z => q fun w => z ((bo_eq P P').mp w)))
theorem icmpeqB (X : St p l e R s m args below meth c Z B own nm ml ret n0 T h k n) {pc pc' : Nat} {Ls : Array Slot} {st : List Value} {o : Int} {P P' : Prop} [Decidable P] [Decidable P'] (hd : decode B pc = .ok (.if_icmp .eq o, 3)) (hp : (decide (0 ≤ (pc : Int) + o) && decide (((pc : Int) + o).toNat = pc')) = true)
    (r1 : (P ↔ P') → Go p e below s n0 Q kC kS (T.setTop (mkF m pc' Ls st))) (r2 : ¬ (P ↔ P') → Go p e below s n0 Q kC kS (T.setTop (mkF m (pc + 3) Ls st))) : Go p e below s n0 Q kC kS (T.setTop (mkF m pc Ls (.int (bo P') :: .int (bo P) :: st))) := by
  refine icmp_ X hd hp (fun q => r1 ((bo_eq P P').mp q)) (fun q => r2 fun z => q ((bo_eq P P').mpr z))
theorem ifnullY (X : St p l e R s m args below meth c Z B own nm ml ret n0 T h k n) {pc pc' : Nat} {Ls : Array Slot} {st : List Value} {o : Int} (hd : decode B pc = .ok (.ifnull o, 3)) (hp : (decide (0 ≤ (pc : Int) + o) && decide (((pc : Int) + o).toNat = pc')) = true)
    (r : Go p e below s n0 Q kC kS (T.setTop (mkF m pc' Ls st))) : Go p e below s n0 Q kC kS (T.setTop (mkF m pc Ls (.null :: st))) := by
  obtain ⟨⟨hx, rfl, -⟩, locs, X, -⟩ := X
  simp only [Bool.and_eq_true, decide_eq_true_eq] at hp
  exact r.st fun u kk => XS.ifnullYes X.here hx rfl rfl hd rfl hp.1 hp.2 kk
theorem ifnonnullY (X : St p l e R s m args below meth c Z B own nm ml ret n0 T h k n) {pc pc' : Nat} {Ls : Array Slot} {st : List Value} {o : Int} {b : Addr} (hd : decode B pc = .ok (.ifnonnull o, 3)) (hp : (decide (0 ≤ (pc : Int) + o) && decide (((pc : Int) + o).toNat = pc')) = true)
    (r : Go p e below s n0 Q kC kS (T.setTop (mkF m pc' Ls st))) : Go p e below s n0 Q kC kS (T.setTop (mkF m pc Ls (.ref b :: st))) := by
  obtain ⟨⟨hx, rfl, -⟩, locs, X, -⟩ := X
  simp only [Bool.and_eq_true, decide_eq_true_eq] at hp
  exact r.st fun u kk => Jvm.Free.XT.ifnonnullYes X.here hx rfl rfl hd rfl hp.1 hp.2 kk
theorem ifnullN (X : St p l e R s m args below meth c Z B own nm ml ret n0 T h k n) {pc : Nat} {Ls : Array Slot} {st : List Value} {o : Int} {b : Addr} (hd : decode B pc = .ok (.ifnull o, 3)) 
    (r : Go p e below s n0 Q kC kS (T.setTop (mkF m (pc + 3) Ls (st)))) : Go p e below s n0 Q kC kS (T.setTop (mkF m pc Ls (.ref b :: st))) := by
  obtain ⟨⟨hx, rfl, -⟩, locs, X, -⟩ := X
  exact r.st fun u kk => XS.ifnullNo X.here hx rfl hd rfl kk
theorem ifnonnullN (X : St p l e R s m args below meth c Z B own nm ml ret n0 T h k n) {pc : Nat} {Ls : Array Slot} {st : List Value} {o : Int} (hd : decode B pc = .ok (.ifnonnull o, 3)) 
    (r : Go p e below s n0 Q kC kS (T.setTop (mkF m (pc + 3) Ls (st)))) : Go p e below s n0 Q kC kS (T.setTop (mkF m pc Ls (.null :: st))) := by
  obtain ⟨⟨hx, rfl, -⟩, locs, X, -⟩ := X
  exact r.st fun u kk => Jvm.Free.XT.ifnonnullNo X.here hx rfl hd rfl kk
/-- a double's number, in units of 2^-1074 -/
def dz (x : UInt64) : Int := FP.Core.zval FP.Core.b64 (FP.Core.val64 x)
theorem nn_val {x : UInt64} (q : NoNaN64 x) : FP.Core.val64 x ≠ .nan := (FP.Core.notNaN_iff x).mp (noNaN64_no.mp q)
theorem dcmp_dz {x y : UInt64} (nx : NoNaN64 x) (ny : NoNaN64 y) : FP.dcmp x y = some (compare (dz x) (dz y)) := FP.Core.dcmp_zval (nn_val nx) (nn_val ny)
theorem cmpV_dz {x y : UInt64} (nx : NoNaN64 x) (ny : NoNaN64 y) (cd : ClassFile.Cond) (o : CmpOp) : cmpI cd (cmpValue (FP.dcmp x y) o).toInt 0 ↔ cmpI cd (dz x) (dz y) := by
  rw [dcmp_dz nx ny]
  have key : (cmpValue (some (compare (dz x) (dz y))) o).toInt = if dz x < dz y then -1 else if dz x = dz y then 0 else 1 := by
    rw [FP.Core.compare_ite]; split
    · cases o <;> rfl
    · split
      · cases o <;> rfl
      · cases o <;> rfl
  rw [key]
  split
  · cases cd <;> simp [cmpI] <;> omega
  · split
    · cases cd <;> simp [cmpI] <;> omega
    · cases cd <;> simp [cmpI] <;> omega
/-- dcmpl | dcmpg and the branch behind it, of two that are no NaN -/
theorem dcmpF (X : St p l e R s m args below meth c Z B own nm ml ret n0 T h k n) {pc pc' : Nat} {Ls : Array Slot} {st : List Value} {cd : ClassFile.Cond} {op : CmpOp} {o : Int} {x y : UInt64} (hd1 : decode B pc = .ok (.dcmp op, 1)) (hd : decode B (pc + 1) = .ok (.ifCond cd o, 3)) (hp : (decide (0 ≤ ((pc + 1 : Nat) : Int) + o) && decide ((((pc + 1 : Nat) : Int) + o).toNat = pc')) = true) (nx : NoNaN64 x) (ny : NoNaN64 y)
    (r1 : cmpI cd (dz x) (dz y) → Go p e below s n0 Q kC kS (T.setTop (mkF m pc' Ls st))) (r2 : ¬ cmpI cd (dz x) (dz y) → Go p e below s n0 Q kC kS (T.setTop (mkF m (pc + 1 + 3) Ls st))) : Go p e below s n0 Q kC kS (T.setTop (mkF m pc Ls (.double y :: .double x :: st))) := by
  have r : Go p e below s n0 Q kC kS (T.setTop (mkF m (pc + 1) Ls (.int (cmpValue (FP.dcmp x y) op) :: st))) :=
    iff_ X hd hp (fun q => r1 ((cmpV_dz nx ny cd op).mp q)) (fun q => r2 fun z => q ((cmpV_dz nx ny cd op).mpr z))
  obtain ⟨⟨hx, rfl, -⟩, locs, X, -⟩ := X
  exact r.st fun u kk => XS.dcmpS X.here hx rfl hd1 rfl rfl kk
theorem cmpL_I (x y : Int64) (cd : ClassFile.Cond) : cmpI cd (Jvm.Free.XT.cmpL x y).toInt 0 ↔ cmpI cd x.toInt y.toInt := by
  have key : (Jvm.Free.XT.cmpL x y).toInt = if y.toInt < x.toInt then 1 else if x.toInt = y.toInt then 0 else -1 := by
    simp only [Jvm.Free.XT.cmpL, Int64.lt_iff_toInt_lt, ← Int64.toInt_inj]
    split
    · rfl
    · split <;> rfl
  rw [key]
  split
  · cases cd <;> simp [cmpI] <;> omega
  · split
    · cases cd <;> simp [cmpI] <;> omega
    · cases cd <;> simp [cmpI] <;> omega
theorem lcmpF (X : St p l e R s m args below meth c Z B own nm ml ret n0 T h k n) {pc pc' : Nat} {Ls : Array Slot} {st : List Value} {cd : ClassFile.Cond} {o : Int} {x y : Int64} (hd1 : decode B pc = .ok (.lcmp, 1)) (hd : decode B (pc + 1) = .ok (.ifCond cd o, 3)) (hp : (decide (0 ≤ ((pc + 1 : Nat) : Int) + o) && decide ((((pc + 1 : Nat) : Int) + o).toNat = pc')) = true)
    (r1 : cmpI cd x.toInt y.toInt → Go p e below s n0 Q kC kS (T.setTop (mkF m pc' Ls st))) (r2 : ¬ cmpI cd x.toInt y.toInt → Go p e below s n0 Q kC kS (T.setTop (mkF m (pc + 1 + 3) Ls st))) : Go p e below s n0 Q kC kS (T.setTop (mkF m pc Ls (.long y :: .long x :: st))) := by
  have r : Go p e below s n0 Q kC kS (T.setTop (mkF m (pc + 1) Ls (.int (Jvm.Free.XT.cmpL x y) :: st))) :=
    iff_ X hd hp (fun q => r1 ((cmpL_I x y cd).mp q)) (fun q => r2 fun z => q ((cmpL_I x y cd).mpr z))
  obtain ⟨⟨hx, rfl, -⟩, locs, X, -⟩ := X
  exact r.st fun u kk => Jvm.Free.XT.lcmp X.here hx rfl hd1 rfl kk
theorem ldcI (X : St p l e R s m args below meth c Z B own nm ml ret n0 T h k n) {a0 : Array Value} {pc index : Nat} {Ls : Array Slot} {st : List Value} {v : Int32} (hd : decode B pc = .ok (.ldc index, 2)) (w : (Cond.constant own index v).before a0 Z = true)
    (r : Go p e below s n0 Q kC kS (T.setTop (mkF m (pc + 2) Ls (.int v :: st)))) : Go p e below s n0 Q kC kS (T.setTop (mkF m pc Ls st)) := by
  obtain ⟨⟨hx, rfl, hZ, hown, -⟩, locs, X, -⟩ := X
  exact r.st fun u kk => X.ldcInt (g := mkF m pc Ls st) hx hown (mvT hZ w) rfl hd u kk
theorem ldc2J (X : St p l e R s m args below meth c Z B own nm ml ret n0 T h k n) {a0 : Array Value} {pc index : Nat} {Ls : Array Slot} {st : List Value} {v : Int64} (hd : decode B pc = .ok (.ldc2_w index, 3)) (w : (Cond.constantLong own index v).before a0 Z = true)
    (r : Go p e below s n0 Q kC kS (T.setTop (mkF m (pc + 3) Ls (.long v :: st)))) : Go p e below s n0 Q kC kS (T.setTop (mkF m pc Ls st)) := by
  obtain ⟨⟨hx, rfl, hZ, hown, -⟩, locs, X, -⟩ := X
  exact r.st fun u kk => X.ldc2Long (g := mkF m pc Ls st) hx hown (mvT hZ w) rfl hd u kk
theorem ldc2D (X : St p l e R s m args below meth c Z B own nm ml ret n0 T h k n) {a0 : Array Value} {pc index : Nat} {Ls : Array Slot} {st : List Value} {v : UInt64} (hd : decode B pc = .ok (.ldc2_w index, 3)) (w : (Cond.constantDouble own index v).before a0 Z = true)
    (r : Go p e below s n0 Q kC kS (T.setTop (mkF m (pc + 3) Ls (.double v :: st)))) : Go p e below s n0 Q kC kS (T.setTop (mkF m pc Ls st)) := by
  obtain ⟨⟨hx, rfl, hZ, hown, -⟩, locs, X, -⟩ := X
  exact r.st fun u kk => X.ldc2DoubleC (g := mkF m pc Ls st) hx hown (mvT hZ w) rfl hd u kk
theorem leaveG (X : St p l e R s m args below meth c Z B own nm ml ret n0 T h k n) {v : Option Value} {t : State} (hv : meth.sig.returnType = none → v = none) (hQ : Q v h) (hk : k ≤ kC) (hn : n ≤ kS)
    (st : ∀ (locs : List Loc) (fs : List Frame), p.tables.exec = Jvm.exec → c.code = B → meth.sig.returnType = ret → Stand p l e R s m args below meth c T locs k n → (∀ (f : JFrame) (acts : List Action), f.method = m → f.locked = none → f.entered = [] → (doReturn e (T.setTop f) acts v).1 = T.setFrames fs) → Steps p.tables e below t (T.setFrames fs)) : Go p e below s n0 Q kC kS t := by
  obtain ⟨⟨hx, hby, hZ, hown, hml, hret, hlocks, hnm⟩, locs, X, eT, N⟩ := X
  obtain ⟨fs, hr, hrun, hended, hW, hsame⟩ := X.leave (v := v) hv hlocks
  refine ⟨_, _, st locs fs hx hby hret X hr, hrun, hended, _, _, rfl, ⟨?_, N⟩, ⟨_, rfl⟩, hW, hsame.mono hk hn⟩
  show Q v T.heap
  rw [eT]; exact hQ
theorem retV (X : St p l e R s m args below meth c Z B own nm ml none n0 T h k n) {pc : Nat} {Ls : Array Slot} (hd : decode B pc = .ok (.return_, 1)) (hQ : Q none h) (hk : k ≤ kC) (hn : n ≤ kS) : Go p e below s n0 Q kC kS (T.setTop (mkF m pc Ls [])) :=
  leaveG X (v := none) (fun _ => rfl) hQ hk hn fun locs fs hx hby hret X hr => X.returnOut hx hret (by rw [hby]; exact hd) hr
theorem retB (X : St p l e R s m args below meth c Z B own nm ml (some .boolean) n0 T h k n) {pc : Nat} {Ls : Array Slot} {st : List Value} {z : Int32} (hd : decode B pc = .ok (.ireturn, 1)) (hz : z &&& 1 = z) (hQ : Q (some (.int z)) h) (hk : k ≤ kC) (hn : n ≤ kS) : Go p e below s n0 Q kC kS (T.setTop (mkF m pc Ls (.int z :: st))) :=
  leaveG X (v := some (.int z)) (fun q => by rw [X.1.2.2.2.2.2.1] at q; cases q) hQ hk hn fun locs fs hx hby hret X hr => retN X hx (t := .boolean) hret (by simp) (by rw [hby]; exact hd) (by intro f acts h1 h2 h3; rw [show nar .boolean z = z from hz]; exact hr f acts h1 h2 h3)
theorem bo_and (P : Prop) [Decidable P] : bo P &&& 1 = bo P := by unfold bo; split <;> decide
theorem retO (w : Value) (t : FieldType) {i : Instr} (X : St p l e R s m args below meth c Z B own nm ml (some t) n0 T h k n) {pc : Nat} {Ls : Array Slot} {st : List Value} (hd : decode B pc = .ok (i, 1)) (hw : narrow t w = w)
    (hi : (i = .ireturn ∧ (t = .int ∨ t = .boolean ∨ t = .byte ∨ t = .char ∨ t = .short) ∧ ∃ z, w = .int z) ∨ (i = .lreturn ∧ t = .long ∧ ∃ z, w = .long z) ∨ (i = .dreturn ∧ t = .double ∧ ∃ z, w = .double z) ∨ (i = .freturn ∧ t = .float ∧ ∃ z, w = .float z) ∨ (i = .areturn ∧ t.isReference = true ∧ w.isRef = true))
    (hQ : Q (some w) h) (hk : k ≤ kC) (hn : n ≤ kS) : Go p e below s n0 Q kC kS (T.setTop (mkF m pc Ls (w :: st))) :=
  leaveG X (v := some w) (fun q => by rw [X.1.2.2.2.2.2.1] at q; cases q) hQ hk hn fun locs fs hx hby hret X hr => retOut X hx hret hw hi (by rw [hby]; exact hd) hr
theorem retI (X : St p l e R s m args below meth c Z B own nm ml (some .int) n0 T h k n) {pc : Nat} {Ls : Array Slot} {st : List Value} {z : Int32} (hd : decode B pc = .ok (.ireturn, 1)) (hQ : Q (some (.int z)) h) (hk : k ≤ kC) (hn : n ≤ kS) : Go p e below s n0 Q kC kS (T.setTop (mkF m pc Ls (.int z :: st))) :=
  retO (.int z) .int X hd rfl (Or.inl ⟨rfl, Or.inl rfl, z, rfl⟩) hQ hk hn
theorem retD (X : St p l e R s m args below meth c Z B own nm ml (some .double) n0 T h k n) {pc : Nat} {Ls : Array Slot} {st : List Value} {z : UInt64} (hd : decode B pc = .ok (.dreturn, 1)) (hQ : Q (some (.double z)) h) (hk : k ≤ kC) (hn : n ≤ kS) : Go p e below s n0 Q kC kS (T.setTop (mkF m pc Ls (.double z :: st))) :=
  retO (.double z) .double X hd rfl (Or.inr (Or.inr (Or.inl ⟨rfl, rfl, z, rfl⟩))) hQ hk hn
theorem retA {t : FieldType} (X : St p l e R s m args below meth c Z B own nm ml (some t) n0 T h k n) {pc : Nat} {Ls : Array Slot} {st : List Value} {v : Value} (hd : decode B pc = .ok (.areturn, 1)) (ht : t.isReference = true) (hv : v.isRef = true) (hw : narrow t v = v) (hQ : Q (some v) h) (hk : k ≤ kC) (hn : n ≤ kS) : Go p e below s n0 Q kC kS (T.setTop (mkF m pc Ls (v :: st))) :=
  retO v t X hd hw (Or.inr (Or.inr (Or.inr (Or.inr ⟨rfl, ht, hv⟩)))) hQ hk hn
theorem getF_ (X : St p l e R s m args below meth c Z B own nm ml ret n0 T h k n) {a0 : Array Value} {R0 O f d host : String} {index pc : Nat} {Ls : Array Slot} {st : List Value} {a : Addr} {v : Value} (hd : decode B pc = .ok (.getfield index, 3)) (w : (Cond.fieldLink own index R0 f d).before a0 Z = true ∨ (Cond.fieldLinkNest own index R0 f d host).before a0 Z = true) (via : Via Z R0 O f d) (F : Fld Z h a O f d v)
    (r : ∀ T', St p l e R s m args below meth c Z B own nm ml ret n0 T' h k n → Go p e below s n0 Q kC kS (T'.setTop (mkF m (pc + 3) Ls (v :: st)))) : Go p e below s n0 Q kC kS (T.setTop (mkF m pc Ls (.ref a :: st))) := by
  obtain ⟨⟨hx, hby, hZ, hown, q⟩, locs, X, eT, N⟩ := X
  obtain ⟨T', X', e', st'⟩ := getF X hx hZ hown w via eT F (g := mkF m pc Ls (.ref a :: st)) rfl rfl (by rw [hby]; exact hd)
  exact (r T' ⟨⟨hx, hby, hZ, hown, q⟩, locs, X', e', N⟩).st st'
theorem putF_ (X : St p l e R s m args below meth c Z B own nm ml ret n0 T h k n) {a0 : Array Value} {R0 O f d host C : String} {index kk pc : Nat} {ty : FieldType} {Ls : Array Slot} {st : List Value} {a : Addr} {v old : Value} (hd : decode B pc = .ok (.putfield index, 3)) (w : (Cond.fieldLink own index R0 f d).before a0 Z = true ∨ (Cond.fieldLinkNest own index R0 f d host).before a0 Z = true) (via : Via Z R0 O f d) (F : Fld Z h a O f d old) (E : Exa Z h a C)
    (L : (Cond.lays C O f d).before a0 Z = true ∨ ((Cond.laysFinal C O f d).before a0 Z = true ∧ own = O ∧ nm = "<init>")) (wi : (Cond.instantiable C kk).before a0 Z = true) (hty : parseFieldDescriptor d = some ty) (hv : narrow ty v = v) (hf : fits ty v = true) (ha : n0 ≤ a)
    (r : ∀ T' h', St p l e R s m args below meth c Z B own nm ml ret n0 T' h' k n → Wr h h' a (Jvm.RoadKit.slotOf Z O f d) v → Go p e below s n0 Q kC kS (T'.setTop (mkF m (pc + 3) Ls st))) : Go p e below s n0 Q kC kS (T.setTop (mkF m pc Ls (v :: .ref a :: st))) := by
  obtain ⟨⟨hx, hby, hZ, hown, q1, q2, q3, q4⟩, locs, X, eT, N⟩ := X
  obtain ⟨T', h', X', e', W', st'⟩ := putF X hx hZ hown w via eT F E (L.imp id fun ⟨z1, z2, z3⟩ => ⟨z1, z2, q4.trans z3⟩) wi hty hv hf (g := mkF m pc Ls (v :: .ref a :: st)) rfl rfl (by rw [hby]; exact hd)
  exact (r T' h' ⟨⟨hx, hby, hZ, hown, q1, q2, q3, q4⟩, _, X', e', Fr.snoc X' N ha⟩ W').st st'
theorem getS_ (X : St p l e R s m args below meth c Z B own nm ml ret n0 T h k n) {a0 : Array Value} {R0 O f d host : String} {index pc : Nat} {Ls : Array Slot} {st : List Value} {v : Value} (hd : decode B pc = .ok (.getstatic index, 3)) (w : (Cond.fieldLink own index R0 f d).before a0 Z = true ∨ (Cond.fieldLinkNest own index R0 f d host).before a0 Z = true) (via : Via Z R0 O f d) (F : Sta Z h O f d v)
    (r : ∀ T', St p l e R s m args below meth c Z B own nm ml ret n0 T' h k n → Go p e below s n0 Q kC kS (T'.setTop (mkF m (pc + 3) Ls (v :: st)))) : Go p e below s n0 Q kC kS (T.setTop (mkF m pc Ls st)) := by
  obtain ⟨⟨hx, hby, hZ, hown, q⟩, locs, X, eT, N⟩ := X
  obtain ⟨T', X', e', st'⟩ := getS2 X hx hZ hown w via eT F (g := mkF m pc Ls st) rfl (by rw [hby]; exact hd)
  exact (r T' ⟨⟨hx, hby, hZ, hown, q⟩, locs, X', e', N⟩).st st'
theorem newO_ (X : St p l e R s m args below meth c Z B own nm ml ret n0 T h k n) {a0 : Array Value} {C : String} {index cnt pc : Nat} {Ls : Array Slot} {st : List Value} (hd : decode B pc = .ok (.new index, 3)) (w : (Cond.classLink own index C).before a0 Z = true) (wi : (Cond.instantiable C cnt).before a0 Z = true) (wz : (Cond.initialized C).before a0 Z = true) (hc : k + 1 ≤ R.cells) (hl : n + cnt ≤ R.slots)
    (r : ∀ T' h' a, a = h.size → St p l e R s m args below meth c Z B own nm ml ret n0 T' h' (k + 1) (n + cnt) → Ext h h' → Exa Z h' a C → (∀ {O f d : String} {ty : FieldType}, Laid Z a0 C O f d → parseFieldDescriptor d = some ty → Fld Z h' a O f d (defaultValue ty)) → Go p e below s n0 Q kC kS (T'.setTop (mkF m (pc + 3) Ls (.ref a :: st)))) : Go p e below s n0 Q kC kS (T.setTop (mkF m pc Ls st)) := by
  obtain ⟨⟨hx, hby, hZ, hown, q⟩, locs, X, eT, N⟩ := X
  obtain ⟨T', h', X', e', E', A', D', -, st'⟩ := newO X hx hZ hown w wi wz eT (g := mkF m pc Ls st) rfl (by rw [hby]; exact hd) hc hl
  exact (r T' h' _ rfl ⟨⟨hx, hby, hZ, hown, q⟩, locs, X', e', N⟩ E' A' D').st st'
theorem initO_ (X : St p l e R s m args below meth c Z B own nm ml ret n0 T h k n) {a0 : Array Value} {idx W pc : Nat} {Ls : Array Slot} {st : List Value} {a : Addr} (hd : decode B pc = .ok (.invokespecial idx, 3)) (w1 : (Cond.methodLink own idx Lib.objectInit).before a0 Z = true) (w2 : (Cond.instanceMethod Lib.objectInit).before a0 Z = true) (w3 : (Cond.code Lib.objectInit ⟨#[0xb1]⟩ 1 none).before a0 Z = true) (hsz : Ls.size = ml)
    (hf : 1 ≤ R.frames) (hW : 2 * 0 + (st.map fun v => v.category).sum ≤ W) (hl : W + 12 ≤ R.locals)
    (r : ∀ T', St p l e R s m args below meth c Z B own nm ml ret n0 T' h k n → Go p e below s n0 Q kC kS (T'.setTop (mkF m (pc + 3) Ls st))) : Go p e below s n0 Q kC kS (T.setTop (mkF m pc Ls (.ref a :: st))) := by
  obtain ⟨⟨hx, hby, hZ, hown, hml, q⟩, locs, X, eT, N⟩ := X
  obtain ⟨T', X', e', st'⟩ := initO X hx hZ hown w1 w2 w3 eT (g := mkF m pc Ls (.ref a :: st)) rfl (by rw [hml]; exact hsz) rfl (by rw [hby]; exact hd) hf hW hl
  exact (r T' ⟨⟨hx, hby, hZ, hown, hml, q⟩, locs, X', e', N⟩).st st'

theorem newP_ (X : St p l e R s m args below meth c Z B own nm ml ret n0 T h k n) {a0 : Array Value} {aty : ArrayType} {z : Int32} {pc : Nat} {Ls : Array Slot} {st : List Value} (cap : Nat) (ty : FieldType) (dv : Value) (ad : String) (hd : decode B pc = .ok (.newarray aty, 2)) (hty : newarray.typeOf aty = ty) (hdv : defaultValue ty = dv) (had : "[" ++ ty.toString = ad) (w : (Cond.arrayClass ty).before a0 Z = true) (hz : ¬ z < 0) (hcap : z.toNatClampNeg ≤ cap) (hb : cap * 8 ≤ 536870912) (hc : k + 1 ≤ R.cells) (hl : n + cap ≤ R.slots)
    (r : ∀ T' h' a kk, a = h.size → St p l e R s m args below meth c Z B own nm ml ret n0 T' h' (k + 1) (n + cap) → Ext h h' → Arv Z h' a kk ty z [] dv → Exa Z h' a ad → Go p e below s n0 Q kC kS (T'.setTop (mkF m (pc + 2) Ls (.ref a :: st)))) : Go p e below s n0 Q kC kS (T.setTop (mkF m pc Ls (.int z :: st))) := by
  subst hty hdv
  obtain ⟨⟨hx, hby, hZ, q⟩, locs, X, eT, N⟩ := X
  obtain ⟨T', h', cA, X', e', E', A', G', st'⟩ := newPE X hx hZ w eT (g := mkF m pc Ls (.int z :: st)) rfl (by rw [hby]; exact hd) rfl hz hcap hb hc hl had
  exact (r T' h' _ cA rfl ⟨⟨hx, hby, hZ, q⟩, locs, X', e', N⟩ E' (Arv.new A' hz) G').st st'
theorem alen_ (X : St p l e R s m args below meth c Z B own nm ml ret n0 T h k n) {kk : ClassId} {ty : FieldType} {z : Int32} {vs : List Value} {dv : Value} {a : Addr} {pc : Nat} {Ls : Array Slot} {st : List Value} (hd : decode B pc = .ok (.arraylength, 1)) (A : Arv Z h a kk ty z vs dv)
    (r : Go p e below s n0 Q kC kS (T.setTop (mkF m (pc + 1) Ls (.int z :: st)))) : Go p e below s n0 Q kC kS (T.setTop (mkF m pc Ls (.ref a :: st))) := by
  obtain ⟨⟨hx, rfl, hZ, -⟩, locs, X, eT, -⟩ := X
  obtain ⟨cl, A, -, S, hz, -⟩ := A
  rw [← len_of S hz] at r
  exact r.st fun u kk => X.arraylength (g := mkF m pc Ls (.ref a :: st)) hx (by rw [eT]; exact A.1) (State.isArrayOf_alike hZ.alike A.2.1) rfl rfl hd u kk
theorem daload_ (X : St p l e R s m args below meth c Z B own nm ml ret n0 T h k n) {kk : ClassId} {z j : Int32} {vs : List Value} {dv : Value} {v : UInt64} {a : Addr} {pc : Nat} {Ls : Array Slot} {st : List Value} (hd : decode B pc = .ok (.daload, 1)) (A : Arv Z h a kk .double z vs dv) (hj : ¬ j < 0 ∧ j < z) (hv : vs.getD j.toNatClampNeg dv = .double v)
    (r : Go p e below s n0 Q kC kS (T.setTop (mkF m (pc + 1) Ls (.double v :: st)))) : Go p e below s n0 Q kC kS (T.setTop (mkF m pc Ls (.int j :: .ref a :: st))) := by
  obtain ⟨⟨hx, rfl, hZ, -⟩, locs, X, eT, -⟩ := X
  obtain ⟨cl, A, -, S, hz, H, -⟩ := A
  exact r.st fun u kk => X.daload (g := mkF m pc Ls (.int j :: .ref a :: st)) hx (by rw [eT]; exact A.1) (State.isArrayOf_alike hZ.alike A.2.1) A.2.2 (inb_of S hj) (H.at (inb_of S hj) hv) rfl rfl hd u kk
theorem iaload_ (X : St p l e R s m args below meth c Z B own nm ml ret n0 T h k n) {kk : ClassId} {z j : Int32} {vs : List Value} {dv : Value} {v : Int32} {a : Addr} {pc : Nat} {Ls : Array Slot} {st : List Value} (hd : decode B pc = .ok (.iaload, 1)) (A : Arv Z h a kk .int z vs dv) (hj : ¬ j < 0 ∧ j < z) (hv : vs.getD j.toNatClampNeg dv = .int v)
    (r : Go p e below s n0 Q kC kS (T.setTop (mkF m (pc + 1) Ls (.int v :: st)))) : Go p e below s n0 Q kC kS (T.setTop (mkF m pc Ls (.int j :: .ref a :: st))) := by
  obtain ⟨⟨hx, rfl, hZ, -⟩, locs, X, eT, -⟩ := X
  obtain ⟨cl, A, -, S, hz, H, -⟩ := A
  exact r.st fun u kk => X.iaload (g := mkF m pc Ls (.int j :: .ref a :: st)) hx (by rw [eT]; exact A.1) (State.isArrayOf_alike hZ.alike A.2.1) A.2.2 (inb_of S hj) (H.at (inb_of S hj) hv) rfl rfl hd u kk
theorem laload_ (X : St p l e R s m args below meth c Z B own nm ml ret n0 T h k n) {kk : ClassId} {z j : Int32} {vs : List Value} {dv : Value} {v : Int64} {a : Addr} {pc : Nat} {Ls : Array Slot} {st : List Value} (hd : decode B pc = .ok (.laload, 1)) (A : Arv Z h a kk .long z vs dv) (hj : ¬ j < 0 ∧ j < z) (hv : vs.getD j.toNatClampNeg dv = .long v)
    (r : Go p e below s n0 Q kC kS (T.setTop (mkF m (pc + 1) Ls (.long v :: st)))) : Go p e below s n0 Q kC kS (T.setTop (mkF m pc Ls (.int j :: .ref a :: st))) := by
  obtain ⟨⟨hx, rfl, hZ, -⟩, locs, X, eT, -⟩ := X
  obtain ⟨cl, A, -, S, hz, H, -⟩ := A
  exact r.st fun u kk => X.laload (g := mkF m pc Ls (.int j :: .ref a :: st)) hx (by rw [eT]; exact A.1) (State.isArrayOf_alike hZ.alike A.2.1) A.2.2 (inb_of S hj) (H.at (inb_of S hj) hv) rfl rfl hd u kk
theorem aaload_ (X : St p l e R s m args below meth c Z B own nm ml ret n0 T h k n) {kk : ClassId} {ty : FieldType} {z j : Int32} {vs : List Value} {dv v : Value} {a : Addr} {pc : Nat} {Ls : Array Slot} {st : List Value} (hd : decode B pc = .ok (.aaload, 1)) (A : Arv Z h a kk ty z vs dv) (hty : ty.isReference = true) (hj : ¬ j < 0 ∧ j < z) (hv : vs.getD j.toNatClampNeg dv = v)
    (r : Go p e below s n0 Q kC kS (T.setTop (mkF m (pc + 1) Ls (v :: st)))) : Go p e below s n0 Q kC kS (T.setTop (mkF m pc Ls (.int j :: .ref a :: st))) := by
  obtain ⟨⟨hx, rfl, hZ, -⟩, locs, X, eT, -⟩ := X
  obtain ⟨cl, A, -, S, hz, H, -⟩ := A
  exact r.st fun u kk => X.aaload (g := mkF m pc Ls (.int j :: .ref a :: st)) hx (by rw [eT]; exact A.1) (State.isArrayOf_alike hZ.alike A.2.1) hty A.2.2 (inb_of S hj) (H.at (inb_of S hj) hv) rfl rfl hd u kk
theorem dastore_ (X : St p l e R s m args below meth c Z B own nm ml ret n0 T h k n) {kk : ClassId} {z j : Int32} {vs : List Value} {dv : Value} {v : UInt64} {a : Addr} {pc : Nat} {Ls : Array Slot} {st : List Value} (i : Nat) (hd : decode B pc = .ok (.dastore, 1)) (A : Arv Z h a kk .double z vs dv) (hj : ¬ j < 0 ∧ j < z) (hi : j.toNatClampNeg = i) (hl : i < vs.length) (ha : n0 ≤ a)
    (r : ∀ T' h', St p l e R s m args below meth c Z B own nm ml ret n0 T' h' k n → Wr h h' a j.toNatClampNeg (.double v) → Arv Z h' a kk .double z (vs.set i (.double v)) dv → Go p e below s n0 Q kC kS (T'.setTop (mkF m (pc + 1) Ls st))) : Go p e below s n0 Q kC kS (T.setTop (mkF m pc Ls (.double v :: .int j :: .ref a :: st))) := by
  obtain ⟨⟨hx, hby, hZ, q⟩, locs, X, eT, N⟩ := X
  obtain ⟨cl, A, q1, S, hz, H, F⟩ := A
  obtain ⟨T', h', X', e', W', st'⟩ := stD X hx hZ eT A (inb_of S hj) (g := mkF m pc Ls (.double v :: .int j :: .ref a :: st)) rfl rfl (by rw [hby]; exact hd)
  exact (r T' h' ⟨⟨hx, hby, hZ, q⟩, _, X', e', Fr.snoc X' N ha⟩ W' (Arv.set A q1 S hz H F rfl W' i hi hl)).st st'
theorem iastore_ (X : St p l e R s m args below meth c Z B own nm ml ret n0 T h k n) {kk : ClassId} {z j : Int32} {vs : List Value} {dv : Value} {v : Int32} {a : Addr} {pc : Nat} {Ls : Array Slot} {st : List Value} (i : Nat) (hd : decode B pc = .ok (.iastore, 1)) (A : Arv Z h a kk .int z vs dv) (hj : ¬ j < 0 ∧ j < z) (hi : j.toNatClampNeg = i) (hl : i < vs.length) (ha : n0 ≤ a)
    (r : ∀ T' h', St p l e R s m args below meth c Z B own nm ml ret n0 T' h' k n → Wr h h' a j.toNatClampNeg (.int v) → Arv Z h' a kk .int z (vs.set i (.int v)) dv → Go p e below s n0 Q kC kS (T'.setTop (mkF m (pc + 1) Ls st))) : Go p e below s n0 Q kC kS (T.setTop (mkF m pc Ls (.int v :: .int j :: .ref a :: st))) := by
  obtain ⟨⟨hx, hby, hZ, q⟩, locs, X, eT, N⟩ := X
  obtain ⟨cl, A, q1, S, hz, H, F⟩ := A
  obtain ⟨T', h', X', e', W', st'⟩ := stI X hx hZ eT A (inb_of S hj) (g := mkF m pc Ls (.int v :: .int j :: .ref a :: st)) rfl rfl (by rw [hby]; exact hd)
  exact (r T' h' ⟨⟨hx, hby, hZ, q⟩, _, X', e', Fr.snoc X' N ha⟩ W' (Arv.set A q1 S hz H F rfl W' i hi hl)).st st'
theorem lastore_ (X : St p l e R s m args below meth c Z B own nm ml ret n0 T h k n) {kk : ClassId} {z j : Int32} {vs : List Value} {dv : Value} {v : Int64} {a : Addr} {pc : Nat} {Ls : Array Slot} {st : List Value} (i : Nat) (hd : decode B pc = .ok (.lastore, 1)) (A : Arv Z h a kk .long z vs dv) (hj : ¬ j < 0 ∧ j < z) (hi : j.toNatClampNeg = i) (hl : i < vs.length) (ha : n0 ≤ a)
    (r : ∀ T' h', St p l e R s m args below meth c Z B own nm ml ret n0 T' h' k n → Wr h h' a j.toNatClampNeg (.long v) → Arv Z h' a kk .long z (vs.set i (.long v)) dv → Go p e below s n0 Q kC kS (T'.setTop (mkF m (pc + 1) Ls st))) : Go p e below s n0 Q kC kS (T.setTop (mkF m pc Ls (.long v :: .int j :: .ref a :: st))) := by
  obtain ⟨⟨hx, hby, hZ, q⟩, locs, X, eT, N⟩ := X
  obtain ⟨cl, A, q1, S, hz, H, F⟩ := A
  obtain ⟨T', h', X', e', W', st'⟩ := stJ X hx hZ eT A (inb_of S hj) (g := mkF m pc Ls (.long v :: .int j :: .ref a :: st)) rfl rfl (by rw [hby]; exact hd)
  exact (r T' h' ⟨⟨hx, hby, hZ, q⟩, _, X', e', Fr.snoc X' N ha⟩ W' (Arv.set A q1 S hz H F rfl W' i hi hl)).st st'
theorem newRA_ (X : St p l e R s m args below meth c Z B own nm ml ret n0 T h k n) {a0 : Array Value} {C ad : String} {ty : FieldType} {index : Nat} {z : Int32} {pc : Nat} {Ls : Array Slot} {st : List Value} (cap : Nat) (hd : decode B pc = .ok (.anewarray index, 3)) (hC : (FieldType.array ty).toString = C) (had : "[" ++ C = ad) (w1 : (Cond.classLink own index C).before a0 Z = true) (w2 : (Cond.arrayOver (.array ty)).before a0 Z = true) (hz : ¬ z < 0) (hcap : z.toNatClampNeg ≤ cap) (hb : cap * 8 ≤ 536870912) (hc : k + 1 ≤ R.cells) (hl : n + cap ≤ R.slots)
    (r : ∀ T' h' a kk, a = h.size → St p l e R s m args below meth c Z B own nm ml ret n0 T' h' (k + 1) (n + cap) → Ext h h' → Arv Z h' a kk (.array ty) z [] .null → Exa Z h' a ad → OvrA Z kk ty C → Go p e below s n0 Q kC kS (T'.setTop (mkF m (pc + 3) Ls (.ref a :: st)))) : Go p e below s n0 Q kC kS (T.setTop (mkF m pc Ls (.int z :: st))) := by
  obtain ⟨⟨hx, hby, hZ, hown, q⟩, locs, X, eT, N⟩ := X
  obtain ⟨T', h', cA, X', e', E', A', G', O', st'⟩ := newRA X hx hZ hown hC w1 w2 eT (g := mkF m pc Ls (.int z :: st)) rfl (by rw [hby]; exact hd) rfl hz hcap hb hc hl had
  exact (r T' h' _ cA rfl ⟨⟨hx, hby, hZ, hown, q⟩, locs, X', e', N⟩ E' (Arv.new A' hz) G' O').st st'
theorem newRE_ (X : St p l e R s m args below meth c Z B own nm ml ret n0 T h k n) {a0 : Array Value} {C ad : String} {index : Nat} {z : Int32} {pc : Nat} {Ls : Array Slot} {st : List Value} (cap : Nat) (hd : decode B pc = .ok (.anewarray index, 3)) (had : "[" ++ (FieldType.object C).toString = ad) (w1 : (Cond.classLink own index C).before a0 Z = true) (w2 : (Cond.arrayOver (.object C)).before a0 Z = true) (hz : ¬ z < 0) (hcap : z.toNatClampNeg ≤ cap) (hb : cap * 8 ≤ 536870912) (hc : k + 1 ≤ R.cells) (hl : n + cap ≤ R.slots)
    (r : ∀ T' h' a kk, a = h.size → St p l e R s m args below meth c Z B own nm ml ret n0 T' h' (k + 1) (n + cap) → Ext h h' → Arv Z h' a kk (.object C) z [] .null → Exa Z h' a ad → Ovr Z kk C → Go p e below s n0 Q kC kS (T'.setTop (mkF m (pc + 3) Ls (.ref a :: st)))) : Go p e below s n0 Q kC kS (T.setTop (mkF m pc Ls (.int z :: st))) := by
  obtain ⟨⟨hx, hby, hZ, hown, q⟩, locs, X, eT, N⟩ := X
  obtain ⟨T', h', cA, X', e', E', A', G', O', st'⟩ := newRE X hx hZ hown w1 w2 eT (g := mkF m pc Ls (.int z :: st)) rfl (by rw [hby]; exact hd) rfl hz hcap hb hc hl had
  exact (r T' h' _ cA rfl ⟨⟨hx, hby, hZ, hown, q⟩, locs, X', e', N⟩ E' (Arv.new A' hz) G' O').st st'
theorem aastore_ (X : St p l e R s m args below meth c Z B own nm ml ret n0 T h k n) {kk : ClassId} {ty : FieldType} {z j : Int32} {vs : List Value} {dv v : Value} {a : Addr} {pc : Nat} {Ls : Array Slot} {st : List Value} (i : Nat) (hd : decode B pc = .ok (.aastore, 1)) (A : Arv Z h a kk ty z vs dv) (hty : ty.isReference = true) (hj : ¬ j < 0 ∧ j < z) (hi : j.toNatClampNeg = i) (hl : i < vs.length) (ha : n0 ≤ a) (hf : fits ty v = true) (F : ∀ cl : Cell, Arr Z h a cl ty → cl.cls = kk → Sto Z h a v)
    (r : ∀ T' h', St p l e R s m args below meth c Z B own nm ml ret n0 T' h' k n → Wr h h' a j.toNatClampNeg v → Arv Z h' a kk ty z (vs.set i v) dv → Go p e below s n0 Q kC kS (T'.setTop (mkF m (pc + 1) Ls st))) : Go p e below s n0 Q kC kS (T.setTop (mkF m pc Ls (v :: .int j :: .ref a :: st))) := by
  obtain ⟨⟨hx, hby, hZ, q⟩, locs, X, eT, N⟩ := X
  obtain ⟨cl, A, q1, S, hz, H, G⟩ := A
  obtain ⟨T', h', X', e', W', st'⟩ := stR X hx hZ eT A (inb_of S hj) hty (F cl A q1) (g := mkF m pc Ls (v :: .int j :: .ref a :: st)) rfl rfl (by rw [hby]; exact hd)
  exact (r T' h' ⟨⟨hx, hby, hZ, q⟩, _, X', e', Fr.snoc X' N ha⟩ W' (Arv.set A q1 S hz H G hf W' i hi hl)).st st'
theorem acmp_ (X : St p l e R s m args below meth c Z B own nm ml ret n0 T h k n) {cd : ACond} {pc pc' : Nat} {Ls : Array Slot} {st : List Value} {o : Int} {x y : Value} {same : Bool} (hd : decode B pc = .ok (.if_acmp cd o, 3)) (h1 : x.isRef = true) (h2 : y.isRef = true) (hq : decide (x = y) = same) (ho : 0 ≤ (pc : Int) + o) (hp : pc' = if acV cd same = true then ((pc : Int) + o).toNat else pc + 3)
    (r : Go p e below s n0 Q kC kS (T.setTop (mkF m pc' Ls st))) : Go p e below s n0 Q kC kS (T.setTop (mkF m pc Ls (y :: x :: st))) := by
  obtain ⟨⟨hx, rfl, -⟩, locs, X, -⟩ := X
  exact r.st fun u kk => Jvm.RoadKit.acmp (g := mkF m pc Ls (y :: x :: st)) X hx rfl h1 h2 rfl hd rfl hq ho hp kk

theorem gridM3_ (X : St p l e R s m args below meth c Z B own nm ml ret n0 T h k n) {a0 : Array Value} {C ad : String} {ty : FieldType} {index : Nat} {zk : Int32} {pc : Nat} {Ls : Array Slot} {st : List Value} (cap : Nat) (dv : Value) (hd : decode B pc = .ok (.multianewarray index 2, 4)) (hC : (FieldType.array ty).toString = C) (had : "[" ++ C = ad) (w1 : (Cond.classLink own index ad).before a0 Z = true) (w2 : (Cond.arrayOver (.array ty)).before a0 Z = true) (w3 : (Cond.arrayClass ty).before a0 Z = true) (hdv : defaultValue ty = dv) (hk : ¬ zk < 0) (hcap : zk.toNatClampNeg ≤ cap) (hb : cap * 8 ≤ 536870912) (hdf : fits ty (defaultValue ty) = true) (hdd : (defaultValue ty).isDefault = true) (hc : k + (1 + 3) ≤ R.cells) (hl : n + (3 + 3 * cap) ≤ R.slots)
    (r : ∀ T' h' a x0 x1 x2 kk comp, a = h.size → x0 = a + 1 → x1 = a + 2 → x2 = a + 3 → St p l e R s m args below meth c Z B own nm ml ret n0 T' h' (k + (1 + 3)) (n + (3 + 3 * cap)) → Ext h h' → Arv Z h' a kk (.array ty) 3 [.ref x0, .ref x1, .ref x2] .null → OvrA Z kk ty C → Exa Z h' a ad → Arv Z h' x0 comp ty zk [] dv → Arv Z h' x1 comp ty zk [] dv → Arv Z h' x2 comp ty zk [] dv → Exa Z h' x0 C → Exa Z h' x1 C → Exa Z h' x2 C → Go p e below s n0 Q kC kS (T'.setTop (mkF m (pc + 4) Ls (.ref a :: st)))) : Go p e below s n0 Q kC kS (T.setTop (mkF m pc Ls (.int zk :: .int 3 :: st))) := by
  subst hdv
  obtain ⟨⟨hx, hby, hZ, hown, q⟩, locs, X, eT, N⟩ := X
  obtain ⟨T', h', cA, comp, X', e', E', A', O', G', I', st'⟩ := gridM X hx hZ hown hC had w1 w2 w3 eT (g := mkF m pc Ls (.int zk :: .int 3 :: st)) rfl (by rw [hby]; exact hd) rfl (by decide) hk (xs := [h.size + 1 + 0, h.size + 1 + 1, h.size + 1 + 2]) (N := 3) rfl rfl hcap hb (by decide) hdf hdd hc hl
  exact (r T' h' _ _ _ _ cA comp rfl rfl rfl rfl ⟨⟨hx, hby, hZ, hown, q⟩, locs, X', e', N⟩ E' A' O' G' (Arv.new (I' 0 _ rfl).1 hk) (Arv.new (I' 1 _ rfl).1 hk) (Arv.new (I' 2 _ rfl).1 hk) (I' 0 _ rfl).2 (I' 1 _ rfl).2 (I' 2 _ rfl).2).st st'

theorem callS_ (X : St p l e R s m args below meth c Z B own nm ml ret n0 T h k n) {a0 : Array Value} {idx W pc : Nat} {Ls : Array Slot} {rest : List Value} {argsL : List Value} {y : MethodName} {bytes : ByteArray} {maxL : Nat} {rt : Option FieldType} {rm : Room} {Qc : Option Value → Heap → Prop} (hd : decode B pc = .ok (.invokestatic idx, 3)) (w1 : (Cond.methodLink own idx y).before a0 Z = true) (w2 : (Cond.static y).before a0 Z = true) (w3 : (Cond.initialized y.cls).before a0 Z = true) (w4 : (Cond.code y bytes maxL rt).before a0 Z = true)
    (hy : y.cls ≠ "java/lang/invoke/MethodHandle" ∧ y.cls ≠ "java/lang/invoke/VarHandle") (hM : Con l Z y [] bytes maxL rt rm argsL.toArray h n0 Qc) (hlen : ∀ sig, parseMethodDescriptor y.desc = some sig → argsL.length = sig.parameters.length) (hsz : Ls.size = ml) {stk : List Value} (hs : stk = argsL.reverse ++ rest)
    (hW : 2 * 0 + (rest.map fun v => v.category).sum ≤ W) (hf : rm.frames + 1 ≤ R.frames) (hl : W + (maxL + 11) + rm.locals ≤ R.locals) (hc : k + rm.cells ≤ R.cells) (hn : n + rm.slots ≤ R.slots)
    (r : ∀ T' h' v, St p l e R s m args below meth c Z B own nm ml ret n0 T' h' (k + rm.cells) (n + rm.slots) → Qc v h' → Go p e below s n0 Q kC kS (T'.setTop (mkF m (pc + 3) Ls (v.toList ++ rest)))) : Go p e below s n0 Q kC kS (T.setTop (mkF m pc Ls stk)) := by
  obtain ⟨⟨hx, hby, hZ, hown, hml, q⟩, locs, X, eT, N⟩ := X
  obtain ⟨v, vm1, ⟨T', L', k', n'⟩, -, X', ⟨Lc, ⟨hQ, N'⟩, l1, l2, l3⟩, st'⟩ := Jvm.LawKit.callS X hx (y := y) hown (mvT hZ w1) (mvT hZ w2) (mvT hZ w3) (mvT hZ w4) hy (backOf (Q := fun v h L => Qc v h ∧ Fr n0 L) hM hZ w4 w3 hf hl) (g := mkF m pc Ls stk) rfl (by rw [hml]; exact hsz) (argsL := argsL) (rest := rest) hlen hs hW (by rw [hby]; exact hd) (fun _ _ => ⟨rfl, eT, hc, hn⟩)
  dsimp only [Pt.U, Pt.locs, Pt.cells, Pt.slots] at X' l1 l2 l3 st' hQ
  subst l1 l2 l3
  exact (r T' T'.heap v ⟨⟨hx, hby, hZ, hown, hml, q⟩, _, X', rfl, Fr.app N N'⟩ hQ).st st'
theorem Go.tr {t t' : State} (r : Go p e below s n0 Q kC kS t') (q : Steps p.tables e below t t') : Go p e below s n0 Q kC kS t := r.st fun u kk => q.trans kk
theorem callI_ (X : St p l e R s m args below meth c Z B own nm ml ret n0 T h k n) {a0 : Array Value} {idx W pc : Nat} {Ls : Array Slot} {rest : List Value} {argsL : List Value} {a : Addr} {y : MethodName} {bytes : ByteArray} {maxL : Nat} {rm : Room} {Qc : Option Value → Heap → Prop} (hd : decode B pc = .ok (.invokespecial idx, 3)) (hin : y.name = "<init>") (w1 : (Cond.methodLink own idx y).before a0 Z = true) (w2 : (Cond.instanceMethod y).before a0 Z = true) (w3 : (Cond.initialized y.cls).before a0 Z = true) (w4 : (Cond.code y bytes maxL none).before a0 Z = true)
    (hy : y.cls ≠ "java/lang/invoke/MethodHandle" ∧ y.cls ≠ "java/lang/invoke/VarHandle") (hM : Con l Z y [] bytes maxL none rm (.ref a :: argsL).toArray h n0 Qc) (hlen : ∀ sig, parseMethodDescriptor y.desc = some sig → argsL.length = sig.parameters.length) (hsz : Ls.size = ml) {stk : List Value} (hs : stk = argsL.reverse ++ .ref a :: rest)
    (hW : 2 * 0 + (rest.map fun v => v.category).sum ≤ W) (hf : rm.frames + 1 ≤ R.frames) (hl : W + (maxL + 11) + rm.locals ≤ R.locals) (hc : k + rm.cells ≤ R.cells) (hn : n + rm.slots ≤ R.slots)
    (r : ∀ T' h' v, St p l e R s m args below meth c Z B own nm ml ret n0 T' h' (k + rm.cells) (n + rm.slots) → Qc v h' → Go p e below s n0 Q kC kS (T'.setTop (mkF m (pc + 3) Ls (v.toList ++ rest)))) : Go p e below s n0 Q kC kS (T.setTop (mkF m pc Ls stk)) := by
  obtain ⟨⟨hx, hby, hZ, hown, hml, q⟩, locs, X, eT, N⟩ := X
  obtain ⟨v, vm1, ⟨T', L', k', n'⟩, -, X', ⟨Lc, ⟨hQ, N'⟩, l1, l2, l3⟩, st'⟩ := X.specialBack hx (y := y) hin hown (mvT hZ w1) (mvT hZ w2) (mvT hZ w4) hy (backOf (Q := fun v h L => Qc v h ∧ Fr n0 L) hM hZ w4 w3 hf hl) (g := mkF m pc Ls stk) rfl (by rw [hml]; exact hsz) (Steps.refl _) (a := a) (argsL := argsL) (rest := rest) hlen hs hW (by rw [hby]; exact hd) (fun _ _ => ⟨rfl, eT, hc, hn⟩)
  dsimp only [Pt.U, Pt.locs, Pt.cells, Pt.slots] at X' l1 l2 l3 st' hQ
  subst l1 l2 l3
  exact (r T' T'.heap v ⟨⟨hx, hby, hZ, hown, hml, q⟩, _, X', rfl, Fr.app N N'⟩ hQ).tr st'
theorem callV_ (X : St p l e R s m args below meth c Z B own nm ml ret n0 T h k n) {a0 : Array Value} {idx W pc : Nat} {Ls : Array Slot} {rest : List Value} {argsL : List Value} {a : Addr} {C : String} {y z : MethodName} {bytes : ByteArray} {maxL : Nat} {rt : Option FieldType} {rm : Room} {Qc : Option Value → Heap → Prop} (hd : decode B pc = .ok (.invokevirtual idx, 3)) (w1 : (Cond.methodLink own idx y).before a0 Z = true) (w2 : (Cond.declares y).before a0 Z = true) (w5 : (Cond.selects C y z).before a0 Z = true) (w6 : (Cond.instanceMethod z).before a0 Z = true) (hzy : z = y) (w3 : (Cond.initialized z.cls).before a0 Z = true) (w4 : (Cond.code z bytes maxL rt).before a0 Z = true)
    (hy : y.cls ≠ "java/lang/invoke/MethodHandle" ∧ y.cls ≠ "java/lang/invoke/VarHandle") (E : Exa Z h a C) (hM : Con l Z z [] bytes maxL rt rm (.ref a :: argsL).toArray h n0 Qc) (hlen : ∀ sig, parseMethodDescriptor y.desc = some sig → argsL.length = sig.parameters.length) (hsz : Ls.size = ml) {stk : List Value} (hs : stk = argsL.reverse ++ .ref a :: rest)
    (hW : 2 * 0 + (rest.map fun v => v.category).sum ≤ W) (hf : rm.frames + 1 ≤ R.frames) (hl : W + (maxL + 11) + rm.locals ≤ R.locals) (hc : k + rm.cells ≤ R.cells) (hn : n + rm.slots ≤ R.slots)
    (r : ∀ T' h' v, St p l e R s m args below meth c Z B own nm ml ret n0 T' h' (k + rm.cells) (n + rm.slots) → Qc v h' → Go p e below s n0 Q kC kS (T'.setTop (mkF m (pc + 3) Ls (v.toList ++ rest)))) : Go p e below s n0 Q kC kS (T.setTop (mkF m pc Ls stk)) := by
  obtain ⟨⟨hx, hby, hZ, hown, hml, q⟩, locs, X, eT, N⟩ := X
  subst hzy
  obtain ⟨cq, kq, qa, qb, qc⟩ := isOf hZ eT E
  obtain ⟨v, vm1, ⟨T', L', k', n'⟩, -, X', ⟨Lc, ⟨hQ, N'⟩, l1, l2, l3⟩, st'⟩ := X.virtualBack hx (y := z) (z := z) hown (mvT hZ w1) (mvT hZ w2) (notFace_of_selects (args := #[]) (mvT hZ w5)) (mvT hZ w5) (mvT hZ w6) hy (backOf (Q := fun v h L => Qc v h ∧ Fr n0 L) hM hZ w4 w3 hf hl) qa qc (g := mkF m pc Ls stk) rfl (by rw [hml]; exact hsz) (Steps.refl _) (argsL := argsL) (rest := rest) hlen hs hW (by rw [hby]; exact hd) (fun _ _ => ⟨rfl, eT, hc, hn⟩)
  dsimp only [Pt.U, Pt.locs, Pt.cells, Pt.slots] at X' l1 l2 l3 st' hQ
  subst l1 l2 l3
  exact (r T' T'.heap v ⟨⟨hx, hby, hZ, hown, hml, q⟩, _, X', rfl, Fr.app N N'⟩ hQ).tr st'

theorem absD_ (X : St p l e R s m args below meth c Z B own nm ml ret n0 T h k n) {a0 : Array Value} {idx W pc : Nat} {Ls : Array Slot} {st : List Value} {x : UInt64} (hd : decode B pc = .ok (.invokestatic idx, 3)) (w1 : (Cond.methodLink own idx Jvm.Free.Fl.Abs.absDN).before a0 Z = true) (w2 : (Cond.static Jvm.Free.Fl.Abs.absDN).before a0 Z = true) (w3 : (Cond.initialized "java/lang/Math").before a0 Z = true) (w4 : (Cond.code Jvm.Free.Fl.Abs.absDN Jvm.Free.Fl.Abs.absDCode 2 (some .double)).before a0 Z = true) (nx : NoNaN64 x) (hlen : ∀ sig, parseMethodDescriptor "(D)D" = some sig → [Value.double x].length = sig.parameters.length) (hsz : Ls.size = ml)
    (hW : 2 * 0 + (st.map fun v => v.category).sum ≤ W) (hf : 1 ≤ R.frames) (hl : W + 13 ≤ R.locals) (hk : k ≤ R.cells) (hn : n ≤ R.slots)
    (r : ∀ T', St p l e R s m args below meth c Z B own nm ml ret n0 T' h k n → Go p e below s n0 Q kC kS (T'.setTop (mkF m (pc + 3) Ls (.double (x &&& 0x7fffffffffffffff) :: st)))) : Go p e below s n0 Q kC kS (T.setTop (mkF m pc Ls (.double x :: st))) := by
  obtain ⟨⟨hx, hby, hZ, hown, hml, q⟩, locs, X, eT, N⟩ := X
  obtain ⟨T', X', e', st'⟩ := natS X hx hZ hown w1 w2 w3 w4 (by decide) eT (W := W) (fun hc => Jvm.Free.Fl.Abs.absD_pays x hc hf hl) (g := mkF m pc Ls (.double x :: st)) rfl (by rw [hml]; exact hsz) (argsL := [.double x]) (rest := st) hlen rfl hW (by rw [hby]; exact hd) hk hn ⟨rfl, nx⟩ rfl
  exact (r T' ⟨⟨hx, hby, hZ, hown, hml, q⟩, locs, X', e', N⟩).st st'

theorem callP_ (X : St p l e R s m args below meth c Z B own nm ml ret n0 T h k n) {a0 : Array Value} {idx W pc : Nat} {Ls : Array Slot} {rest : List Value} {argsL : List Value} {a : Addr} {C D : String} {y z' z : MethodName} {bytes : ByteArray} {maxL : Nat} {rt : Option FieldType} {rm : Room} {Qc : Option Value → Heap → Prop} (hd : decode B pc = .ok (.invokevirtual idx, 3)) (w1 : (Cond.methodLink own idx y).before a0 Z = true) (w2 : (Cond.instanceMethod y).before a0 Z = true) (w5 : (Cond.selects D z' z).before a0 Z = true) (hz : z.cls = y.cls) (w6 : (Cond.privateMethod y).before a0 Z = true) (w3 : (Cond.initialized y.cls).before a0 Z = true) (w4 : (Cond.code y bytes maxL rt).before a0 Z = true)
    (hy : y.cls ≠ "java/lang/invoke/MethodHandle" ∧ y.cls ≠ "java/lang/invoke/VarHandle") (E : Exa Z h a C) (hM : Con l Z y [] bytes maxL rt rm (.ref a :: argsL).toArray h n0 Qc) (hlen : ∀ sig, parseMethodDescriptor y.desc = some sig → argsL.length = sig.parameters.length) (hsz : Ls.size = ml) {stk : List Value} (hs : stk = argsL.reverse ++ .ref a :: rest)
    (hW : 2 * 0 + (rest.map fun v => v.category).sum ≤ W) (hf : rm.frames + 1 ≤ R.frames) (hl : W + (maxL + 11) + rm.locals ≤ R.locals) (hc : k + rm.cells ≤ R.cells) (hn : n + rm.slots ≤ R.slots)
    (r : ∀ T' h' v, St p l e R s m args below meth c Z B own nm ml ret n0 T' h' (k + rm.cells) (n + rm.slots) → Qc v h' → Go p e below s n0 Q kC kS (T'.setTop (mkF m (pc + 3) Ls (v.toList ++ rest)))) : Go p e below s n0 Q kC kS (T.setTop (mkF m pc Ls stk)) := by
  obtain ⟨⟨hx, hby, hZ, hown, hml, q⟩, locs, X, eT, N⟩ := X
  obtain ⟨mk, methM, hnamed, hmethM, hstM, habM⟩ := Cond.instanceMethod_spec (args := args) (mvT hZ w2)
  obtain ⟨methM', cM, hmethM', -, -, -, -, -, -, hsigM⟩ := Cond.code_spec hnamed (mvT (args := args) hZ w4)
  cases hmethM.symm.trans hmethM'
  obtain ⟨c2, r2, m2, -, -, q3, -, kP, hkP, hkPi⟩ := Cond.selects_spec (args := args) (mvT hZ w5)
  have hcl : m2.cls = mk.cls := Option.some.inj ((findClass_of_methodNamed q3).symm.trans (by rw [hz]; exact findClass_of_methodNamed hnamed))
  rw [hcl] at hkP
  obtain ⟨cell, hcell, hobj⟩ := E.cell
  have hsel : selectMethod e.platform s.vm cell.cls mk = .method mk := selectMethod_private hmethM (Cond.privateMethod_at (mvP hZ w6 (args := args)) mk methM hnamed hmethM)
  obtain ⟨vm1, X1, step1⟩ := X.invokevirtual hx hown (mvT hZ w1) hnamed hmethM hstM hkP hkPi hy (a := a) (cell := cell) (by rw [eT]; exact hcell) hobj hsel hmethM habM hkP hkPi (g := mkF m pc Ls stk) rfl (argsL := argsL) (rest := rest) (hlen _ hsigM) hs (by rw [hby]; exact hd)
  obtain ⟨v, ⟨T', L', k', n'⟩, X', ⟨Lc, ⟨hQ, N'⟩, l1, l2, l3⟩, st'⟩ := (backOf (Q := fun v h L => Qc v h ∧ Fr n0 L) hM hZ w4 w3 hf hl) m meth c ⟨T.setVm vm1, locs, k, n⟩ { mkF m pc Ls stk with stack := rest } (.invokevirtual idx) mk (.ref a :: argsL).toArray X1 rfl (by rw [hml]; exact hsz) (by rw [hby]; exact hd) hW (X1.named hnamed) ⟨rfl, eT, hc, hn⟩
  dsimp only [Pt.U, Pt.locs, Pt.cells, Pt.slots] at X' l1 l2 l3 st' hQ
  subst l1 l2 l3
  exact (r T' T'.heap v ⟨⟨hx, hby, hZ, hown, hml, q⟩, _, X', rfl, Fr.app N N'⟩ hQ).tr ((step1 _ fun acts => by rw [doInvoke_state]; exact Steps.refl _).trans st')

theorem callSN_ (X : St p l e R s m args below meth c Z B own nm ml ret n0 T h k n) {a0 : Array Value} {host : String} {idx W pc : Nat} {Ls : Array Slot} {rest : List Value} {argsL : List Value} {y : MethodName} {bytes : ByteArray} {maxL : Nat} {rt : Option FieldType} {rm : Room} {Qc : Option Value → Heap → Prop} (hd : decode B pc = .ok (.invokestatic idx, 3)) (w1 : (Cond.methodLinkNest own idx y host).before a0 Z = true) (w2 : (Cond.static y).before a0 Z = true) (w3 : (Cond.initialized y.cls).before a0 Z = true) (w4 : (Cond.code y bytes maxL rt).before a0 Z = true)
    (hy : y.cls ≠ "java/lang/invoke/MethodHandle" ∧ y.cls ≠ "java/lang/invoke/VarHandle") (hM : Con l Z y [] bytes maxL rt rm argsL.toArray h n0 Qc) (hlen : ∀ sig, parseMethodDescriptor y.desc = some sig → argsL.length = sig.parameters.length) (hsz : Ls.size = ml) {stk : List Value} (hs : stk = argsL.reverse ++ rest)
    (hW : 2 * 0 + (rest.map fun v => v.category).sum ≤ W) (hf : rm.frames + 1 ≤ R.frames) (hl : W + (maxL + 11) + rm.locals ≤ R.locals) (hc : k + rm.cells ≤ R.cells) (hn : n + rm.slots ≤ R.slots)
    (r : ∀ T' h' v, St p l e R s m args below meth c Z B own nm ml ret n0 T' h' (k + rm.cells) (n + rm.slots) → Qc v h' → Go p e below s n0 Q kC kS (T'.setTop (mkF m (pc + 3) Ls (v.toList ++ rest)))) : Go p e below s n0 Q kC kS (T.setTop (mkF m pc Ls stk)) := by
  obtain ⟨⟨hx, hby, hZ, hown, hml, q⟩, locs, X, eT, N⟩ := X
  obtain ⟨v, vm1, ⟨T', L', k', n'⟩, -, X', ⟨Lc, ⟨hQ, N'⟩, l1, l2, l3⟩, st'⟩ := Jvm.RoadKit.callSN X hx (y := y) hown ((Cond.methodLinkNest_wide hZ w1 :) ) (mvT hZ w2) (mvT hZ w3) (mvT hZ w4) hy (backOf (Q := fun v h L => Qc v h ∧ Fr n0 L) hM hZ w4 w3 hf hl) (g := mkF m pc Ls stk) rfl (by rw [hml]; exact hsz) (argsL := argsL) (rest := rest) hlen hs hW (by rw [hby]; exact hd) (fun _ _ => ⟨rfl, eT, hc, hn⟩)
  dsimp only [Pt.U, Pt.locs, Pt.cells, Pt.slots] at X' l1 l2 l3 st' hQ
  subst l1 l2 l3
  exact (r T' T'.heap v ⟨⟨hx, hby, hZ, hown, hml, q⟩, _, X', rfl, Fr.app N N'⟩ hQ).tr st'

theorem signD_ (X : St p l e R s m args below meth c Z B own nm ml ret n0 T h k n) {a0 : Array Value} {idx W pc maxL : Nat} {bytes : ByteArray} {Ls : Array Slot} {st : List Value} {x : UInt64} (hd : decode B pc = .ok (.invokestatic idx, 3)) (w1 : (Cond.methodLink own idx Jvm.Free.NT.mathSignum64N).before a0 Z = true) (w2 : (Cond.static Jvm.Free.NT.mathSignum64N).before a0 Z = true) (w3 : (Cond.initialized "java/lang/Math").before a0 Z = true) (w4 : (Cond.code Jvm.Free.NT.mathSignum64N bytes maxL (some .double)).before a0 Z = true) (nx : NoNaN64 x) (hlen : ∀ sig, parseMethodDescriptor "(D)D" = some sig → [Value.double x].length = sig.parameters.length) (hsz : Ls.size = ml)
    (hW : 2 * 0 + (st.map fun v => v.category).sum ≤ W) (hf : 1 ≤ R.frames) (hl : W + (maxL + 11) ≤ R.locals) (hk : k ≤ R.cells) (hn : n ≤ R.slots)
    (r : ∀ T', St p l e R s m args below meth c Z B own nm ml ret n0 T' h k n → Go p e below s n0 Q kC kS (T'.setTop (mkF m (pc + 3) Ls (.double (Jvm.signum64 x) :: st)))) : Go p e below s n0 Q kC kS (T.setTop (mkF m pc Ls (.double x :: st))) := by
  obtain ⟨⟨hx, hby, hZ, hown, hml, q⟩, locs, X, eT, N⟩ := X
  obtain ⟨T', X', e', st'⟩ := natS X hx hZ hown w1 w2 w3 w4 (by decide) eT (W := W) (F := fun a' => a' = #[.double x] ∧ NoNaN64 x) (val := .double (Jvm.signum64 x)) (fun hc => by
    intro m' meth' c' A g ig mk a' X1 hg hsize hdg hW' hnamed ⟨_, _, ha', ha⟩
    obtain ⟨v, B', X2, ⟨hB, hv⟩, st2⟩ := (Jvm.Free.NT.Signum64.pays hc (mvT hZ w2) hf hl) m' meth' c' A g ig mk a' X1 hg hsize hdg hW' hnamed ⟨x, ha', Jvm.Free.Fl.Abs.dIsNaN_false ha⟩
    exact ⟨v, B', X2, ⟨hv x ⟨ha', Jvm.Free.Fl.Abs.dIsNaN_false ha⟩, hB⟩, st2⟩) (g := mkF m pc Ls (.double x :: st)) rfl (by rw [hml]; exact hsz) (argsL := [.double x]) (rest := st) hlen rfl hW (by rw [hby]; exact hd) hk hn ⟨rfl, nx⟩ rfl
  exact (r T' ⟨⟨hx, hby, hZ, hown, hml, q⟩, locs, X', e', N⟩).st st'
theorem nn_sign {x : UInt64} (h : NoNaN64 x) : NoNaN64 (Jvm.signum64 x) := by
  obtain ⟨o, ho⟩ := Jvm.Free.Fl.dcmp_of_noNaN h (b := 0) (by unfold NoNaN64; decide)
  cases o with
  | lt => rw [Jvm.FP.V.signum_neg ho]; unfold NoNaN64; decide
  | gt => rw [Jvm.FP.V.signum_pos ho]; unfold NoNaN64; decide
  | eq => rw [Jvm.FP.V.signum_zero ho]; exact h

theorem cpA_ (X : St p l e R s m args below meth c Z B own nm ml ret n0 T h k n) {a0 : Array Value} {idx W pc : Nat} {Ls : Array Slot} {rest : List Value} {a b : Addr} {ka kb : ClassId} {ty : FieldType} {z z' sp dp nn : Int32} {vs vd us : List Value} {dv dd : Value} (hd : decode B pc = .ok (.invokestatic idx, 3)) (w1 : (Cond.methodLink own idx Jvm.Stand.acN).before a0 Z = true) (w2 : (Cond.native Jvm.Stand.acN).before a0 Z = true) (w3 : (Cond.static Jvm.Stand.acN).before a0 Z = true) (w4 : (Cond.initialized "java/lang/System").before a0 Z = true)
    (A : Arv Z h a ka ty z vs dv) (V : Arv Z h b kb ty z' vd dd) (hty : refKind ty = false) (h1 : ¬ sp < 0) (h2 : ¬ dp < 0) (h3 : ¬ nn < 0) (h4 : sp.toNatClampNeg + nn.toNatClampNeg ≤ z.toNatClampNeg) (h5 : dp.toNatClampNeg + nn.toNatClampNeg ≤ z'.toNatClampNeg) (hus : us = (List.range nn.toNatClampNeg).map fun i => vs.getD (sp.toNatClampNeg + i) dv) (hl : dp.toNatClampNeg + nn.toNatClampNeg ≤ vd.length) (ge : n0 ≤ b) (hsz : Ls.size = ml)
    (hf : 1 ≤ R.frames) (hW : 2 * 0 + (rest.map fun v => v.category).sum ≤ W) (hlo : W + (nativeFrameWords "java/lang/System" "arraycopy" 5 + 11) ≤ R.locals)
    (r : ∀ T' h', St p l e R s m args below meth c Z B own nm ml ret n0 T' h' k n → Keep h h' [b] → Arv Z h' b kb ty z' (vd.take dp.toNatClampNeg ++ us ++ vd.drop (dp.toNatClampNeg + nn.toNatClampNeg)) dd → Go p e below s n0 Q kC kS (T'.setTop (mkF m (pc + 3) Ls rest))) : Go p e below s n0 Q kC kS (T.setTop (mkF m pc Ls (.int nn :: .int dp :: .ref b :: .int sp :: .ref a :: rest))) := by
  obtain ⟨⟨hx, hby, hZ, hown, hml, q⟩, locs, X, eT, N⟩ := X
  obtain ⟨T', h', L', X', e', N', K', V', st'⟩ := cpA X hx hZ hown w1 w2 w3 w4 eT A V (Or.inl ⟨rfl, hty⟩) h1 h2 h3 h4 h5 hus hl N ge (g := mkF m pc Ls (.int nn :: .int dp :: .ref b :: .int sp :: .ref a :: rest)) rfl (by rw [hml]; exact hsz) rfl (by rw [hby]; exact hd) hf hW hlo
  exact (r T' h' ⟨⟨hx, hby, hZ, hown, hml, q⟩, L', X', e', N'⟩ K' V').st st'
theorem clone_ (X : St p l e R s m args below meth c Z B own nm ml ret n0 T h k n) {a0 : Array Value} {ad : String} {idx W pc : Nat} {Ls : Array Slot} {rest : List Value} {a : Addr} {ka : ClassId} {ty : FieldType} {z : Int32} {vs : List Value} {dv : Value} (cap : Nat) (hd : decode B pc = .ok (.invokevirtual idx, 3)) (w1 : (Cond.methodLink own idx ⟨ad, "clone", "()Ljava/lang/Object;"⟩).before a0 Z = true) (w2 : (Cond.sameMethod ad "java/lang/Object" "clone" "()Ljava/lang/Object;").before a0 Z = true) (w3 : (Cond.native ⟨"java/lang/Object", "clone", "()Ljava/lang/Object;"⟩).before a0 Z = true)
    (w4 : (Cond.instanceMethod ⟨"java/lang/Object", "clone", "()Ljava/lang/Object;"⟩).before a0 Z = true) (w5 : (Cond.selects ad ⟨ad, "clone", "()Ljava/lang/Object;"⟩ ⟨"java/lang/Object", "clone", "()Ljava/lang/Object;"⟩).before a0 Z = true) (w6 : (Cond.castable ad "java/lang/Cloneable").before a0 Z = true)
    (F : Arv Z h a ka ty z vs dv) (E : Exa Z h a ad) (hsz : Ls.size = ml) (hf : 1 ≤ R.frames) (hW : 2 * 0 + (rest.map fun v => v.category).sum ≤ W) (hl : W + 14 ≤ R.locals) (hcap : z.toNatClampNeg ≤ cap) (hc : k + 1 ≤ R.cells) (hsl : n + cap ≤ R.slots)
    (r : ∀ T' h' b, b = h.size → St p l e R s m args below meth c Z B own nm ml ret n0 T' h' (k + 1) (n + cap) → Ext h h' → Arv Z h' b ka ty z vs dv → Exa Z h' b ad → Go p e below s n0 Q kC kS (T'.setTop (mkF m (pc + 3) Ls (.ref b :: rest)))) : Go p e below s n0 Q kC kS (T.setTop (mkF m pc Ls (.ref a :: rest))) := by
  obtain ⟨⟨hx, hby, hZ, hown, hml, q⟩, locs, X, eT, N⟩ := X
  obtain ⟨T', h', X', e', E', V', G', st'⟩ := cloneH X hx hZ hown w1 w2 w3 w4 w5 w6 eT F.arh E (g := mkF m pc Ls (.ref a :: rest)) rfl (by rw [hml]; exact hsz) rfl (by rw [hby]; exact hd) hf hW hl hcap hc hsl
  exact (r T' h' _ rfl ⟨⟨hx, hby, hZ, hown, hml, q⟩, locs, X', e', N⟩ E' V' G').st st'
theorem cast_ (X : St p l e R s m args below meth c Z B own nm ml ret n0 T h k n) {a0 : Array Value} {K : String} {idx pc : Nat} {Ls : Array Slot} {rest : List Value} {a : Addr} (hd : decode B pc = .ok (.checkcast idx, 3)) (w : (Cond.classLink own idx K).before a0 Z = true) (F : Ins Z h a K true)
    (r : ∀ T', St p l e R s m args below meth c Z B own nm ml ret n0 T' h k n → Go p e below s n0 Q kC kS (T'.setTop (mkF m (pc + 3) Ls (.ref a :: rest)))) : Go p e below s n0 Q kC kS (T.setTop (mkF m pc Ls (.ref a :: rest))) := by
  obtain ⟨⟨hx, hby, hZ, hown, q⟩, locs, X, eT, N⟩ := X
  obtain ⟨T', X', e', st'⟩ := castY X hx hZ hown w eT F (g := mkF m pc Ls (.ref a :: rest)) rfl rfl (by rw [hby]; exact hd)
  exact (r T' ⟨⟨hx, hby, hZ, hown, q⟩, locs, X', e', N⟩).st st'

theorem enter {y : MethodName} {ws : List Jvm.Cond} {rm : Room} {as : Array Value} {h0 : Heap} {Ls : Array Slot} {own nm : String} (hpl : plainFor y = true) (ho : y.cls = own) (hnm : y.name = nm) (hef : ∀ m, entryFrame m as ml = mkF m 0 Ls [])
    (body : ∀ p e s m below meth c T, St p l e rm s m as below meth c Z B own nm ml ret n0 T h0 0 0 → Go p e below s n0 Q rm.cells rm.slots (T.setTop (mkF m 0 Ls []))) : Con l Z y ws B ml ret rm as h0 n0 Q := by
  refine MetFree.of_bodySF hpl hisR ?_
  intro p e s m args below meth c s₁ Bd hml0 hP hK
  obtain ⟨rfl, hZ, hh⟩ := hP
  have X0 : Stand p l e rm s m _ below meth c s₁ [] 0 0 := Stand.of_body Bd
  have e0 : s₁.heap = h0 := by rw [← hh, Bd.state]; rfl
  rw [hef]
  exact body p e s m below meth c s₁ ⟨⟨Bd.exec, Bd.bytes, hZ, ho ▸ findClass_of_methodNamed Bd.named, hml0, Bd.returns, Bd.notSynchronized, (name_of_methodNamed Bd.named Bd.method).1.trans hnm⟩, [], X0, e0, Fr.nil n0⟩
theorem Con.imp {y : MethodName} {ws : List Jvm.Cond} {rm : Room} {as : Array Value} {h0 : Heap} {Q' : Option Value → Heap → Prop} (C : Con l Z y ws B ml ret rm as h0 n0 Q') (q : ∀ v h, Q' v h → Q v h) : Con l Z y ws B ml ret rm as h0 n0 Q := by
  intro p e ha hc hk s m args below hf happ hP hK
  obtain ⟨n, o, h1, h2, h3, v, L, h4, ⟨h5, h6⟩, h7⟩ := C p e ha hc hk s m args below hf happ hP hK
  exact ⟨n, o, h1, h2, h3, v, L, h4, ⟨q _ _ h5, h6⟩, h7⟩
end Kit
end Jvm.Own

namespace Jvm.Own
open Jvm.FP Jvm.FP.Core Jvm.Free.Fl
/-- one, in units of 2^-1074 -/
def U : Int := (one64 : Int)
theorem U_pos : 0 < U := by unfold U; have := one64_pos; omega
theorem U_pow : U = 2 ^ 1074 := by unfold U one64; exact Int.natCast_pow 2 1074
theorem U_lt {a b : Int} : a * U < b * U ↔ a < b := Int.mul_lt_mul_right U_pos
theorem U_le {a b : Int} : a * U ≤ b * U ↔ a ≤ b := Int.mul_le_mul_right U_pos
theorem U_eq {a b : Int} : a * U = b * U ↔ a = b := Int.mul_eq_mul_right_iff (by have := U_pos; omega)
theorem nn_0 : NoNaN64 0 := by unfold NoNaN64; decide
theorem nn_1 : NoNaN64 4607182418800017408 := by unfold NoNaN64; decide
theorem fin_0 : Fin64 0 := by unfold Fin64; decide
theorem fin_1 : Fin64 4607182418800017408 := by unfold Fin64; decide
theorem dz_0 : dz 0 = 0 := zval64_zero
theorem dz_int {i : Int} {v : UInt64} (h : DInt i v) : Fin64 v ∧ dz v = i * U := by
  refine ⟨fin64_core.mpr ?_, DInt_zval h⟩
  unfold DInt at h
  cases hv : val64 v with
  | nan => rw [hv] at h; exact h.elim
  | inf q => rw [hv] at h; exact h.elim
  | fin s c q => exact ⟨s, c, q, hv⟩
theorem dz_1 : dz 4607182418800017408 = U := by rw [(dz_int dint_one).2, Int.one_mul]
theorem i2d_v {x : Int32} {v : UInt64} (h : FP.i2d x = v) : Fin64 v ∧ dz v = x.toInt * U := h ▸ dz_int (i2d_int x)
theorem l2d_v {x : Int64} {v : UInt64} (h : FP.l2d x = v) (hx : x.toInt.natAbs ≤ 2 ^ 53) : Fin64 v ∧ dz v = x.toInt * U := h ▸ dz_int (l2d_int hx)
theorem fin_val {x : UInt64} (h : Fin64 x) : ∃ s c q, val64 x = .fin s c q := fin64_core.mp h
/-- the greatest magnitude, and one more -/
def Top : Nat := b64.tails * 2 ^ (b64.exps - 2)
theorem Top_pow : Top = 2 ^ 2098 := by unfold Top; rw [tails_b64, show b64.exps - 2 = 2046 from by decide, ← Nat.pow_add]
theorem fin_lt {x : UInt64} (h : Fin64 x) : (dz x).natAbs < Top := by
  have := (fin64_core.mp h).zval_lt
  show (signed _ _).natAbs < _
  rw [natAbs_signed]; exact this
theorem fin_of {x : UInt64} (h : NoNaN64 x) (q : (dz x).natAbs < Top) : Fin64 x := by
  refine fin64_core.mpr ?_
  cases hv : val64 x with
  | nan => exact absurd hv (val64_no.mp h)
  | inf s =>
    have : (dz x).natAbs = Top := by
      show (signed _ (zmag b64 (val64 x))).natAbs = _
      rw [natAbs_signed, hv]; rfl
    omega
  | fin s c q => exact ⟨s, c, q, hv⟩
/-- a number of at most 53 digits, at any place within reach, is a double -/
theorem rep (k : Int) (j : Nat) (hk : k.natAbs < 2 ^ 53) (hj : j ≤ 2040) : ∃ V : UInt64, Fin64 V ∧ dz V = k * 2 ^ j := by
  obtain ⟨c', q', h1, h2⟩ := round_exact good_b64 (decide (k < 0)) (c := k.natAbs) (q := b64.qmin + (j : Int)) hk (by omega) (by
    have : b64.qmax = b64.qmin + 2045 := by decide
    omega)
  have hf : Core.fits b64 (.fin (decide (k < 0)) c' q') := h1 ▸ round_fits good_b64 _
  refine ⟨of64 (.fin (decide (k < 0)) c' q'), fin64_core.mpr ⟨_, _, _, val64_of64 hf⟩, ?_⟩
  show zval b64 (val64 _) = _
  rw [val64_of64 hf]
  show signed _ (inUnits c' q' b64.qmin) = _
  rw [h2]
  unfold inUnits
  rw [show (b64.qmin + (j : Int) - b64.qmin).toNat = j by omega, signed_mul, show ((2 ^ j : Nat) : Int) = 2 ^ j from Int.natCast_pow 2 j]
  congr 1
  unfold signed
  by_cases q : k < 0 <;> simp [q, sgn] <;> omega
theorem repU (k : Int) (j : Nat) (hk : k.natAbs < 2 ^ 53) (hj : j ≤ 1074) : ∃ V : UInt64, Fin64 V ∧ dz V * 2 ^ j = k * U := by
  obtain ⟨V, h1, h2⟩ := rep k (1074 - j) hk (by omega)
  refine ⟨V, h1, ?_⟩
  rw [h2, Int.mul_assoc, ← Int.pow_add, show 1074 - j + j = 1074 by omega, U_pow]
/-! sums -/
theorem dadd_le {a b V : UInt64} (fa : Fin64 a) (fb : Fin64 b) (nV : NoNaN64 V) (h : dz a + dz b ≤ dz V) : dz (FP.dadd a b) ≤ dz V := by
  show zval b64 (val64 (Core.dadd a b)) ≤ _
  rw [val64_dadd]
  exact sum_le good_b64 (fin_val fa) (fin_val fb) (val64_fits a) (val64_fits b) (val64_fits V) (nn_val nV) h
theorem dadd_ge {a b V : UInt64} (fa : Fin64 a) (fb : Fin64 b) (nV : NoNaN64 V) (h : dz V ≤ dz a + dz b) : dz V ≤ dz (FP.dadd a b) := by
  show _ ≤ zval b64 (val64 (Core.dadd a b))
  rw [val64_dadd]
  exact sum_ge good_b64 (fin_val fa) (fin_val fb) (val64_fits a) (val64_fits b) (val64_fits V) (nn_val nV) h
theorem neg_fin {d : Datum} (h : ∃ s c q, d = .fin s c q) : ∃ s c q, negate d = .fin s c q := by
  obtain ⟨s, c, q, rfl⟩ := h; exact ⟨_, _, _, rfl⟩
theorem dsub_le {a b V : UInt64} (fa : Fin64 a) (fb : Fin64 b) (nV : NoNaN64 V) (h : dz a - dz b ≤ dz V) : dz (FP.dsub a b) ≤ dz V := by
  show zval b64 (val64 (Core.dsub a b)) ≤ _
  rw [val64_dsub]
  refine sum_le good_b64 (fin_val fa) (neg_fin (fin_val fb)) (val64_fits a) (negate_fits (val64_fits b)) (val64_fits V) (nn_val nV) ?_
  rw [zval_negate]; exact h
theorem dsub_ge {a b V : UInt64} (fa : Fin64 a) (fb : Fin64 b) (nV : NoNaN64 V) (h : dz V ≤ dz a - dz b) : dz V ≤ dz (FP.dsub a b) := by
  show _ ≤ zval b64 (val64 (Core.dsub a b))
  rw [val64_dsub]
  refine sum_ge good_b64 (fin_val fa) (neg_fin (fin_val fb)) (val64_fits a) (negate_fits (val64_fits b)) (val64_fits V) (nn_val nV) ?_
  rw [zval_negate]; exact h
/-- a sum that is a double is exact -/
theorem dadd_x {a b v V : UInt64} (e : FP.dadd a b = v) (fa : Fin64 a) (fb : Fin64 b) (fV : Fin64 V) (h : dz a + dz b = dz V) : Fin64 v ∧ dz v = dz a + dz b := by
  subst e
  have q : dz (FP.dadd a b) = dz a + dz b := by
    have h1 := dadd_le fa fb fV.noNaN (Int.le_of_eq h)
    have h2 := dadd_ge fa fb fV.noNaN (Int.le_of_eq h.symm)
    omega
  exact ⟨fin_of (dadd_out fa.noNaN fb) (by rw [q, h]; exact fin_lt fV), q⟩
theorem dsub_x {a b v V : UInt64} (e : FP.dsub a b = v) (fa : Fin64 a) (fb : Fin64 b) (fV : Fin64 V) (h : dz a - dz b = dz V) : Fin64 v ∧ dz v = dz a - dz b := by
  subst e
  have q : dz (FP.dsub a b) = dz a - dz b := by
    have h1 := dsub_le fa fb fV.noNaN (Int.le_of_eq h)
    have h2 := dsub_ge fa fb fV.noNaN (Int.le_of_eq h.symm)
    omega
  exact ⟨fin_of (dsub_out fa.noNaN fb) (by rw [q, h]; exact fin_lt fV), q⟩
/-! products -/
theorem zval_fin (f : Fmt) (s : Bool) (c : Nat) (q : Int) : zval f (.fin s c q) = signed s (inUnits c q f.qmin) := rfl
theorem signed_xor' (s t : Bool) (c d : Nat) : signed (s != t) (c * d) = signed s c * signed t d := signed_xor s t c d
theorem pow_two_qmin : ((2 ^ (b64.qmin - 2 * b64.qmin).toNat : Nat) : Int) = U := by
  unfold U; rw [← pow_qmin64]; rfl
theorem dmul_le {a b V : UInt64} (fa : Fin64 a) (fb : Fin64 b) (nV : NoNaN64 V) (h : dz a * dz b ≤ dz V * U) : dz (FP.dmul a b) ≤ dz V := by
  obtain ⟨s, c, q, ha⟩ := fin_val fa
  obtain ⟨t, d, r, hb⟩ := fin_val fb
  have fa' := val64_fits a
  have fb' := val64_fits b
  unfold dz at h ⊢
  show zval b64 (val64 (Core.dmul a b)) ≤ _
  rw [val64_dmul]
  rw [ha] at fa' h ⊢
  rw [hb] at fb' h ⊢
  obtain ⟨h1, h2, h3⟩ := product_units fa' fb'
  rw [h1]
  refine zval_round_le good_b64 (val64_fits V) (nn_val nV) (e0 := 2 * b64.qmin) (by decide) h2 ?_
  rw [h3, pow_two_qmin, signed_xor']
  exact h
theorem dmul_ge {a b V : UInt64} (fa : Fin64 a) (fb : Fin64 b) (nV : NoNaN64 V) (h : dz V * U ≤ dz a * dz b) : dz V ≤ dz (FP.dmul a b) := by
  obtain ⟨s, c, q, ha⟩ := fin_val fa
  obtain ⟨t, d, r, hb⟩ := fin_val fb
  have fa' := val64_fits a
  have fb' := val64_fits b
  unfold dz at h ⊢
  show _ ≤ zval b64 (val64 (Core.dmul a b))
  rw [val64_dmul]
  rw [ha] at fa' h ⊢
  rw [hb] at fb' h ⊢
  obtain ⟨h1, h2, h3⟩ := product_units fa' fb'
  rw [h1]
  refine zval_round_ge good_b64 (val64_fits V) (nn_val nV) (e0 := 2 * b64.qmin) (by decide) h2 ?_
  rw [h3, pow_two_qmin, signed_xor']
  exact h
theorem dmul_x {a b v V : UInt64} (e : FP.dmul a b = v) (fa : Fin64 a) (fb : Fin64 b) (fV : Fin64 V) (h : dz a * dz b = dz V * U) : Fin64 v ∧ dz v = dz V := by
  subst e
  have q : dz (FP.dmul a b) = dz V := by
    have h1 := dmul_le fa fb fV.noNaN (Int.le_of_eq h)
    have h2 := dmul_ge fa fb fV.noNaN (Int.le_of_eq h.symm)
    omega
  exact ⟨fin_of (dmul_out fa fb) (by rw [q]; exact fin_lt fV), q⟩
/-! quotients -/
theorem nz_of {b : UInt64} (h : dz b ≠ 0) : Nz64 b := nz64_core.mpr fun ⟨s, q, e⟩ => h (by
  show zval b64 (val64 b) = 0
  rw [e, zval_fin]; unfold inUnits; rw [Nat.zero_mul]; exact signed_zero s)
theorem quo_mag {s t : Bool} {c d : Nat} {q r : Int} (hx : Core.fits b64 (.fin s c q)) (hy : Core.fits b64 (.fin t d r)) :
    inUnits c (q - r) (2 * b64.qmin - r) = zmag b64 (.fin s c q) * one64 ∧ 2 ^ (b64.qmin - (2 * b64.qmin - r)).toNat * d = zmag b64 (.fin t d r) := by
  have h1 := hx.2.1
  have h2 := hy.2.1
  have hq : b64.qmin = -1074 := qmin_b64
  constructor
  · rw [← pow_qmin64]
    show c * _ = c * _ * _
    rw [Nat.mul_assoc, ← Nat.pow_add]; congr 2; omega
  · show _ = d * _
    rw [Nat.mul_comm]; congr 2; omega
theorem ddiv_val {a b : UInt64} {s t : Bool} {c d : Nat} {q r : Int} (ha : val64 a = .fin s c q) (hb : val64 b = .fin t d r) (hd : d ≠ 0) : val64 (FP.ddiv a b) = roundRatio b64 (s != t) c d (q - r) := by
  show val64 (Core.ddiv a b) = _
  rw [val64_ddiv, ha, hb]; simp only [quotient, if_neg hd]
theorem ddiv_zm {a b : UInt64} (fa : Fin64 a) (fb : Fin64 b) (hb : dz b ≠ 0) :
    sgn (val64 (FP.ddiv a b)) = (sgn (val64 a) != sgn (val64 b)) ∧
    (∀ V : UInt64, NoNaN64 V → zmag b64 (val64 a) * one64 ≤ zmag b64 (val64 V) * zmag b64 (val64 b) → zmag b64 (val64 (FP.ddiv a b)) ≤ zmag b64 (val64 V)) ∧
    (∀ V : UInt64, zmag b64 (val64 V) * zmag b64 (val64 b) ≤ zmag b64 (val64 a) * one64 → zmag b64 (val64 V) ≤ zmag b64 (val64 (FP.ddiv a b))) := by
  obtain ⟨s, c, q, ha⟩ := fin_val fa
  obtain ⟨t, d, r, hb'⟩ := fin_val fb
  have fa' := val64_fits a
  have fb' := val64_fits b
  rw [ha] at fa'
  rw [hb'] at fb'
  have hd : d ≠ 0 := by
    rintro rfl
    apply hb
    show zval b64 (val64 b) = 0
    rw [hb', zval_fin]; unfold inUnits; rw [Nat.zero_mul]; exact signed_zero t
  have hv := ddiv_val ha hb' hd
  obtain ⟨e1, e2⟩ := quo_mag fa' fb'
  have hq1 := fa'.2.1
  have hq2 := fb'.2.1
  have hqm : b64.qmin = -1074 := qmin_b64
  refine ⟨?_, fun V nV h => ?_, fun V h => ?_⟩
  · rw [hv, sgn_roundRatio, ha, hb']; rfl
  · rw [hv]
    refine zmag_roundRatio_le good_b64 (by omega) (val64_fits V) (nn_val nV) (e0 := 2 * b64.qmin - r) (by omega) (by omega) ?_
    rw [e1, Nat.mul_assoc, e2]
    rw [ha, hb'] at h
    exact h
  · rw [hv]
    refine zmag_roundRatio_ge good_b64 (by omega) (val64_fits V) (e0 := 2 * b64.qmin - r) (by omega) (by omega) ?_
    rw [e1, Nat.mul_assoc, e2]
    rw [ha, hb'] at h
    exact h
theorem dz_def (x : UInt64) : dz x = signed (sgn (val64 x)) (zmag b64 (val64 x)) := rfl
theorem ddiv_le {a b V : UInt64} (fa : Fin64 a) (fb : Fin64 b) (hb : 0 < dz b) (nV : NoNaN64 V) (h : dz a * U ≤ dz V * dz b) : dz (FP.ddiv a b) ≤ dz V := by
  obtain ⟨h1, h2, h3⟩ := ddiv_zm fa fb (by omega)
  have h2 := h2 V nV
  have h3 := h3 V
  have hU : U = (one64 : Int) := rfl
  rw [dz_def (FP.ddiv a b), h1]
  rw [hU] at h
  rw [dz_def V] at h ⊢
  rw [dz_def a] at h
  rw [dz_def b] at h hb
  have p1 := one64_pos
  generalize zmag b64 (val64 (FP.ddiv a b)) = R at *
  generalize zmag b64 (val64 V) = v at *
  generalize zmag b64 (val64 a) = x at *
  generalize zmag b64 (val64 b) = y at *
  generalize sgn (val64 a) = sa at *
  generalize sgn (val64 b) = sb at *
  generalize sgn (val64 V) = sv at *
  cases sb with
  | true => simp only [signed, if_true] at hb; omega
  | false =>
    simp only [signed, Bool.false_eq_true, if_false] at hb h ⊢
    have key : signed sv v * (y : Int) = signed sv (v * y) := (signed_mul sv v y).symm
    have key2 : signed sa x * (one64 : Int) = signed sa (x * one64) := (signed_mul sa x one64).symm
    have yp : 0 < y := by omega
    change signed sa x * (one64 : Int) ≤ signed sv v * (y : Int) at h
    change signed (sa != false) R ≤ signed sv v
    rw [key, key2] at h
    have z1 : x * one64 = 0 → x = 0 := fun e => (Nat.mul_eq_zero.mp e).resolve_right (by omega)
    have z2 : v * y = 0 → v = 0 := fun e => (Nat.mul_eq_zero.mp e).resolve_right (by omega)
    have z3 : v = 0 → v * y = 0 := fun e => by rw [e, Nat.zero_mul]
    have z4 : x = 0 → x * one64 = 0 := fun e => by rw [e, Nat.zero_mul]
    generalize v * y = vy at *
    generalize x * one64 = xo at *
    cases sa <;> cases sv <;> simp only [signed, Bool.bne_false, Bool.false_eq_true, if_true, if_false] at h ⊢
    · have := h2 (by omega); omega
    · have := h2 (by omega); omega
    · omega
    · have := h3 (by omega); omega
theorem ddiv_ge {a b V : UInt64} (fa : Fin64 a) (fb : Fin64 b) (hb : 0 < dz b) (nV : NoNaN64 V) (h : dz V * dz b ≤ dz a * U) : dz V ≤ dz (FP.ddiv a b) := by
  obtain ⟨h1, h2, h3⟩ := ddiv_zm fa fb (by omega)
  have h2 := h2 V nV
  have h3 := h3 V
  have hU : U = (one64 : Int) := rfl
  rw [dz_def (FP.ddiv a b), h1]
  rw [hU] at h
  rw [dz_def V] at h ⊢
  rw [dz_def a] at h
  rw [dz_def b] at h hb
  have p1 := one64_pos
  generalize zmag b64 (val64 (FP.ddiv a b)) = R at *
  generalize zmag b64 (val64 V) = v at *
  generalize zmag b64 (val64 a) = x at *
  generalize zmag b64 (val64 b) = y at *
  generalize sgn (val64 a) = sa at *
  generalize sgn (val64 b) = sb at *
  generalize sgn (val64 V) = sv at *
  cases sb with
  | true => simp only [signed, if_true] at hb; omega
  | false =>
    simp only [signed, Bool.false_eq_true, if_false] at hb h ⊢
    have key : signed sv v * (y : Int) = signed sv (v * y) := (signed_mul sv v y).symm
    have key2 : signed sa x * (one64 : Int) = signed sa (x * one64) := (signed_mul sa x one64).symm
    have yp : 0 < y := by omega
    change signed sv v * (y : Int) ≤ signed sa x * (one64 : Int) at h
    change signed sv v ≤ signed (sa != false) R
    rw [key, key2] at h
    have z1 : x * one64 = 0 → x = 0 := fun e => (Nat.mul_eq_zero.mp e).resolve_right (by omega)
    have z2 : v * y = 0 → v = 0 := fun e => (Nat.mul_eq_zero.mp e).resolve_right (by omega)
    have z3 : v = 0 → v * y = 0 := fun e => by rw [e, Nat.zero_mul]
    have z4 : x = 0 → x * one64 = 0 := fun e => by rw [e, Nat.zero_mul]
    generalize v * y = vy at *
    generalize x * one64 = xo at *
    cases sa <;> cases sv <;> simp only [signed, Bool.bne_false, Bool.false_eq_true, if_true, if_false] at h ⊢
    · have := h3 (by omega); omega
    · omega
    · have := h2 (by omega); omega
    · have := h2 (by omega); omega
theorem ddiv_nn {a b : UInt64} (fa : Fin64 a) (fb : Fin64 b) (hb : dz b ≠ 0) : NoNaN64 (FP.ddiv a b) := ddiv_out fa.noNaN fb (nz_of hb)
theorem ddiv_x {a b v V : UInt64} (e : FP.ddiv a b = v) (fa : Fin64 a) (fb : Fin64 b) (hb : 0 < dz b) (fV : Fin64 V) (h : dz a * U = dz V * dz b) : Fin64 v ∧ dz v = dz V := by
  subst e
  have q : dz (FP.ddiv a b) = dz V := by
    have h1 := ddiv_le fa fb hb fV.noNaN (Int.le_of_eq h)
    have h2 := ddiv_ge fa fb hb fV.noNaN (Int.le_of_eq h.symm)
    omega
  exact ⟨fin_of (ddiv_nn fa fb (by omega)) (by rw [q]; exact fin_lt fV), q⟩
/-! the sign turned -/
theorem xor_top (a : UInt64) : a.toNat = (FP.dneg a).toNat + 2 ^ 63 ∨ (FP.dneg a).toNat = a.toNat + 2 ^ 63 := by
  have hlt := a.toNat_lt
  have e : (FP.dneg a).toNat = a.toNat ^^^ 2 ^ 63 := by rw [dneg_xor, UInt64.toNat_xor]; rfl
  have hd : (FP.dneg a).toNat % 2 ^ 63 = a.toNat % 2 ^ 63 := by
    rw [e]
    apply Nat.eq_of_testBit_eq; intro i
    simp only [Nat.testBit_mod_two_pow, Nat.testBit_xor, Nat.testBit_two_pow]
    by_cases q : i < 63
    · have : ¬ (63 = i) := by omega
      simp [q, this]
    · simp [q]
  have hb : (FP.dneg a).toNat.testBit 63 = !(a.toNat.testBit 63) := by
    rw [e, Nat.testBit_xor, Nat.testBit_two_pow_self]; simp
  have hl2 : (FP.dneg a).toNat < 2 ^ 64 := (FP.dneg a).toNat_lt
  generalize (FP.dneg a).toNat = y at *
  generalize a.toNat = x at *
  simp only [Nat.testBit, Nat.shiftRight_eq_div_pow, Nat.and_comm 1, Nat.and_one_is_mod, bne_iff_ne] at hb
  by_cases q : x < 2 ^ 63
  · right
    have h1 : x / 2 ^ 63 = 0 := Nat.div_eq_of_lt q
    have h2 : y / 2 ^ 63 ≠ 0 := by
      intro z; rw [h1, z] at hb; simp at hb
    have h3 : ¬ y < 2 ^ 63 := fun z => h2 (Nat.div_eq_of_lt z)
    omega
  · left
    have h1 : x / 2 ^ 63 = 1 := by omega
    have h3 : y < 2 ^ 63 := by
      refine Nat.lt_of_not_le fun z => ?_
      have : y / 2 ^ 63 = 1 := by omega
      rw [h1, this] at hb; simp at hb
    omega
theorem dneg_val (a : UInt64) : val64 (FP.dneg a) = negate (val64 a) := val64_neg_bits (xor_top a)
theorem dz_neg (a : UInt64) : dz (FP.dneg a) = -dz a := by unfold dz; rw [dneg_val, zval_negate]
theorem nn_neg {a : UInt64} (h : NoNaN64 a) : NoNaN64 (FP.dneg a) := val64_no.mpr (by rw [dneg_val]; exact negate_ne_nan (val64_no.mp h))
theorem fin_neg {a : UInt64} (h : Fin64 a) : Fin64 (FP.dneg a) := fin_of (nn_neg h.noNaN) (by rw [dz_neg, Int.natAbs_neg]; exact fin_lt h)
end Jvm.Own
namespace Jvm.Own
open Jvm.FP Jvm.FP.Core Jvm.Free.Fl
theorem p2_pos (j : Nat) : (0 : Int) < 2 ^ j := Int.pow_pos (by decide)
/-! against k / 2^j: what is at most (at least) that rounds to at most (at least) that -/
theorem quo_le {a b v : UInt64} {p q : Int} (e : FP.ddiv a b = v) (fa : Fin64 a) (fb : Fin64 b) (ha : dz a = p * U) (hb : dz b = q * U) (hq : 0 < q) (k : Int) (j : Nat) (hk : k.natAbs < 2 ^ 53) (hj : j ≤ 1074) (h : p * 2 ^ j ≤ k * q) : dz v * 2 ^ j ≤ k * U := by
  obtain ⟨V, fV, hV⟩ := repU k j hk hj
  have hU := U_pos
  have hp := p2_pos j
  have hbp : 0 < dz b := by rw [hb]; exact Int.mul_pos hq hU
  have key : dz a * U ≤ dz V * dz b := by
    refine Int.le_of_mul_le_mul_right ?_ hp
    rw [ha, hb, show p * U * U * 2 ^ j = p * 2 ^ j * (U * U) by generalize U = u; ac_rfl, show dz V * (q * U) * 2 ^ j = dz V * 2 ^ j * (q * U) by generalize U = u; ac_rfl, hV, show k * U * (q * U) = k * q * (U * U) by generalize U = u; ac_rfl]
    exact Int.mul_le_mul_of_nonneg_right h (Int.le_of_lt (Int.mul_pos hU hU))
  rw [← hV, ← e]
  exact Int.mul_le_mul_of_nonneg_right (ddiv_le fa fb hbp fV.noNaN key) (Int.le_of_lt hp)
theorem quo_ge {a b v : UInt64} {p q : Int} (e : FP.ddiv a b = v) (fa : Fin64 a) (fb : Fin64 b) (ha : dz a = p * U) (hb : dz b = q * U) (hq : 0 < q) (k : Int) (j : Nat) (hk : k.natAbs < 2 ^ 53) (hj : j ≤ 1074) (h : k * q ≤ p * 2 ^ j) : k * U ≤ dz v * 2 ^ j := by
  obtain ⟨V, fV, hV⟩ := repU k j hk hj
  have hU := U_pos
  have hp := p2_pos j
  have hbp : 0 < dz b := by rw [hb]; exact Int.mul_pos hq hU
  have key : dz V * dz b ≤ dz a * U := by
    refine Int.le_of_mul_le_mul_right ?_ hp
    rw [ha, hb, show p * U * U * 2 ^ j = p * 2 ^ j * (U * U) by generalize U = u; ac_rfl, show dz V * (q * U) * 2 ^ j = dz V * 2 ^ j * (q * U) by generalize U = u; ac_rfl, hV, show k * U * (q * U) = k * q * (U * U) by generalize U = u; ac_rfl]
    exact Int.mul_le_mul_of_nonneg_right h (Int.le_of_lt (Int.mul_pos hU hU))
  rw [← hV, ← e]
  exact Int.mul_le_mul_of_nonneg_right (ddiv_ge fa fb hbp fV.noNaN key) (Int.le_of_lt hp)
theorem Top_U : (2 : Int) ^ 1000 * U < (Top : Int) := by
  rw [U_pow, ← Int.pow_add, Top_pow, show ((2 ^ 2098 : Nat) : Int) = 2 ^ 2098 from Int.natCast_pow 2 2098]
  exact Int.pow_lt_pow_of_lt (by decide) (by decide)
theorem fin_bd {v : UInt64} (n : NoNaN64 v) (h1 : -(2 ^ 1000 * U) ≤ dz v) (h2 : dz v ≤ 2 ^ 1000 * U) : Fin64 v := fin_of n (by have := Top_U; omega)
theorem add_le {a b v : UInt64} (e : FP.dadd a b = v) (fa : Fin64 a) (fb : Fin64 b) (k : Int) (j : Nat) (hk : k.natAbs < 2 ^ 53) (hj : j ≤ 1074) (h : (dz a + dz b) * 2 ^ j ≤ k * U) : dz v * 2 ^ j ≤ k * U := by
  obtain ⟨V, fV, hV⟩ := repU k j hk hj
  have hp := p2_pos j
  rw [← hV] at h ⊢
  rw [← e]
  exact Int.mul_le_mul_of_nonneg_right (dadd_le fa fb fV.noNaN (Int.le_of_mul_le_mul_right h hp)) (Int.le_of_lt hp)
theorem add_ge {a b v : UInt64} (e : FP.dadd a b = v) (fa : Fin64 a) (fb : Fin64 b) (k : Int) (j : Nat) (hk : k.natAbs < 2 ^ 53) (hj : j ≤ 1074) (h : k * U ≤ (dz a + dz b) * 2 ^ j) : k * U ≤ dz v * 2 ^ j := by
  obtain ⟨V, fV, hV⟩ := repU k j hk hj
  have hp := p2_pos j
  rw [← hV] at h ⊢
  rw [← e]
  exact Int.mul_le_mul_of_nonneg_right (dadd_ge fa fb fV.noNaN (Int.le_of_mul_le_mul_right h hp)) (Int.le_of_lt hp)
theorem sub_le {a b v : UInt64} (e : FP.dsub a b = v) (fa : Fin64 a) (fb : Fin64 b) (k : Int) (j : Nat) (hk : k.natAbs < 2 ^ 53) (hj : j ≤ 1074) (h : (dz a - dz b) * 2 ^ j ≤ k * U) : dz v * 2 ^ j ≤ k * U := by
  obtain ⟨V, fV, hV⟩ := repU k j hk hj
  have hp := p2_pos j
  rw [← hV] at h ⊢
  rw [← e]
  exact Int.mul_le_mul_of_nonneg_right (dsub_le fa fb fV.noNaN (Int.le_of_mul_le_mul_right h hp)) (Int.le_of_lt hp)
theorem sub_ge {a b v : UInt64} (e : FP.dsub a b = v) (fa : Fin64 a) (fb : Fin64 b) (k : Int) (j : Nat) (hk : k.natAbs < 2 ^ 53) (hj : j ≤ 1074) (h : k * U ≤ (dz a - dz b) * 2 ^ j) : k * U ≤ dz v * 2 ^ j := by
  obtain ⟨V, fV, hV⟩ := repU k j hk hj
  have hp := p2_pos j
  rw [← hV] at h ⊢
  rw [← e]
  exact Int.mul_le_mul_of_nonneg_right (dsub_ge fa fb fV.noNaN (Int.le_of_mul_le_mul_right h hp)) (Int.le_of_lt hp)
/-- a sum, a difference of dyadics that is one of at most 53 digits is exact -/
theorem add_x {a b v : UInt64} (e : FP.dadd a b = v) (fa : Fin64 a) (fb : Fin64 b) (k : Int) (j : Nat) (hk : k.natAbs < 2 ^ 53) (hj : j ≤ 1074) (h : (dz a + dz b) * 2 ^ j = k * U) : Fin64 v ∧ dz v = dz a + dz b := by
  obtain ⟨V, fV, hV⟩ := repU k j hk hj
  exact dadd_x e fa fb fV (Int.eq_of_mul_eq_mul_right (by have := p2_pos j; omega) (h.trans hV.symm))
theorem sub_x {a b v : UInt64} (e : FP.dsub a b = v) (fa : Fin64 a) (fb : Fin64 b) (k : Int) (j : Nat) (hk : k.natAbs < 2 ^ 53) (hj : j ≤ 1074) (h : (dz a - dz b) * 2 ^ j = k * U) : Fin64 v ∧ dz v = dz a - dz b := by
  obtain ⟨V, fV, hV⟩ := repU k j hk hj
  exact dsub_x e fa fb fV (Int.eq_of_mul_eq_mul_right (by have := p2_pos j; omega) (h.trans hV.symm))
theorem quo_x {a b v : UInt64} {p q : Int} (e : FP.ddiv a b = v) (fa : Fin64 a) (fb : Fin64 b) (ha : dz a = p * U) (hb : dz b = q * U) (hq : 0 < q) (k : Int) (j : Nat) (hk : k.natAbs < 2 ^ 53) (hj : j ≤ 1074) (h : p * 2 ^ j = k * q) : Fin64 v ∧ dz v * 2 ^ j = k * U := by
  obtain ⟨V, fV, hV⟩ := repU k j hk hj
  have h1 := quo_le e fa fb ha hb hq k j hk hj (Int.le_of_eq h)
  have h2 := quo_ge e fa fb ha hb hq k j hk hj (Int.le_of_eq h.symm)
  have h3 : dz v * 2 ^ j = k * U := by omega
  have h4 : dz v = dz V := Int.eq_of_mul_eq_mul_right (by have := p2_pos j; omega) (h3.trans hV.symm)
  refine ⟨fin_of ?_ (by rw [h4]; exact fin_lt fV), h3⟩
  rw [← e]
  exact ddiv_nn fa fb (by rw [hb]; have := Int.mul_pos hq U_pos; omega)
theorem quo_nn {a b v : UInt64} {q : Int} (e : FP.ddiv a b = v) (fa : Fin64 a) (fb : Fin64 b) (hb : dz b = q * U) (hq : 0 < q) : NoNaN64 v := by
  rw [← e]; exact ddiv_nn fa fb (by rw [hb]; have := Int.mul_pos hq U_pos; omega)
end Jvm.Own
namespace Jvm.Own
open Jvm.FP Jvm.FP.Core Jvm.Free.Fl
theorem fin_2 : Fin64 4611686018427387904 := by unfold Fin64; decide
theorem nz_2 : Nz64 4611686018427387904 := by unfold Nz64; decide
theorem dz_2 : dz 4611686018427387904 = 2 * U := by
  have e : FP.dadd 4607182418800017408 4607182418800017408 = 4611686018427387904 := by decide +kernel
  have h := (add_x e fin_1 fin_1 2 0 (by decide) (by decide) (by rw [dz_1, Int.pow_zero]; omega)).2
  rw [h, dz_1]; omega
end Jvm.Own
namespace Jvm.Own
theorem ite_I {P : Prop} [Decidable P] {a b v : Int32} (e : (if P then a else b) = v) : (P → v.toInt = a.toInt) ∧ (¬ P → v.toInt = b.toInt) := by
  subst e; exact ⟨fun q => by rw [if_pos q], fun q => by rw [if_neg q]⟩
end Jvm.Own
namespace Jvm.Own
open Jvm.FP Jvm.FP.Core Jvm.Free.Fl
theorem add0 {a v : UInt64} (e : FP.dadd a 0 = v) (fa : Fin64 a) : Fin64 v ∧ dz v = dz a := by
  obtain ⟨h1, h2⟩ := dadd_x e fa fin_0 fa (by rw [dz_0]; omega)
  exact ⟨h1, by rw [h2, dz_0]; omega⟩
end Jvm.Own
namespace Jvm.Own
open Jvm.FP Jvm.FP.Core Jvm.Free.Fl
/-! a divisor below nought -/
theorem ddiv_leN {a b V : UInt64} (fa : Fin64 a) (fb : Fin64 b) (hb : dz b < 0) (nV : NoNaN64 V) (h : dz V * dz b ≤ dz a * U) : dz (FP.ddiv a b) ≤ dz V := by
  obtain ⟨h1, h2, h3⟩ := ddiv_zm fa fb (by omega)
  have h2 := h2 V nV
  have h3 := h3 V
  have hU : U = (one64 : Int) := rfl
  rw [dz_def (FP.ddiv a b), h1]
  rw [hU] at h
  rw [dz_def V] at h ⊢
  rw [dz_def a] at h
  rw [dz_def b] at h hb
  have p1 := one64_pos
  generalize zmag b64 (val64 (FP.ddiv a b)) = R at *
  generalize zmag b64 (val64 V) = v at *
  generalize zmag b64 (val64 a) = x at *
  generalize zmag b64 (val64 b) = y at *
  generalize sgn (val64 a) = sa at *
  generalize sgn (val64 b) = sb at *
  generalize sgn (val64 V) = sv at *
  cases sb with
  | false => simp only [signed, Bool.false_eq_true, if_false] at hb; omega
  | true =>
    simp only [signed, if_true] at hb
    change signed sv v * (-(y : Int)) ≤ signed sa x * (one64 : Int) at h
    change signed (sa != true) R ≤ signed sv v
    have key : signed sv v * (y : Int) = signed sv (v * y) := (signed_mul sv v y).symm
    have key2 : signed sa x * (one64 : Int) = signed sa (x * one64) := (signed_mul sa x one64).symm
    have yp : 0 < y := by omega
    rw [Int.mul_neg, key, key2] at h
    have z2 : v * y = 0 → v = 0 := fun e => (Nat.mul_eq_zero.mp e).resolve_right (by omega)
    have z3 : v = 0 → v * y = 0 := fun e => by rw [e, Nat.zero_mul]
    have z4 : x = 0 → x * one64 = 0 := fun e => by rw [e, Nat.zero_mul]
    generalize v * y = vy at *
    generalize x * one64 = xo at *
    cases sa <;> cases sv <;> simp only [signed, Bool.bne_true, Bool.not_false, Bool.not_true, Bool.false_eq_true, if_true, if_false] at h ⊢
    · omega
    · have := h3 (by omega); omega
    · have := h2 (by omega); omega
    · have := h2 (by omega); omega
theorem ddiv_geN {a b V : UInt64} (fa : Fin64 a) (fb : Fin64 b) (hb : dz b < 0) (nV : NoNaN64 V) (h : dz a * U ≤ dz V * dz b) : dz V ≤ dz (FP.ddiv a b) := by
  obtain ⟨h1, h2, h3⟩ := ddiv_zm fa fb (by omega)
  have h2 := h2 V nV
  have h3 := h3 V
  have hU : U = (one64 : Int) := rfl
  rw [dz_def (FP.ddiv a b), h1]
  rw [hU] at h
  rw [dz_def V] at h ⊢
  rw [dz_def a] at h
  rw [dz_def b] at h hb
  have p1 := one64_pos
  generalize zmag b64 (val64 (FP.ddiv a b)) = R at *
  generalize zmag b64 (val64 V) = v at *
  generalize zmag b64 (val64 a) = x at *
  generalize zmag b64 (val64 b) = y at *
  generalize sgn (val64 a) = sa at *
  generalize sgn (val64 b) = sb at *
  generalize sgn (val64 V) = sv at *
  cases sb with
  | false => simp only [signed, Bool.false_eq_true, if_false] at hb; omega
  | true =>
    simp only [signed, if_true] at hb
    change signed sa x * (one64 : Int) ≤ signed sv v * (-(y : Int)) at h
    change signed sv v ≤ signed (sa != true) R
    have key : signed sv v * (y : Int) = signed sv (v * y) := (signed_mul sv v y).symm
    have key2 : signed sa x * (one64 : Int) = signed sa (x * one64) := (signed_mul sa x one64).symm
    have yp : 0 < y := by omega
    rw [Int.mul_neg, key, key2] at h
    have z2 : v * y = 0 → v = 0 := fun e => (Nat.mul_eq_zero.mp e).resolve_right (by omega)
    have z3 : v = 0 → v * y = 0 := fun e => by rw [e, Nat.zero_mul]
    have z4 : x = 0 → x * one64 = 0 := fun e => by rw [e, Nat.zero_mul]
    generalize v * y = vy at *
    generalize x * one64 = xo at *
    cases sa <;> cases sv <;> simp only [signed, Bool.bne_true, Bool.not_false, Bool.not_true, Bool.false_eq_true, if_true, if_false] at h ⊢
    · have := h2 (by omega); omega
    · have := h2 (by omega); omega
    · have := h3 (by omega); omega
    · omega
/-- a whole number's multiple, divided by it -/
theorem ddiv_mul {a b v : UInt64} {m q : Int} (e : FP.ddiv a b = v) (fa : Fin64 a) (fb : Fin64 b) (ha : dz a = m * q * U) (hb : dz b = q * U) (hq : q ≠ 0) (hm : m.natAbs < 2 ^ 53) : NoNaN64 v ∧ dz v = m * U := by
  obtain ⟨V, fV, hV⟩ := repU m 0 hm (by decide)
  rw [Int.pow_zero, Int.mul_one] at hV
  have hU := U_pos
  have k1 : dz a * U = dz V * dz b := by rw [ha, hb, hV]; generalize U = u; ac_rfl
  have hbz : dz b ≠ 0 := by rw [hb]; intro z; rcases Int.mul_eq_zero.mp z with z | z <;> omega
  subst e
  refine ⟨ddiv_nn fa fb hbz, ?_⟩
  rw [← hV]
  rcases Int.lt_or_gt_of_ne hbz with z | z
  · exact Int.le_antisymm (ddiv_leN fa fb z fV.noNaN (Int.le_of_eq k1.symm)) (ddiv_geN fa fb z fV.noNaN (Int.le_of_eq k1))
  · exact Int.le_antisymm (ddiv_le fa fb z fV.noNaN (Int.le_of_eq k1)) (ddiv_ge fa fb z fV.noNaN (Int.le_of_eq k1.symm))
end Jvm.Own
namespace Jvm.Own
open Jvm.FP Jvm.FP.Core Jvm.Free.Fl
theorem abs_max {u : UInt64} (h : Fin64 u) : dz (u &&& 0x7fffffffffffffff) ≤ dz 9218868437227405311 :=
  (dcmp_le.mp ((le_max (noNaN64_no.mp h.noNaN)).mpr (fin64_core.mp h))).2.2
end Jvm.Own
namespace Jvm.Own
open Jvm.FP Jvm.FP.Core Jvm.Free.Fl
/-- finite, and of a magnitude of at most A -/
def Bd (x : UInt64) (A : Int) : Prop := Fin64 x ∧ -(A * U) ≤ dz x ∧ dz x ≤ A * U
theorem Bd.fin {x : UInt64} {A : Int} (h : Bd x A) : Fin64 x := h.1
theorem big_U {A : Int} (h : A.natAbs < 2 ^ 53) : A * U ≤ 2 ^ 1000 * U ∧ -(2 ^ 1000 * U) ≤ A * U := by
  have z : (2 : Int) ^ 53 ≤ 2 ^ 1000 := by
    have h1 := Nat.pow_le_pow_right (n := 2) (by decide) (show 53 ≤ 1000 by decide)
    have e1 : ((2 ^ 53 : Nat) : Int) = 2 ^ 53 := Int.natCast_pow 2 53
    have e2 : ((2 ^ 1000 : Nat) : Int) = 2 ^ 1000 := Int.natCast_pow 2 1000
    rw [← e1, ← e2]; exact Int.ofNat_le.mpr h1
  have e : (2 : Int) ^ 53 = 9007199254740992 := by decide
  have hU := U_pos
  have a1 : A * U ≤ 2 ^ 1000 * U := Int.mul_le_mul_of_nonneg_right (by omega) (Int.le_of_lt hU)
  have a2 : (-(2 ^ 1000)) * U ≤ A * U := Int.mul_le_mul_of_nonneg_right (by omega) (Int.le_of_lt hU)
  rw [Int.neg_mul] at a2
  exact ⟨a1, a2⟩
theorem Bd.int {x : UInt64} {i A : Int} (f : Fin64 x) (z : dz x = i * U) (h1 : -A ≤ i) (h2 : i ≤ A) : Bd x A := by
  have hU := U_pos
  have a1 : i * U ≤ A * U := Int.mul_le_mul_of_nonneg_right h2 (Int.le_of_lt hU)
  have a2 : (-A) * U ≤ i * U := Int.mul_le_mul_of_nonneg_right h1 (Int.le_of_lt hU)
  rw [Int.neg_mul] at a2
  exact ⟨f, by omega, by omega⟩
theorem Bd.add {a b v : UInt64} {A B : Int} (e : FP.dadd a b = v) (ha : Bd a A) (hb : Bd b B) (h : (A + B).natAbs < 2 ^ 53) : Bd v (A + B) := by
  obtain ⟨fa, a1, a2⟩ := ha
  obtain ⟨fb, b1, b2⟩ := hb
  have h1 := add_le e fa fb (A + B) 0 h (by decide) (by rw [Int.pow_zero, Int.mul_one, Int.add_mul]; omega)
  have h2 := add_ge e fa fb (-(A + B)) 0 (by omega) (by decide) (by rw [Int.pow_zero, Int.mul_one, Int.neg_mul, Int.add_mul]; omega)
  rw [Int.pow_zero, Int.mul_one] at h1 h2
  rw [Int.neg_mul] at h2
  have := big_U h
  exact ⟨fin_bd (e ▸ dadd_out fa.noNaN fb) (by omega) (by omega), h2, h1⟩
theorem Bd.sub {a b v : UInt64} {A B : Int} (e : FP.dsub a b = v) (ha : Bd a A) (hb : Bd b B) (h : (A + B).natAbs < 2 ^ 53) : Bd v (A + B) := by
  obtain ⟨fa, a1, a2⟩ := ha
  obtain ⟨fb, b1, b2⟩ := hb
  have h1 := sub_le e fa fb (A + B) 0 h (by decide) (by rw [Int.pow_zero, Int.mul_one, Int.add_mul]; omega)
  have h2 := sub_ge e fa fb (-(A + B)) 0 (by omega) (by decide) (by rw [Int.pow_zero, Int.mul_one, Int.neg_mul, Int.add_mul]; omega)
  rw [Int.pow_zero, Int.mul_one] at h1 h2
  rw [Int.neg_mul] at h2
  have := big_U h
  exact ⟨fin_bd (e ▸ dsub_out fa.noNaN fb) (by omega) (by omega), h2, h1⟩
theorem Bd.mono {x : UInt64} {A B : Int} (h : Bd x A) (q : A ≤ B) : Bd x B := by
  have a1 : A * U ≤ B * U := Int.mul_le_mul_of_nonneg_right q (Int.le_of_lt U_pos)
  exact ⟨h.1, by have := h.2.1; omega, by have := h.2.2; omega⟩
theorem Bd.i2d {x : Int32} {v : UInt64} (e : FP.i2d x = v) : Bd v 2147483648 := by
  obtain ⟨f, z⟩ := i2d_v e
  have h1 := Int32.le_toInt x
  have h2 := Int32.toInt_lt x
  exact Bd.int f z (by omega) (by omega)
end Jvm.Own
namespace Jvm.Own
open Jvm.FP Jvm.FP.Core Jvm.Free.Fl
theorem mul_le' {a b v : UInt64} (e : FP.dmul a b = v) (fa : Fin64 a) (fb : Fin64 b) (k : Int) (hk : k.natAbs < 2 ^ 53) (h : dz a * dz b ≤ k * U * U) : dz v ≤ k * U := by
  obtain ⟨V, fV, hV⟩ := repU k 0 hk (by decide)
  rw [Int.pow_zero, Int.mul_one] at hV
  rw [← hV, ← e]
  exact dmul_le fa fb fV.noNaN (by rw [hV]; exact h)
theorem mul_ge' {a b v : UInt64} (e : FP.dmul a b = v) (fa : Fin64 a) (fb : Fin64 b) (k : Int) (hk : k.natAbs < 2 ^ 53) (h : k * U * U ≤ dz a * dz b) : k * U ≤ dz v := by
  obtain ⟨V, fV, hV⟩ := repU k 0 hk (by decide)
  rw [Int.pow_zero, Int.mul_one] at hV
  rw [← hV, ← e]
  exact dmul_ge fa fb fV.noNaN (by rw [hV]; exact h)
theorem abs_mul_le {x y A B : Int} (h1 : -A ≤ x) (h2 : x ≤ A) (h3 : -B ≤ y) (h4 : y ≤ B) : -(A * B) ≤ x * y ∧ x * y ≤ A * B := by
  have e : (x * y).natAbs = x.natAbs * y.natAbs := Int.natAbs_mul x y
  have e2 : x.natAbs * y.natAbs ≤ A.natAbs * B.natAbs := Nat.mul_le_mul (by omega) (by omega)
  have e3 : (A * B).natAbs = A.natAbs * B.natAbs := Int.natAbs_mul A B
  have e4 : 0 ≤ A * B := Int.mul_nonneg (by omega) (by omega)
  omega
theorem Bd.mul {a b v : UInt64} {A B : Int} (e : FP.dmul a b = v) (ha : Bd a A) (hb : Bd b B) (h : (A * B).natAbs < 2 ^ 53) : Bd v (A * B) := by
  obtain ⟨fa, a1, a2⟩ := ha
  obtain ⟨fb, b1, b2⟩ := hb
  obtain ⟨q1, q2⟩ := abs_mul_le a1 a2 b1 b2
  have r1 : A * U * (B * U) = A * B * U * U := by generalize U = u; ac_rfl
  rw [r1] at q1 q2
  have h1 := mul_le' e fa fb (A * B) h q2
  have h2 := mul_ge' e fa fb (-(A * B)) (by omega) (by rw [Int.neg_mul, Int.neg_mul]; exact q1)
  rw [Int.neg_mul] at h2
  have := big_U h
  exact ⟨fin_bd (e ▸ dmul_out fa fb) (by omega) (by omega), h2, h1⟩
end Jvm.Own

namespace Jvm.Pilot.@@N@@
open Jvm Jvm.ClassFile Sem Op Lib Jvm.Free Jvm.Stand Jvm.LawKit Jvm.RoadKit Bundle Jvm.Free.Fl Jvm.Pilot.@@N@@.Jvm.D
theorem pn_com_example_vague_query_vaguequery_model_Quantifier : plainName "com/example/vague_query/vaguequery/model/Quantifier" = true := by first | (simp [plainName, overriddenIn]; done) | decide +kernel
abbrev mn_0 : MethodName := (⟨"com/example/vague_query/vaguequery/model/Quantifier", "reaches", "(DD)Z"⟩ : MethodName)
theorem pd_1 : parseMethodDescriptor "(DD)Z" = some ⟨[.double, .double], some .boolean⟩ := by decide +kernel
theorem pn_com_example_vague_query_vaguequery_model_QuantifierReachesPinLaw : plainName "com/example/vague_query/vaguequery/model/QuantifierReachesPinLaw" = true := by first | (simp [plainName, overriddenIn]; done) | decide +kernel
theorem d1_0 : decode prog_69_method_3_code 0 = .ok (.dload_n 0, 1) := by decide +kernel
theorem d1_1 : decode prog_69_method_3_code 1 = .ok (.dload_n 2, 1) := by decide +kernel
theorem d1_2 : decode prog_69_method_3_code 2 = .ok (.ldc2_w 3, 3) := by decide +kernel
theorem nnc_4472406533629990549 : NoNaN64 4472406533629990549 := by unfold NoNaN64; decide
theorem d1_5 : decode prog_69_method_3_code 5 = .ok (.dsub, 1) := by decide +kernel
theorem d1_6 : decode prog_69_method_3_code 6 = .ok (.dcmp .l, 1) := by decide +kernel
theorem d1_7 : decode prog_69_method_3_code 7 = .ok (.ifCond .lt 7, 3) := by decide +kernel
theorem d1_14 : decode prog_69_method_3_code 14 = .ok (.iconst 0, 1) := by decide +kernel
theorem d1_10 : decode prog_69_method_3_code 10 = .ok (.iconst 1, 1) := by decide +kernel
theorem d1_11 : decode prog_69_method_3_code 11 = .ok (.goto 4, 3) := by decide +kernel
theorem d1_15 : decode prog_69_method_3_code 15 = .ok (.ireturn, 1) := by decide +kernel

theorem own_c : Fin64 4472406533629990549 := by unfold Fin64; decide
theorem own_c_dz : Own.dz 4472406533629990549 * 2 ^ 82 = 4835703278458517 * Own.U := by
  rw [Own.U_pow]; decide +kernel
theorem own_rem (x : Int64) : 0 ≤ ((x &&& 9223372036854775807) - (x &&& 9223372036854775807) / 5000000000 * 5000000000).toInt ∧ ((x &&& 9223372036854775807) - (x &&& 9223372036854775807) / 5000000000 * 5000000000).toInt < 5000000000 := by
  have h1 := c_maskL x 9223372036854775807 63 (by decide) (by decide)
  have h2 := c_lrem (x &&& 9223372036854775807) 5000000000 5000000000 (by decide)
  have h3 : 0 ≤ (x &&& 9223372036854775807).toInt := by rw [h1]; exact Int.emod_nonneg _ (by decide)
  have h4 := h2.1 h3
  rw [h4]
  omega
theorem own_dbl (x : Int64) (h1 : -4000000000000000000 < x.toInt) (h2 : x.toInt < 4000000000000000000) : ((2 : Int64) * x).toInt = 2 * x.toInt := by
  have h3 := c_lmul 2 x
  have h4 := rng64 (2 * x)
  have h5 : (2 : Int64).toInt = 2 := by decide
  rw [h5] at h3
  omega
theorem own_t (i0 tN : Int64) (e : (2 : Int64) * ((i0 &&& (9223372036854775807 : Int64)) - (i0 &&& (9223372036854775807 : Int64)) / (5000000000 : Int64) * (5000000000 : Int64)) = tN) : 0 ≤ tN.toInt ∧ tN.toInt < 10000000000 ∧ tN.toInt % 2 = 0 := by
  have h := own_rem i0
  have h2 := own_dbl ((i0 &&& (9223372036854775807 : Int64)) - (i0 &&& (9223372036854775807 : Int64)) / (5000000000 : Int64) * (5000000000 : Int64)) (by omega) (by omega)
  rw [e] at h2
  omega
theorem own_s (i1 : Int64) (i2 : Int32) (tN sN : Int64) (P : Prop) [Decidable P] (e : sN = if P then (2 : Int64) * ((i1 &&& (9223372036854775807 : Int64)) - (i1 &&& (9223372036854775807 : Int64)) / (5000000000 : Int64) * (5000000000 : Int64)) + (1 : Int64) else tN + (2 : Int64) * ((i2 &&& (63 : Int32)) - (32 : Int32)).toInt64 + (1 : Int64)) (hT : 0 ≤ tN.toInt ∧ tN.toInt < 10000000000 ∧ tN.toInt % 2 = 0) :
    -64 ≤ sN.toInt ∧ sN.toInt ≤ 10000000064 ∧ sN.toInt % 2 = 1 := by
  have h1 : (1 : Int64).toInt = 1 := by decide
  by_cases hP : P
  · rw [if_pos hP] at e
    have h := own_rem i1
    have h2 := own_dbl ((i1 &&& (9223372036854775807 : Int64)) - (i1 &&& (9223372036854775807 : Int64)) / (5000000000 : Int64) * (5000000000 : Int64)) (by omega) (by omega)
    have h3 := c_ladd ((2 : Int64) * ((i1 &&& (9223372036854775807 : Int64)) - (i1 &&& (9223372036854775807 : Int64)) / (5000000000 : Int64) * (5000000000 : Int64))) 1
    have h4 := rng64 sN
    rw [← e] at h3
    omega
  · rw [if_neg hP] at e
    have g1 := c_mask i2 63 6 (by decide) (by decide)
    have g2 := c_isub (i2 &&& 63) 32
    have g3 := rng32 ((i2 &&& 63) - 32)
    have g4 : (32 : Int32).toInt = 32 := by decide
    have g5 : ((i2 &&& (63 : Int32)) - (32 : Int32)).toInt64.toInt = ((i2 &&& (63 : Int32)) - (32 : Int32)).toInt := Int32.toInt_toInt64 _
    have h2 := own_dbl ((i2 &&& (63 : Int32)) - (32 : Int32)).toInt64 (by omega) (by omega)
    have h3 := c_ladd tN ((2 : Int64) * ((i2 &&& (63 : Int32)) - (32 : Int32)).toInt64)
    have h5 := rng64 (tN + (2 : Int64) * ((i2 &&& (63 : Int32)) - (32 : Int32)).toInt64)
    have h6 := c_ladd (tN + (2 : Int64) * ((i2 &&& (63 : Int32)) - (32 : Int32)).toInt64) 1
    have h4 := rng64 sN
    rw [← e] at h6
    omega
theorem own_d (sN tN dif : Int64) (e : sN - tN + (10 : Int64) = dif) (hS : -64 ≤ sN.toInt ∧ sN.toInt ≤ 10000000064 ∧ sN.toInt % 2 = 1) (hT : 0 ≤ tN.toInt ∧ tN.toInt < 10000000000 ∧ tN.toInt % 2 = 0) : dif.toInt = sN.toInt - tN.toInt + 10 := by
  have h1 := c_lsub sN tN
  have h2 := rng64 (sN - tN)
  have h3 := c_ladd (sN - tN) 10
  have h4 := rng64 dif
  have h5 : (10 : Int64).toInt = 10 := by decide
  rw [e] at h3
  omega
theorem own_c3 (c u : Int) (hu : 0 < u) (hc : c * 1125899906842624 * 4294967296 = 4835703278458517 * u) : 1125899 * u ≤ c * 1125899906842624 ∧ c * 1125899906842624 ≤ 1125900 * u := by
  generalize c * 1125899906842624 = C at *
  exact ⟨Int.le_of_mul_le_mul_right (by rw [hc]; clear hc; omega) (show (0 : Int) < 4294967296 by decide), Int.le_of_mul_le_mul_right (by rw [hc]; clear hc; omega) (show (0 : Int) < 4294967296 by decide)⟩
theorem own_c2 : 1125899 * Own.U ≤ Own.dz 4472406533629990549 * 1125899906842624 ∧ Own.dz 4472406533629990549 * 1125899906842624 ≤ 1125900 * Own.U := by
  refine own_c3 _ _ Own.U_pos ?_
  have hc := own_c_dz
  rw [show (2 : Int) ^ 82 = 1125899906842624 * 4294967296 by decide, ← Int.mul_assoc] at hc
  exact hc
theorem own_sub {th r cc : UInt64} {m : Int} (fc : Fin64 cc) (c1 : 1125899 * Own.U ≤ Own.dz cc * 1125899906842624) (c2 : Own.dz cc * 1125899906842624 ≤ 1125900 * Own.U) (hm : 0 ≤ m ∧ m ≤ 1125899906842624) (ft : Fin64 th) (t1 : m * Own.U ≤ Own.dz th * 1125899906842624) (t2 : Own.dz th * 1125899906842624 ≤ m * Own.U + 1 * Own.U) (hr : FP.dsub th cc = r) : Own.dz r * 1125899906842624 ≤ m * Own.U - 1125898 * Own.U ∧ m * Own.U - 1125900 * Own.U ≤ Own.dz r * 1125899906842624 := by
  have p50 : (2 : Int) ^ 50 = 1125899906842624 := by decide
  have r1 := Own.sub_le hr ft fc (m - 1125898) 50 (by omega) (by decide) (by rw [p50, Int.sub_mul m, Int.sub_mul]; omega)
  have r2 := Own.sub_ge hr ft fc (m - 1125900) 50 (by omega) (by decide) (by rw [p50, Int.sub_mul m, Int.sub_mul]; omega)
  rw [p50, Int.sub_mul] at r1 r2
  exact ⟨r1, r2⟩
theorem own_law (s t d : Int) (hS : -64 ≤ s ∧ s ≤ 10000000064 ∧ s % 2 = 1) (hT : 0 ≤ t ∧ t < 10000000000 ∧ t % 2 = 0) (hD : d = s - t + 10) {a b sh a' b' th : UInt64} (fa : Fin64 a) (fb : Fin64 b) (za : Own.dz a = s * Own.U) (zb : Own.dz b = 10000000000 * Own.U) (e : FP.ddiv a b = sh)
    (fa' : Fin64 a') (fb' : Fin64 b') (za' : Own.dz a' = t * Own.U) (zb' : Own.dz b' = 10000000000 * Own.U) (e' : FP.ddiv a' b' = th) : (¬ (Own.dz sh < Own.dz (FP.dsub th 4472406533629990549))) ↔ (¬ (d ≤ 0)) := by
  have hU := Own.U_pos
  have p50 : (2 : Int) ^ 50 = 1125899906842624 := by decide
  have ks := Int.mul_ediv_add_emod (s * 1125899906842624) 10000000000
  have ks1 := Int.emod_nonneg (s * 1125899906842624) (by decide : (10000000000 : Int) ≠ 0)
  have ks2 := Int.emod_lt_of_pos (s * 1125899906842624) (by decide : (0 : Int) < 10000000000)
  have kt := Int.mul_ediv_add_emod (t * 1125899906842624) 10000000000
  have kt1 := Int.emod_nonneg (t * 1125899906842624) (by decide : (10000000000 : Int) ≠ 0)
  have kt2 := Int.emod_lt_of_pos (t * 1125899906842624) (by decide : (0 : Int) < 10000000000)
  generalize s * 1125899906842624 / 10000000000 = k at *
  generalize s * 1125899906842624 % 10000000000 = kr at *
  generalize t * 1125899906842624 / 10000000000 = m at *
  generalize t * 1125899906842624 % 10000000000 = mr at *
  have s1 := Own.quo_ge e fa fb za zb (by decide) k 50 (by omega) (by decide) (by rw [p50]; omega)
  have s2 := Own.quo_le e fa fb za zb (by decide) (k + 1) 50 (by omega) (by decide) (by rw [p50]; omega)
  have t1 := Own.quo_ge e' fa' fb' za' zb' (by decide) m 50 (by omega) (by decide) (by rw [p50]; omega)
  have t2 := Own.quo_le e' fa' fb' za' zb' (by decide) (m + 1) 50 (by omega) (by decide) (by rw [p50]; omega)
  rw [p50] at s1 s2 t1 t2
  have nt : NoNaN64 th := Own.quo_nn e' fa' fb' zb' (by decide)
  have z1000 : (2 : Int) ^ 1000 = 2 ^ 999 * 2 := Int.pow_succ 2 999
  have z999 : (0 : Int) < 2 ^ 999 := Own.p2_pos 999
  have big : Own.U * 2 ≤ 2 ^ 1000 * Own.U := by
    rw [z1000, Int.mul_comm Own.U 2]
    refine Int.mul_le_mul_of_nonneg_right ?_ (Int.le_of_lt hU)
    omega
  have kk1 : m * Own.U ≤ 1125899906842624 * Own.U := Own.U_le.mpr (by omega)
  have kk0 : 0 * Own.U ≤ m * Own.U := Own.U_le.mpr (by omega)
  rw [Int.add_mul] at s2 t2
  have ft : Fin64 th := Own.fin_bd nt (by omega) (by omega)
  generalize hr : FP.dsub th 4472406533629990549 = r
  obtain ⟨r1, r2⟩ := own_sub own_c own_c2.1 own_c2.2 (by omega) ft t1 t2 hr
  by_cases hN : d ≤ 0
  · have g : (k + 1) * Own.U < (m - 1125900) * Own.U := Own.U_lt.mpr (by omega)
    rw [Int.add_mul, Int.sub_mul] at g
    omega
  · have g : (m - 1125898) * Own.U ≤ k * Own.U := Own.U_le.mpr (by omega)
    rw [Int.sub_mul] at g
    omega

theorem ef_1 (m : MethodId) (x0 : UInt64) (x1 : UInt64) : entryFrame m #[.double x0, .double x1] 4 = mkF m 0 #[.val (.double x0), .second, .val (.double x1), .second] [] := by first | (simp [entryFrame, mkF, argsToLocals, Value.category, maxLocals]; done) | rfl
set_option maxRecDepth 65536 in
set_option maxHeartbeats 40000000 in
theorem rm1 (l : Launch) (Z : State) (a0 : Array Value) (hw : ∀ d ∈ tables_1, d.before a0 Z = true) (u : UInt64) (w : UInt64)   (h0 : Heap) (n0 : Nat) (Z0 : n0 ≤ h0.size)  (n_u : NoNaN64 u) (n_r : NoNaN64 (FP.dsub w 4472406533629990549)) :
    Own.Con l Z mn_0 [] prog_69_method_3_code 4 (some .boolean) ({ frames := 0, cells := 0, slots := 0, locals := 0 } : Room) #[.double u, .double w] h0 n0 (fun v h => v = some (.int (Own.bo (¬ (Own.dz u < Own.dz (FP.dsub w 4472406533629990549))))) ∧ h0 = h) := by
  refine Own.enter (own := "com/example/vague_query/vaguequery/model/Quantifier") (nm := "reaches") (plainFor_of_name pn_com_example_vague_query_vaguequery_model_Quantifier) rfl rfl (fun m => ef_1 m u w) fun p e s m below meth c T X => ?_
  refine Own.dloadN X d1_0 rfl ?_
  refine Own.dloadN X d1_1 rfl ?_
  refine Own.ldc2D X d1_2 (Own.wd hw 9 rfl) ?_
  obtain ⟨d5, e_d5⟩ : ∃ v, FP.dsub w 4472406533629990549 = v := ⟨_, rfl⟩
  have n_d5 : NoNaN64 d5 := e_d5 ▸ n_r
  refine Own.dsub X d1_5 e_d5 n_d5 ?_
  suffices J6_1 : ∀ (z15_1 : Int32), z15_1 = Own.bo (¬ (Own.dz u < Own.dz d5)) → Own.Go p e below s n0 (fun v h => v = some (.int (Own.bo (¬ (Own.dz u < Own.dz (FP.dsub w 4472406533629990549))))) ∧ h0 = h) 0 0 (T.setTop (mkF m 15 #[.val (.double u), .second, .val (.double w), .second] [.int z15_1])) by
    refine Own.dcmpF X (pc' := 14) d1_6 d1_7 (by decide) n_u n_d5 (fun (h6 : Own.dz u < Own.dz d5) => ?_) (fun (h6 : ¬ (Own.dz u < Own.dz d5)) => ?_)
    · refine Own.iconst X (v := 0) d1_14 rfl ?_
      exact J6_1 _ (Own.bo_f (fun q => q h6))
    · refine Own.iconst X (v := 1) d1_10 rfl ?_
      refine Own.goto_ X (pc' := 15) d1_11 (by decide) ?_
      exact J6_1 _ (Own.bo_t (h6))
  intro z15_1 e_z15_1
  subst e_z15_1
  exact Own.retB X d1_15 (Own.bo_and _) (by subst e_d5; exact ⟨rfl, rfl⟩) (by decide) (by decide)
theorem ef_0 (m : MethodId) (x0 : Int64) (x1 : Int64) (x2 : Int32) (x3 : Int32) : entryFrame m #[.long x0, .long x1, .int x2, .int x3] maxLocals = mkF m 0 #[.val (.long x0), .second, .val (.long x1), .second, .val (.int x2), .val (.int x3), .unset, .unset, .unset, .unset, .unset, .unset, .unset, .unset, .unset, .unset, .unset] [] := by first | (simp [entryFrame, mkF, argsToLocals, Value.category, maxLocals]; done) | rfl
set_option maxRecDepth 65536 in
set_option maxHeartbeats 40000000 in
theorem rm0 (l : Launch) (Z : State) (a0 : Array Value) (hw : ∀ d ∈ tables_1, d.before a0 Z = true) (i0 i1 : Int64) (i2 i3 : Int32) (h0 : Heap) (n0 : Nat) (Z0 : n0 ≤ h0.size)  :
    Own.Con l Z x tables_1 code maxLocals ret room_1 #[.long i0, .long i1, .int i2, .int i3] h0 n0 (fun v _ => v = some (.int 1)) := by
  refine Own.enter (own := "com/example/vague_query/vaguequery/model/QuantifierReachesPinLaw") (nm := "law") (plainFor_of_name pn_com_example_vague_query_vaguequery_model_QuantifierReachesPinLaw) rfl rfl (fun m => ef_0 m i0 i1 i2 i3) fun p e s m below meth c T X => ?_
  refine Own.ldc2J X at_0 (Own.wd hw 0 rfl) ?_
  refine Own.lstore X at_3 (l' := #[.val (.long i0), .second, .val (.long i1), .second, .val (.int i2), .val (.int i3), .val (.long (10000000000 : Int64)), .second, .unset, .unset, .unset, .unset, .unset, .unset, .unset, .unset, .unset]) rfl ?_
  refine Own.ldc2J X at_5 (Own.wd hw 1 rfl) ?_
  refine Own.lloadN X at_8 rfl ?_
  refine Own.ldc2J X at_9 (Own.wd hw 2 rfl) ?_
  refine Own.land X at_12 ?_
  refine Own.ldc2J X at_13 (Own.wd hw 3 rfl) ?_
  refine Own.lrem X at_16 (by decide) ?_
  refine Own.lmul X at_17 ?_
  obtain ⟨tN, e_tN⟩ : ∃ v, ((2 : Int64) * ((i0 &&& (9223372036854775807 : Int64)) - (i0 &&& (9223372036854775807 : Int64)) / (5000000000 : Int64) * (5000000000 : Int64))) = v := ⟨_, rfl⟩
  rw [e_tN]
  have hT := own_t i0 tN e_tN
  refine Own.lstore X at_18 (l' := #[.val (.long i0), .second, .val (.long i1), .second, .val (.int i2), .val (.int i3), .val (.long (10000000000 : Int64)), .second, .val (.long tN), .second, .unset, .unset, .unset, .unset, .unset, .unset, .unset]) rfl ?_
  refine Own.iload X at_20 rfl ?_
  refine Own.iconst X (v := 1) at_22 rfl ?_
  refine Own.iand X at_23 ?_
  suffices J24_1 : ∀ (z67_1 : Int64), z67_1 = (if (i3 &&& (1 : Int32)).toInt = (0 : Int) then (((2 : Int64) * ((i1 &&& (9223372036854775807 : Int64)) - (i1 &&& (9223372036854775807 : Int64)) / (5000000000 : Int64) * (5000000000 : Int64))) + (1 : Int64)) else ((tN + ((2 : Int64) * (((i2 &&& (63 : Int32)) - (32 : Int32)).toInt64))) + (1 : Int64))) → Own.Go p e below s n0 (fun v _ => v = some (.int 1)) 0 0 (T.setTop (mkF m 67 #[.val (.long i0), .second, .val (.long i1), .second, .val (.int i2), .val (.int i3), .val (.long (10000000000 : Int64)), .second, .val (.long tN), .second, .val (.long z67_1), .second, .unset, .unset, .unset, .unset, .unset] [])) by
    refine Own.iff_ X (pc' := 50) at_24 (by decide) (fun (h24 : (i3 &&& (1 : Int32)).toInt = (0 : Int)) => ?_) (fun (h24 : ¬ ((i3 &&& (1 : Int32)).toInt = (0 : Int))) => ?_)
    · refine Own.ldc2J X at_50 (Own.wd hw 1 rfl) ?_
      refine Own.lloadN X at_53 rfl ?_
      refine Own.ldc2J X at_54 (Own.wd hw 2 rfl) ?_
      refine Own.land X at_57 ?_
      refine Own.ldc2J X at_58 (Own.wd hw 3 rfl) ?_
      refine Own.lrem X at_61 (by decide) ?_
      refine Own.lmul X at_62 ?_
      refine Own.lconst X (v := 1) at_63 rfl ?_
      refine Own.ladd X at_64 ?_
      refine Own.lstore X at_65 (l' := #[.val (.long i0), .second, .val (.long i1), .second, .val (.int i2), .val (.int i3), .val (.long (10000000000 : Int64)), .second, .val (.long tN), .second, .val (.long (((2 : Int64) * ((i1 &&& (9223372036854775807 : Int64)) - (i1 &&& (9223372036854775807 : Int64)) / (5000000000 : Int64) * (5000000000 : Int64))) + (1 : Int64))), .second, .unset, .unset, .unset, .unset, .unset]) rfl ?_
      exact J24_1 _ (if_pos h24).symm
    · refine Own.lload X at_27 rfl ?_
      refine Own.ldc2J X at_29 (Own.wd hw 1 rfl) ?_
      refine Own.iload X at_32 rfl ?_
      refine Own.bipush X (v := 63) at_34 rfl ?_
      refine Own.iand X at_36 ?_
      refine Own.bipush X (v := 32) at_37 rfl ?_
      refine Own.isub X at_39 ?_
      refine Own.i2l X at_40 ?_
      refine Own.lmul X at_41 ?_
      refine Own.ladd X at_42 ?_
      refine Own.lconst X (v := 1) at_43 rfl ?_
      refine Own.ladd X at_44 ?_
      refine Own.lstore X at_45 (l' := #[.val (.long i0), .second, .val (.long i1), .second, .val (.int i2), .val (.int i3), .val (.long (10000000000 : Int64)), .second, .val (.long tN), .second, .val (.long ((tN + ((2 : Int64) * (((i2 &&& (63 : Int32)) - (32 : Int32)).toInt64))) + (1 : Int64))), .second, .unset, .unset, .unset, .unset, .unset]) rfl ?_
      refine Own.goto_ X (pc' := 67) at_47 (by decide) ?_
      exact J24_1 _ (if_neg h24).symm
  intro sN e_sN
  have hS := own_s i1 i2 tN sN _ e_sN hT
  refine Own.lload X at_67 rfl ?_
  obtain ⟨d69, e_d69⟩ : ∃ v, FP.l2d sN = v := ⟨_, rfl⟩
  obtain ⟨f_d69, z_d69⟩ := Own.l2d_v e_d69 (by omega)
  refine Own.l2d X at_69 e_d69 ?_
  refine Own.lload X at_70 rfl ?_
  obtain ⟨d72, e_d72⟩ : ∃ v, FP.l2d (10000000000 : Int64) = v := ⟨_, rfl⟩
  obtain ⟨f_d72, y_d72⟩ := Own.l2d_v e_d72 (by decide)
  have z_d72 : Own.dz d72 = 10000000000 * Own.U := by rw [y_d72]; rfl
  refine Own.l2d X at_72 e_d72 ?_
  obtain ⟨d73, e_d73⟩ : ∃ v, FP.ddiv d69 d72 = v := ⟨_, rfl⟩
  have n_d73 := Own.quo_nn e_d73 f_d69 f_d72 z_d72 (by decide)
  refine Own.ddiv X at_73 e_d73 n_d73 ?_
  refine Own.dstore X at_74 (l' := #[.val (.long i0), .second, .val (.long i1), .second, .val (.int i2), .val (.int i3), .val (.long (10000000000 : Int64)), .second, .val (.long tN), .second, .val (.long sN), .second, .val (.double d73), .second, .unset, .unset, .unset]) rfl ?_
  refine Own.lload X at_76 rfl ?_
  obtain ⟨d78, e_d78⟩ : ∃ v, FP.l2d tN = v := ⟨_, rfl⟩
  obtain ⟨f_d78, z_d78⟩ := Own.l2d_v e_d78 (by omega)
  refine Own.l2d X at_78 e_d78 ?_
  refine Own.lload X at_79 rfl ?_
  obtain ⟨d81, e_d81⟩ : ∃ v, FP.l2d (10000000000 : Int64) = v := ⟨_, rfl⟩
  obtain ⟨f_d81, y_d81⟩ := Own.l2d_v e_d81 (by decide)
  have z_d81 : Own.dz d81 = 10000000000 * Own.U := by rw [y_d81]; rfl
  refine Own.l2d X at_81 e_d81 ?_
  obtain ⟨d82, e_d82⟩ : ∃ v, FP.ddiv d78 d81 = v := ⟨_, rfl⟩
  have n_d82 := Own.quo_nn e_d82 f_d78 f_d81 z_d81 (by decide)
  refine Own.ddiv X at_82 e_d82 n_d82 ?_
  refine Own.dstore X at_83 (l' := #[.val (.long i0), .second, .val (.long i1), .second, .val (.int i2), .val (.int i3), .val (.long (10000000000 : Int64)), .second, .val (.long tN), .second, .val (.long sN), .second, .val (.double d73), .second, .val (.double d82), .second, .unset]) rfl ?_
  refine Own.lload X at_85 rfl ?_
  refine Own.lload X at_87 rfl ?_
  refine Own.lsub X at_89 ?_
  refine Own.ldc2J X at_90 (Own.wd hw 4 rfl) ?_
  refine Own.ladd X at_93 ?_
  obtain ⟨dif, e_dif⟩ : ∃ v, ((sN - tN) + (10 : Int64)) = v := ⟨_, rfl⟩
  rw [e_dif]
  have hD := own_d sN tN dif e_dif hS hT
  refine Own.lconst X (v := 0) at_94 rfl ?_
  suffices J95_2 : ∀ (z104_2 : Int32), z104_2 = Own.bo (¬ (dif.toInt ≤ (0 : Int))) → Own.Go p e below s n0 (fun v _ => v = some (.int 1)) 0 0 (T.setTop (mkF m 104 #[.val (.long i0), .second, .val (.long i1), .second, .val (.int i2), .val (.int i3), .val (.long (10000000000 : Int64)), .second, .val (.long tN), .second, .val (.long sN), .second, .val (.double d73), .second, .val (.double d82), .second, .unset] [.int z104_2])) by
    refine Own.lcmpF X (pc' := 103) at_95 at_96 (by decide) (fun (h95 : dif.toInt ≤ (0 : Int)) => ?_) (fun (h95 : ¬ (dif.toInt ≤ (0 : Int))) => ?_)
    · refine Own.iconst X (v := 0) at_103 rfl ?_
      exact J95_2 _ (Own.bo_f (fun q => q h95))
    · refine Own.iconst X (v := 1) at_99 rfl ?_
      refine Own.goto_ X (pc' := 104) at_100 (by decide) ?_
      exact J95_2 _ (Own.bo_t (h95))
  intro z104_2 e_z104_2
  subst e_z104_2
  refine Own.istore X at_104 (l' := #[.val (.long i0), .second, .val (.long i1), .second, .val (.int i2), .val (.int i3), .val (.long (10000000000 : Int64)), .second, .val (.long tN), .second, .val (.long sN), .second, .val (.double d73), .second, .val (.double d82), .second, .val (.int (Own.bo (¬ (dif.toInt ≤ (0 : Int)))))]) rfl ?_
  refine Own.dload X at_106 rfl ?_
  refine Own.dload X at_108 rfl ?_
  refine Own.callS_ (y := mn_0) X at_110 (Own.wd hw 5 rfl) (Own.wd hw 6 rfl) (Own.wd hw 7 rfl) (Own.wd hw 8 rfl) (by decide) (rm1 l Z a0 hw d73 d82 h0 n0 Z0  n_d73 (dsub_out n_d82 own_c)) (lenOf pd_1 rfl) rfl (argsL := [.double d73, .double d82]) (rest := []) rfl (W := 0) (Nat.le_of_eq rfl) (by decide) (by decide) (by decide) (by decide) fun T3 h3 v3 X3 q3 => ?_
  obtain ⟨rfl, rfl⟩ := q3
  show Own.Go p e below s n0 _ _ _ (T3.setTop (mkF m 113 _ [.int (Own.bo (¬ (Own.dz d73 < Own.dz (FP.dsub d82 4472406533629990549))))]))
  refine Own.iload X3 at_113 rfl ?_
  suffices J115_4 : ∀ (z123_4 : Int32), z123_4 = Own.bo ((¬ (Own.dz d73 < Own.dz (FP.dsub d82 4472406533629990549))) ↔ (¬ (dif.toInt ≤ (0 : Int)))) → Own.Go p e below s n0 (fun v _ => v = some (.int 1)) 0 0 (T3.setTop (mkF m 123 #[.val (.long i0), .second, .val (.long i1), .second, .val (.int i2), .val (.int i3), .val (.long (10000000000 : Int64)), .second, .val (.long tN), .second, .val (.long sN), .second, .val (.double d73), .second, .val (.double d82), .second, .val (.int (Own.bo (¬ (dif.toInt ≤ (0 : Int)))))] [.int z123_4])) by
    refine Own.icmpneB (P := ¬ (Own.dz d73 < Own.dz (FP.dsub d82 4472406533629990549))) (P' := ¬ (dif.toInt ≤ (0 : Int))) X3 (pc' := 122) at_115 (by decide) (fun (h115 : ¬ ((¬ (Own.dz d73 < Own.dz (FP.dsub d82 4472406533629990549))) ↔ (¬ (dif.toInt ≤ (0 : Int))))) => ?_) (fun (h115 : (¬ (Own.dz d73 < Own.dz (FP.dsub d82 4472406533629990549))) ↔ (¬ (dif.toInt ≤ (0 : Int)))) => ?_)
    · refine Own.iconst X3 (v := 0) at_122 rfl ?_
      exact J115_4 _ (Own.bo_f (h115))
    · refine Own.iconst X3 (v := 1) at_118 rfl ?_
      refine Own.goto_ X3 (pc' := 123) at_119 (by decide) ?_
      exact J115_4 _ (Own.bo_t (h115))
  intro z123_4 e_z123_4
  subst e_z123_4
  exact Own.retB X3 at_123 (Own.bo_and _) (congrArg (fun z => some (Value.int z)) (Own.bo_t (own_law sN.toInt tN.toInt dif.toInt hS hT hD f_d69 f_d72 z_d69 z_d72 e_d73 f_d78 f_d81 z_d78 z_d81 e_d82)).symm) (by decide) (by decide)
set_option maxRecDepth 65536 in
set_option maxHeartbeats 40000000 in
theorem comes_1 {Post : Tables → Env → Array Value → State → Outcome → State → Prop} (hpost : ∀ tb e args s v u, (limb_1_1.after args s (.returned v) u = true ∧ limb_1_2.after args s (.returned v) u = true ∧ True) → FrameEnd s (.returned v) u (Jvm.fieldLocs frame_1_writes args s ++ Jvm.arrayLocs frame_1_arrays args s ++ Jvm.staticLocs frame_1_statics s) 0 0 → Post tb e args s (.returned v) u) :
    ArmFor flags0 classFile x code maxLocals ret World_1 tables_1 room_1 Calls_1 rest_1 Pre_1 Post := by
  intro l hfl _ _ p e ha hc hk s m args below hf hA hF happ hP
  obtain ⟨hcalls, hrest, hpre⟩ := hP
  obtain ⟨-, -, -, hnamed, -, -, -, hat⟩ := (Spec.applies_iff hf).mp happ
  obtain ⟨hg, hn⟩ := and_e (Cond.before_iff.mp (show (Jvm.Cond.and given_1 narrow_1).before args s = true from hpre))
  obtain ⟨g0, gs1⟩ := and_e hg
  obtain ⟨g1, gs2⟩ := and_e gs1
  obtain ⟨g2, gs3⟩ := and_e gs2
  obtain ⟨g3, gs4⟩ := and_e gs3
  have g4 := gs4
  obtain ⟨w0, w1, w2, w3, rfl⟩ : ∃ w0 w1 w2 w3 : Value, args = #[w0, w1, w2, w3] := by
    have hs : args.size = 4 := by simpa [Cond.value, given_1] using g0
    obtain ⟨L⟩ := args
    match L, hs with
    | [w0, w1, w2, w3], _ => exact ⟨w0, w1, w2, w3, rfl⟩
  have hw := fun d (hd : d ∈ tables_1) => atoms_spec (ws := Jvm.Cond.code x code maxLocals ret :: tables_1) hat d (List.mem_cons_of_mem _ hd)
  obtain ⟨i0, ei0⟩ := isL_v g1
  obtain rfl : w0 = (.long i0) := Option.some.inj ei0
  obtain ⟨i1, ei1⟩ := isL_v g2
  obtain rfl : w1 = (.long i1) := Option.some.inj ei1
  obtain ⟨i2, ei2⟩ := is_v g3
  obtain rfl : w2 = (.int i2) := Option.some.inj ei2
  obtain ⟨i3, ei3⟩ := is_v g4
  obtain rfl : w3 = (.int i3) := Option.some.inj ei3
  obtain ⟨n, o, h1, h2, h3, v, L, rfl, ⟨hQ, N⟩, hq⟩ := rm0 l s _ hw i0 i1 i2 i3 s.heap s.heap.size (Nat.le_refl _)  p e ha hc hk s m _ below hf ((Spec.applies_iff_loose hf).mp happ).1 ⟨rfl, State.Warmed39.refl s, rfl⟩ trivial
  obtain rfl := hQ
  refine ⟨n, _, h1, h2, h3, hpost _ _ _ _ _ _ ⟨Cond.after_iff.mpr rfl, Cond.after_iff.mpr (eq_i res_at (Term.int_eval (1)) rfl), trivial⟩ ⟨hq.1, hq.2.1, (hq.2.2.sift fun y hy => Or.inr (N y hy)).mono (by decide) (by decide)⟩⟩
theorem main_1_1 : Claimed_1_1 := comes_1 fun _ _ _ _ _ _ h hF => ⟨h.1, hF⟩
theorem main_1_2 : Claimed_1_2 := comes_1 fun _ _ _ _ _ _ h hF => ⟨h.2.1, hF⟩

end Jvm.Pilot.@@N@@
namespace Jvm.Pilot.@@N@@
open Jvm Jvm.ClassFile Sem Op Lib Jvm.Free Jvm.Stand Jvm.Pilot.@@N@@.Jvm.D
/-! MADE BY PROGRAM (witnessworld.py) out of the Statement's table words and the real class files: 9 classes; the members and pool entries that the words name. The judged class is class 1, her method 1. -/
namespace start1
open Jvm.ClassFile
def u (s : String) : CpInfo := .utf8 (stringToUtf16 s)
/-- a pool by its gaps: so many unusable entries, then the entry; so many at the end -/
def gap : Nat → List CpInfo → List CpInfo
  | 0, r => r
  | n + 1, r => .unusable :: gap n r
def poolList (es : List (Nat × CpInfo)) (last : Nat) : List CpInfo := es.foldr (fun e r => gap e.1 (e.2 :: r)) (gap last [])
def pool (es : List (Nat × CpInfo)) (last : Nat) : Array CpInfo := ⟨poolList es last⟩
def fileOf (pool : Array CpInfo) (this : Nat) (attrs : Array Attribute := #[]) (ms : Array MethodInfo := #[]) (fl : Nat := 33) (sup : Nat := 0) (ifs : Array Nat := #[]) (fds : Array FieldInfo := #[]) : ClassFile where
  minorVersion := 0
  majorVersion := 65
  constantPool := pool
  accessFlags := fl
  thisClass := this
  superClass := sup
  interfaces := ifs
  fields := fds
  methods := ms
  attributes := attrs
def plain (name : String) (sup : Option ClassId) : Class where
  name := name
  kind := .ordinary
  loader := none
  accessFlags := 33
  super := sup
  interfaces := #[]
  cf := none
  fields := #[]
  methods := #[]
  instanceTypes := #[]
  staticTypes := #[]
  resolved := #[]
  callSites := []
  init := .initialized
  statics := none
  mirror := none

def pool0 : Array CpInfo := pool [(5, u "<init>"), (0, u "()V"), (1, .class_ 10), (1, u "java/lang/Object")] 113

def k0m0 : Method := { name := "<init>", desc := "()V", sig := { parameters := [], returnType := none }, accessFlags := 1, code := none }
/-- java/lang/Object -/
def k0 : Class := { plain "java/lang/Object" none with
  accessFlags := 33
  interfaces := #[]
  cf := some (fileOf pool0 8 #[] #[{ accessFlags := 1, nameIndex := 5, descriptorIndex := 6, attributes := #[] }] 33 0 #[] #[])
  fields := #[]
  methods := #[k0m0]
  instanceTypes := #[]
  staticTypes := #[]
  resolved := Array.replicate 124 none
  statics := none }

def pool1 : Array CpInfo := pool [(2, .class_ 4), (1, u "java/lang/Object"), (0, u "<init>"), (0, u "()V"), (0, .long 10000000000), (1, .long 2), (3, .long 9223372036854775807), (1, .long 5000000000), (1, .long 10), (1, .interfaceMethodref 20 21), (0, .class_ 22), (0, .nameAndType 23 24), (0, u "com/example/vague_query/vaguequery/model/Quantifier"), (0, u "reaches"), (0, u "(DD)Z"), (0, .class_ 26), (0, u "com/example/vague_query/vaguequery/model/QuantifierReachesPinLaw"), (2, u "law"), (0, u "(JJII)Z")] 3

def k1m0 : Method := { name := "<init>", desc := "()V", sig := { parameters := [], returnType := none }, accessFlags := 1, code := none }
def k1c1 : Code := { maxStack := 6, maxLocals := 17, code := code, exceptionTable := #[], attributes := #[] }
def k1m1 : Method := { name := "law", desc := "(JJII)Z", sig := { parameters := [.long, .long, .int, .int], returnType := some .boolean }, accessFlags := 9, code := some k1c1 }
/-- com/example/vague_query/vaguequery/model/QuantifierReachesPinLaw -/
def k1 : Class := { plain "com/example/vague_query/vaguequery/model/QuantifierReachesPinLaw" (some 0) with
  accessFlags := 49
  interfaces := #[]
  cf := some (fileOf pool1 25 #[] #[{ accessFlags := 1, nameIndex := 5, descriptorIndex := 6, attributes := #[] }, { accessFlags := 9, nameIndex := 29, descriptorIndex := 30, attributes := #[] }] 49 2 #[] #[])
  fields := #[]
  methods := #[k1m0, k1m1]
  instanceTypes := #[]
  staticTypes := #[]
  resolved := Array.replicate 34 none
  statics := none }

def pool2 : Array CpInfo := pool [(1, .class_ 2), (0, u "com/example/vague_query/vaguequery/model/Quantifier"), (0, .double 4472406533629990549), (1, .class_ 6), (0, u "java/lang/Object"), (0, u "THRESHOLD_TOLERANCE"), (0, u "D"), (7, u "reaches"), (0, u "(DD)Z")] 5

def k2c0 : Code := { maxStack := 6, maxLocals := 4, code := prog_69_method_3_code, exceptionTable := #[], attributes := #[] }
def k2m0 : Method := { name := "reaches", desc := "(DD)Z", sig := { parameters := [.double, .double], returnType := some .boolean }, accessFlags := 9, code := some k2c0 }
/-- com/example/vague_query/vaguequery/model/Quantifier -/
def k2 : Class := { plain "com/example/vague_query/vaguequery/model/Quantifier" (some 0) with
  accessFlags := 1537
  interfaces := #[]
  cf := some (fileOf pool2 1 #[] #[{ accessFlags := 9, nameIndex := 16, descriptorIndex := 17, attributes := #[] }] 1537 5 #[] #[{ accessFlags := 25, nameIndex := 7, descriptorIndex := 8, attributes := #[] }])
  fields := #[{ name := "THRESHOLD_TOLERANCE", type := .double, accessFlags := 25, slot := 0, constantValue := 0 }]
  methods := #[k2m0]
  instanceTypes := #[]
  staticTypes := #[.double]
  resolved := Array.replicate 23 none
  statics := none }

def pool3 : Array CpInfo := pool [(1, u "java/lang/Cloneable"), (0, .class_ 1), (0, u "java/lang/Object"), (0, .class_ 3)] 3

/-- java/lang/Cloneable -/
def k3 : Class := { plain "java/lang/Cloneable" (some 0) with
  accessFlags := 1537
  interfaces := #[]
  cf := some (fileOf pool3 2 #[] #[] 1537 4 #[] #[])
  fields := #[]
  methods := #[]
  instanceTypes := #[]
  staticTypes := #[]
  resolved := Array.replicate 8 none
  statics := none }

def pool4 : Array CpInfo := pool [(1, u "java/io/Serializable"), (0, .class_ 1), (0, u "java/lang/Object"), (0, .class_ 3)] 3

/-- java/io/Serializable -/
def k4 : Class := { plain "java/io/Serializable" (some 0) with
  accessFlags := 1537
  interfaces := #[]
  cf := some (fileOf pool4 2 #[] #[] 1537 4 #[] #[])
  fields := #[]
  methods := #[]
  instanceTypes := #[]
  staticTypes := #[]
  resolved := Array.replicate 8 none
  statics := none }

/-- the primitive byte -/
def k5 : Class := { plain "byte" none with kind := .primitive 'B', accessFlags := 0x411 }
/-- [B -/
def k6 : Class := { plain "[B" (some 0) with kind := .array 5 .byte, interfaces := #[3, 4], accessFlags := 1041 }

/-- the primitive int -/
def k7 : Class := { plain "int" none with kind := .primitive 'I', accessFlags := 0x411 }
/-- [I -/
def k8 : Class := { plain "[I" (some 0) with kind := .array 7 .int, interfaces := #[3, 4], accessFlags := 1041 }

def heap : Heap := #[]
def classes : Array Class := #[k0, k1, k2, k3, k4, k5, k6, k7, k8]
def interned : List (Array UInt16 × Addr) := []
def slotsUsed : Nat := 0
def theMethod : MethodId := ⟨1, 1⟩
def args0 : Array Value := #[.long 5, .long 7, .int 0, .int 3]
def aboutOver (below : List Frame) : State where
  vm := { classes := classes, interned := interned.toArray }
  heap := heap
  slotsUsed := slotsUsed
  threads := #[{ frames := .invoking theMethod args0 :: below }]
def below0 : List Frame := [.native { method := ⟨0, 0⟩, args := #[] }]
def about1 : State := aboutOver below0
def p0 : Program := .bare "" "" ""
def e0 : Env := launch0.env 0 0 0
theorem w_frames : about1.frames = Frame.invoking theMethod args0 :: below0 := rfl
set_option maxRecDepth 65536 in
theorem w_args : argsFit about1.vm theMethod args0 = true := by decide +kernel
set_option maxRecDepth 65536 in
theorem w_heap : heapFits about1 = true := by decide +kernel
set_option maxRecDepth 65536 in
theorem w_runnable : about1.curStatus? = some .runnable := by decide +kernel
set_option maxRecDepth 65536 in
theorem w_alone : about1.alone = true := by decide +kernel
set_option maxRecDepth 65536 in
theorem w_named : about1.methodNamed? x = some theMethod := by decide +kernel
set_option maxRecDepth 65536 in
theorem w_hears : about1.hears theMethod below0 = true := by decide +kernel
set_option maxRecDepth 65536 in
theorem w_ripe : about1.ripe theMethod args0 below0 = true := by decide +kernel
theorem w_running : about1.status = .running := rfl
set_option maxRecDepth 65536 in
theorem w_room : about1.hasRoom e0.platform room_1 = true :=
  launch0.hasRoom_least _ room_1 (by decide +kernel) (by decide +kernel) (by decide +kernel) (by decide +kernel) (by decide +kernel) (by decide +kernel)
theorem allAtoms_all (ts : List Jvm.Cond) (a : Array Jvm.Value) (st : Jvm.State) : (allAtoms ts).before a st = ts.all (fun c => c.before a st) := by
  induction ts with
  | nil => rfl
  | cons c t ih =>
    show (Jvm.Cond.and c (allAtoms t)).before a st = _
    rw [Jvm.Cond.before_and, ih, List.all_cons]
def words1 : List Jvm.Cond := Jvm.Cond.code x code maxLocals ret :: tables_1
/-- a 'code' word, met by the world's own term for the bytes: nothing is compared byte by byte -/
theorem code_word {y : MethodName} {bytes : ByteArray} {mx : Nat} {rt : Option FieldType} {a : Array Value} {s : State} {m : MethodId} {meth : Method} {c : Code} (h1 : s.methodNamed? y = some m) (h2 : s.vm.method? m = some meth) (h3 : meth.code = some c) (h4 : c.code = bytes)
    (h5 : (c.maxLocals == mx && c.exceptionTable.isEmpty && decide (c.maxStack ≤ mostOperands) && decide (meth.sig.returnType = rt) && !meth.locks && decide (parseMethodDescriptor y.desc = some meth.sig)) = true) : (Jvm.Cond.code y bytes mx rt).before a s = true := by
  simp only [Bool.and_eq_true, beq_iff_eq, Bool.not_eq_true', decide_eq_true_eq] at h5
  obtain ⟨⟨⟨⟨⟨g1, g2⟩, g3⟩, g4⟩, g5⟩, g6⟩ := h5
  simp [Cond.before, Cond.holds, Cond.value, h1, h2, h3, h4, g1, g2, g3, g4, g5, g6]
def isCode : Jvm.Cond → Bool
  | .code _ _ _ _ => true
  | _ => false
theorem all_split {L : List Jvm.Cond} {P : Jvm.Cond → Bool} (h1 : L.all (fun c => isCode c || P c) = true) (h2 : ∀ c ∈ L.filter isCode, P c = true) : L.all P = true := by
  refine List.all_eq_true.mpr fun c hc => ?_
  have h := List.all_eq_true.mp h1 c hc
  rcases Bool.eq_false_or_eq_true (isCode c) with hi | hi
  · exact h2 c (List.mem_filter.mpr ⟨hc, hi⟩)
  · simpa [hi] using h
set_option maxRecDepth 65536 in
theorem w_c0 : (Jvm.Cond.code x code maxLocals ret).before args0 about1 = true := code_word (m := ⟨1, 1⟩) (meth := k1m1) (c := k1c1) (by decide +kernel) rfl rfl rfl (by decide +kernel)
set_option maxRecDepth 65536 in
theorem w_c1 : (Jvm.Cond.code ({ cls := "com/example/vague_query/vaguequery/model/Quantifier", name := "reaches", desc := "(DD)Z" } : Jvm.MethodName) prog_69_method_3_code (4 : Nat) (Option.some Jvm.ClassFile.FieldType.boolean)).before args0 about1 = true := code_word (m := ⟨2, 0⟩) (meth := k2m0) (c := k2c0) (by decide +kernel) rfl rfl rfl (by decide +kernel)
def codes1 : List Jvm.Cond := [Jvm.Cond.code x code maxLocals ret, Jvm.Cond.code ({ cls := "com/example/vague_query/vaguequery/model/Quantifier", name := "reaches", desc := "(DD)Z" } : Jvm.MethodName) prog_69_method_3_code (4 : Nat) (Option.some Jvm.ClassFile.FieldType.boolean)]
set_option maxRecDepth 65536 in
theorem codes_eq : words1.filter isCode = codes1 := rfl
theorem w_codes : ∀ c ∈ words1.filter isCode, c.before args0 about1 = true := by
  rw [codes_eq]
  intro c hc
  simp only [codes1, List.mem_cons, List.not_mem_nil, or_false] at hc
  rcases hc with rfl | rfl
  · exact w_c0
  · exact w_c1
set_option maxRecDepth 65536 in
theorem w_t1 : words1.all (fun c => isCode c || c.before args0 about1) = true := by decide +kernel
theorem w_tables : (allAtoms (Jvm.Cond.code x code maxLocals ret :: tables_1)).before args0 about1 = true := by
  rw [allAtoms_all]
  show words1.all (fun c => c.before args0 about1) = true
  refine all_split ?_ w_codes
  rw [w_t1]
set_option maxRecDepth 65536 in
theorem w_case : (Jvm.Cond.and given_1 narrow_1).before args0 about1 = true := by decide +kernel
theorem w_applies : (headSpec (Jvm.Cond.code x code maxLocals ret :: tables_1) room_1).applies x e0.platform about1 = true :=
  (Spec.applies_iff w_frames).mpr ⟨w_running, w_runnable, w_alone, w_named, w_hears, w_ripe, w_room, w_tables⟩
theorem atStart : AtStart classFile x code maxLocals ret World_1 tables_1 room_1 Calls_1 rest_1 Pre_1 launch0 p0 e0 about1 theMethod args0 below0 :=
  ⟨lists_1, trivial, launch0.admits_env _ _ _, launch0.least_env, fairChoices_fair.cas, fairChoices_fair.clock, w_frames, w_args, w_heap, w_applies, trivial, trivial, w_case⟩
end start1
theorem witness_1 : WitnessClaimed_1 := ⟨start1.p0, start1.e0, start1.about1, start1.theMethod, start1.args0, start1.below0, start1.atStart⟩
end Jvm.Pilot.@@N@@
