import JvmDerived
import JvmDerived.Pilot.@@N@@Statement
import JvmDerived.Pilot.@@N@@Code
set_option linter.unusedVariables false
set_option linter.unusedSimpArgs false
namespace Jvm.Own
open Sem ClassFile Op Lib Jvm.Stand Jvm.Free Jvm.LawKit Jvm.RoadKit Jvm.Free.Fl
/-- where a walk stands -/
def St (p : Program) (l : Launch) (e : Env) (R : Room) (s : State) (m : MethodId) (args : Array Value) (below : List Frame) (meth : Method) (c : Code) (Z : State) (B : ByteArray) (own nm : String) (ml : Nat) (ret : Option FieldType) (n0 : Nat) (T : State) (h : Heap) (k n : Nat) : Prop :=
  (p.tables.exec = Jvm.exec ∧ c.code = B ∧ Z.Warmed39 s.vm ∧ s.vm.findClass own = some m.cls ∧ c.maxLocals = ml ∧ meth.sig.returnType = ret ∧ meth.locks = false ∧ meth.name = nm) ∧ ∃ locs, Stand p l e R s m args below meth c T locs k n ∧ T.heap = h ∧ Fr n0 locs
/-- what is left to show of a walk: it ends, and what it leaves is Q -/
def Go (p : Program) (e : Env) (below : List Frame) (s : State) (n0 : Nat) (Q : Option Value → Heap → Prop) (kC kS : Nat) (t : State) : Prop :=
  ∃ s₂ o, Steps p.tables e below t s₂ ∧ s₂.status = .running ∧ Ended s₂ below o ∧ ∃ v L, o = .returned v ∧ (Q v s₂.heap ∧ Fr n0 L) ∧ FrameEnd s o s₂ L kC kS
/-- a body's contract -/
def Con (l : Launch) (Z : State) (y : MethodName) (ws : List Jvm.Cond) (B : ByteArray) (ml : Nat) (ret : Option FieldType) (rm : Room) (as : Array Value) (h0 : Heap) (n0 : Nat) (Q : Option Value → Heap → Prop) : Prop :=
  MetFree l y (head1 (Cond.code y B ml ret :: ws) rm) (fun a U => a = as ∧ Z.Warmed39 U.vm ∧ U.heap = h0) (fun _ _ _ _ _ => True) (fun _ U o U' => ∃ v L, o = .returned v ∧ (Q v U'.heap ∧ Fr n0 L) ∧ FrameEnd U o U' L rm.cells rm.slots)
theorem wd {ws : List Jvm.Cond} {a0 : Array Value} {Z : State} (hw : ∀ d ∈ ws, d.before a0 Z = true) (i : Nat) {d : Jvm.Cond} (q : ws[i]? = some d) : d.before a0 Z = true := hw d (List.mem_of_getElem? q)
section Kit
variable {p : Program} {l : Launch} {e : Env} {R : Room} {s : State} {m : MethodId} {args : Array Value} {below : List Frame} {meth : Method} {c : Code} {Z : State} {B : ByteArray} {own nm : String} {ml : Nat} {ret : Option FieldType} {n0 : Nat} {T : State} {h : Heap} {k n : Nat} {Q : Option Value → Heap → Prop} {kC kS : Nat}
theorem Go.st {t t' : State} (r : Go p e below s n0 Q kC kS t') (q : ∀ u, Steps p.tables e below t' u → Steps p.tables e below t u) : Go p e below s n0 Q kC kS t := by
  obtain ⟨s₂, o, h1, h2⟩ := r; exact ⟨s₂, o, q _ h1, h2⟩
theorem St.more {k' n' : Nat} (X : St p l e R s m args below meth c Z B own nm ml ret n0 T h k n) (hk : k ≤ k') (hn : n ≤ n') : St p l e R s m args below meth c Z B own nm ml ret n0 T h k' n' := by
  obtain ⟨q, locs, X, r⟩ := X; exact ⟨q, locs, X.more hk hn, r⟩
theorem St.z (X : St p l e R s m args below meth c Z B own nm ml ret n0 T h k n) : Z.Warmed39 s.vm := X.1.2.2.1

theorem iloadN (X : St p l e R s m args below meth c Z B own nm ml ret n0 T h k n) {pc : Nat} {Ls : Array Slot} {st : List Value} {j : Fin 4} {v : Int32} (hd : decode B pc = .ok (.iload_n j, 1)) (hl : Ls[j.val]? = some (.val (.int v)))
    (r : Go p e below s n0 Q kC kS (T.setTop (mkF m (pc + 1) Ls (.int v :: st)))) : Go p e below s n0 Q kC kS (T.setTop (mkF m pc Ls (st))) := by
  obtain ⟨⟨hx, rfl, -⟩, locs, X, -⟩ := X
  exact r.st fun u kk => XS.iloadN X.here hx rfl hd hl kk
theorem iload (X : St p l e R s m args below meth c Z B own nm ml ret n0 T h k n) {pc : Nat} {Ls : Array Slot} {st : List Value} {j : Nat} {v : Int32} (hd : decode B pc = .ok (.iload j, 2)) (hl : Ls[j]? = some (.val (.int v)))
    (r : Go p e below s n0 Q kC kS (T.setTop (mkF m (pc + 2) Ls (.int v :: st)))) : Go p e below s n0 Q kC kS (T.setTop (mkF m pc Ls (st))) := by
  obtain ⟨⟨hx, rfl, -⟩, locs, X, -⟩ := X
  exact r.st fun u kk => XS.iload X.here hx rfl hd hl kk
theorem istoreN (X : St p l e R s m args below meth c Z B own nm ml ret n0 T h k n) {pc : Nat} {Ls : Array Slot} {st : List Value} {j : Fin 4} {v : Int32} {l' : Array Slot} (hd : decode B pc = .ok (.istore_n j, 1)) (hl : storeLocals Ls j.val (.int v) = some l')
    (r : Go p e below s n0 Q kC kS (T.setTop (mkF m (pc + 1) l' (st)))) : Go p e below s n0 Q kC kS (T.setTop (mkF m pc Ls (.int v :: st))) := by
  obtain ⟨⟨hx, rfl, -⟩, locs, X, -⟩ := X
  exact r.st fun u kk => XS.istoreN X.here hx rfl hd rfl hl kk
theorem istore (X : St p l e R s m args below meth c Z B own nm ml ret n0 T h k n) {pc : Nat} {Ls : Array Slot} {st : List Value} {j : Nat} {v : Int32} {l' : Array Slot} (hd : decode B pc = .ok (.istore j, 2)) (hl : storeLocals Ls j (.int v) = some l')
    (r : Go p e below s n0 Q kC kS (T.setTop (mkF m (pc + 2) l' (st)))) : Go p e below s n0 Q kC kS (T.setTop (mkF m pc Ls (.int v :: st))) := by
  obtain ⟨⟨hx, rfl, -⟩, locs, X, -⟩ := X
  exact r.st fun u kk => XS.istore X.here hx rfl hd rfl hl kk
theorem lloadN (X : St p l e R s m args below meth c Z B own nm ml ret n0 T h k n) {pc : Nat} {Ls : Array Slot} {st : List Value} {j : Fin 4} {v : Int64} (hd : decode B pc = .ok (.lload_n j, 1)) (hl : Ls[j.val]? = some (.val (.long v)))
    (r : Go p e below s n0 Q kC kS (T.setTop (mkF m (pc + 1) Ls (.long v :: st)))) : Go p e below s n0 Q kC kS (T.setTop (mkF m pc Ls (st))) := by
  obtain ⟨⟨hx, rfl, -⟩, locs, X, -⟩ := X
  exact r.st fun u kk => XS.lloadN X.here hx rfl hd hl kk
theorem lload (X : St p l e R s m args below meth c Z B own nm ml ret n0 T h k n) {pc : Nat} {Ls : Array Slot} {st : List Value} {j : Nat} {v : Int64} (hd : decode B pc = .ok (.lload j, 2)) (hl : Ls[j]? = some (.val (.long v)))
    (r : Go p e below s n0 Q kC kS (T.setTop (mkF m (pc + 2) Ls (.long v :: st)))) : Go p e below s n0 Q kC kS (T.setTop (mkF m pc Ls (st))) := by
  obtain ⟨⟨hx, rfl, -⟩, locs, X, -⟩ := X
  exact r.st fun u kk => XS.lload X.here hx rfl hd hl kk
theorem lstoreN (X : St p l e R s m args below meth c Z B own nm ml ret n0 T h k n) {pc : Nat} {Ls : Array Slot} {st : List Value} {j : Fin 4} {v : Int64} {l' : Array Slot} (hd : decode B pc = .ok (.lstore_n j, 1)) (hl : storeLocals Ls j.val (.long v) = some l')
    (r : Go p e below s n0 Q kC kS (T.setTop (mkF m (pc + 1) l' (st)))) : Go p e below s n0 Q kC kS (T.setTop (mkF m pc Ls (.long v :: st))) := by
  obtain ⟨⟨hx, rfl, -⟩, locs, X, -⟩ := X
  exact r.st fun u kk => XS.lstoreN X.here hx rfl hd rfl hl kk
theorem lstore (X : St p l e R s m args below meth c Z B own nm ml ret n0 T h k n) {pc : Nat} {Ls : Array Slot} {st : List Value} {j : Nat} {v : Int64} {l' : Array Slot} (hd : decode B pc = .ok (.lstore j, 2)) (hl : storeLocals Ls j (.long v) = some l')
    (r : Go p e below s n0 Q kC kS (T.setTop (mkF m (pc + 2) l' (st)))) : Go p e below s n0 Q kC kS (T.setTop (mkF m pc Ls (.long v :: st))) := by
  obtain ⟨⟨hx, rfl, -⟩, locs, X, -⟩ := X
  exact r.st fun u kk => XS.lstore X.here hx rfl hd rfl hl kk
theorem dloadN (X : St p l e R s m args below meth c Z B own nm ml ret n0 T h k n) {pc : Nat} {Ls : Array Slot} {st : List Value} {j : Fin 4} {v : UInt64} (hd : decode B pc = .ok (.dload_n j, 1)) (hl : Ls[j.val]? = some (.val (.double v)))
    (r : Go p e below s n0 Q kC kS (T.setTop (mkF m (pc + 1) Ls (.double v :: st)))) : Go p e below s n0 Q kC kS (T.setTop (mkF m pc Ls (st))) := by
  obtain ⟨⟨hx, rfl, -⟩, locs, X, -⟩ := X
  exact r.st fun u kk => XS.dloadN X.here hx rfl hd hl kk
theorem dload (X : St p l e R s m args below meth c Z B own nm ml ret n0 T h k n) {pc : Nat} {Ls : Array Slot} {st : List Value} {j : Nat} {v : UInt64} (hd : decode B pc = .ok (.dload j, 2)) (hl : Ls[j]? = some (.val (.double v)))
    (r : Go p e below s n0 Q kC kS (T.setTop (mkF m (pc + 2) Ls (.double v :: st)))) : Go p e below s n0 Q kC kS (T.setTop (mkF m pc Ls (st))) := by
  obtain ⟨⟨hx, rfl, -⟩, locs, X, -⟩ := X
  exact r.st fun u kk => XS.dload X.here hx rfl hd hl kk
theorem dstoreN (X : St p l e R s m args below meth c Z B own nm ml ret n0 T h k n) {pc : Nat} {Ls : Array Slot} {st : List Value} {j : Fin 4} {v : UInt64} {l' : Array Slot} (hd : decode B pc = .ok (.dstore_n j, 1)) (hl : storeLocals Ls j.val (.double v) = some l')
    (r : Go p e below s n0 Q kC kS (T.setTop (mkF m (pc + 1) l' (st)))) : Go p e below s n0 Q kC kS (T.setTop (mkF m pc Ls (.double v :: st))) := by
  obtain ⟨⟨hx, rfl, -⟩, locs, X, -⟩ := X
  exact r.st fun u kk => XS.dstoreN X.here hx rfl hd rfl hl kk
theorem dstore (X : St p l e R s m args below meth c Z B own nm ml ret n0 T h k n) {pc : Nat} {Ls : Array Slot} {st : List Value} {j : Nat} {v : UInt64} {l' : Array Slot} (hd : decode B pc = .ok (.dstore j, 2)) (hl : storeLocals Ls j (.double v) = some l')
    (r : Go p e below s n0 Q kC kS (T.setTop (mkF m (pc + 2) l' (st)))) : Go p e below s n0 Q kC kS (T.setTop (mkF m pc Ls (.double v :: st))) := by
  obtain ⟨⟨hx, rfl, -⟩, locs, X, -⟩ := X
  exact r.st fun u kk => XS.dstore X.here hx rfl hd rfl hl kk
theorem aloadN (X : St p l e R s m args below meth c Z B own nm ml ret n0 T h k n) {pc : Nat} {Ls : Array Slot} {st : List Value} {j : Fin 4} {v : Value} (hd : decode B pc = .ok (.aload_n j, 1)) (hl : Ls[j.val]? = some (.val v)) (hv : v.isRef = true)
    (r : Go p e below s n0 Q kC kS (T.setTop (mkF m (pc + 1) Ls (v :: st)))) : Go p e below s n0 Q kC kS (T.setTop (mkF m pc Ls (st))) := by
  obtain ⟨⟨hx, rfl, -⟩, locs, X, -⟩ := X
  exact r.st fun u kk => XS.aloadN X.here hx rfl hd hl hv kk
theorem aload (X : St p l e R s m args below meth c Z B own nm ml ret n0 T h k n) {pc : Nat} {Ls : Array Slot} {st : List Value} {j : Nat} {v : Value} (hd : decode B pc = .ok (.aload j, 2)) (hl : Ls[j]? = some (.val v)) (hv : v.isRef = true)
    (r : Go p e below s n0 Q kC kS (T.setTop (mkF m (pc + 2) Ls (v :: st)))) : Go p e below s n0 Q kC kS (T.setTop (mkF m pc Ls (st))) := by
  obtain ⟨⟨hx, rfl, -⟩, locs, X, -⟩ := X
  exact r.st fun u kk => XS.aload X.here hx rfl hd hl hv kk
theorem astoreN (X : St p l e R s m args below meth c Z B own nm ml ret n0 T h k n) {pc : Nat} {Ls : Array Slot} {st : List Value} {j : Fin 4} {v : Value} {l' : Array Slot} (hd : decode B pc = .ok (.astore_n j, 1)) (hv : v.isRef = true) (hl : storeLocals Ls j.val v = some l')
    (r : Go p e below s n0 Q kC kS (T.setTop (mkF m (pc + 1) l' (st)))) : Go p e below s n0 Q kC kS (T.setTop (mkF m pc Ls (v :: st))) := by
  obtain ⟨⟨hx, rfl, -⟩, locs, X, -⟩ := X
  exact r.st fun u kk => XS.astoreN X.here hx rfl hd rfl hv hl kk
theorem astore (X : St p l e R s m args below meth c Z B own nm ml ret n0 T h k n) {pc : Nat} {Ls : Array Slot} {st : List Value} {j : Nat} {v : Value} {l' : Array Slot} (hd : decode B pc = .ok (.astore j, 2)) (hv : v.isRef = true) (hl : storeLocals Ls j v = some l')
    (r : Go p e below s n0 Q kC kS (T.setTop (mkF m (pc + 2) l' (st)))) : Go p e below s n0 Q kC kS (T.setTop (mkF m pc Ls (v :: st))) := by
  obtain ⟨⟨hx, rfl, -⟩, locs, X, -⟩ := X
  exact r.st fun u kk => XS.astore X.here hx rfl hd rfl hv hl kk
theorem iconst (X : St p l e R s m args below meth c Z B own nm ml ret n0 T h k n) {pc : Nat} {Ls : Array Slot} {st : List Value} {i : Int} (v : Int32) (hd : decode B pc = .ok (.iconst i, 1)) (hv : Int32.ofInt i = v)
    (r : Go p e below s n0 Q kC kS (T.setTop (mkF m (pc + 1) Ls (.int v :: st)))) : Go p e below s n0 Q kC kS (T.setTop (mkF m pc Ls (st))) := by
  obtain ⟨⟨hx, rfl, -⟩, locs, X, -⟩ := X
  subst hv
  exact r.st fun u kk => XS.iconst X.here hx rfl hd kk
theorem bipush (X : St p l e R s m args below meth c Z B own nm ml ret n0 T h k n) {pc : Nat} {Ls : Array Slot} {st : List Value} {i : Int} (v : Int32) (hd : decode B pc = .ok (.bipush i, 2)) (hv : (Int8.ofInt i).toInt32 = v)
    (r : Go p e below s n0 Q kC kS (T.setTop (mkF m (pc + 2) Ls (.int v :: st)))) : Go p e below s n0 Q kC kS (T.setTop (mkF m pc Ls (st))) := by
  obtain ⟨⟨hx, rfl, -⟩, locs, X, -⟩ := X
  subst hv
  exact r.st fun u kk => XS.bipush X.here hx rfl hd kk
theorem sipush (X : St p l e R s m args below meth c Z B own nm ml ret n0 T h k n) {pc : Nat} {Ls : Array Slot} {st : List Value} {i : Int} (v : Int32) (hd : decode B pc = .ok (.sipush i, 3)) (hv : (Int16.ofInt i).toInt32 = v)
    (r : Go p e below s n0 Q kC kS (T.setTop (mkF m (pc + 3) Ls (.int v :: st)))) : Go p e below s n0 Q kC kS (T.setTop (mkF m pc Ls (st))) := by
  obtain ⟨⟨hx, rfl, -⟩, locs, X, -⟩ := X
  subst hv
  exact r.st fun u kk => XS.sipush X.here hx rfl hd kk
theorem lconst (X : St p l e R s m args below meth c Z B own nm ml ret n0 T h k n) {pc : Nat} {Ls : Array Slot} {st : List Value} {i : Fin 2} (v : Int64) (hd : decode B pc = .ok (.lconst i, 1)) (hv : Int64.ofNat i = v)
    (r : Go p e below s n0 Q kC kS (T.setTop (mkF m (pc + 1) Ls (.long v :: st)))) : Go p e below s n0 Q kC kS (T.setTop (mkF m pc Ls (st))) := by
  obtain ⟨⟨hx, rfl, -⟩, locs, X, -⟩ := X
  subst hv
  exact r.st fun u kk => XS.lconst X.here hx rfl hd kk
theorem dconst0 (X : St p l e R s m args below meth c Z B own nm ml ret n0 T h k n) {pc : Nat} {Ls : Array Slot} {st : List Value}  (hd : decode B pc = .ok (.dconst 0, 1)) 
    (r : Go p e below s n0 Q kC kS (T.setTop (mkF m (pc + 1) Ls (.double 0 :: st)))) : Go p e below s n0 Q kC kS (T.setTop (mkF m pc Ls (st))) := by
  obtain ⟨⟨hx, rfl, -⟩, locs, X, -⟩ := X
  exact r.st fun u kk => XS.dconst0 X.here hx rfl hd rfl kk
theorem dconst1 (X : St p l e R s m args below meth c Z B own nm ml ret n0 T h k n) {pc : Nat} {Ls : Array Slot} {st : List Value}  (hd : decode B pc = .ok (.dconst 1, 1)) 
    (r : Go p e below s n0 Q kC kS (T.setTop (mkF m (pc + 1) Ls (.double 4607182418800017408 :: st)))) : Go p e below s n0 Q kC kS (T.setTop (mkF m pc Ls (st))) := by
  obtain ⟨⟨hx, rfl, -⟩, locs, X, -⟩ := X
  exact r.st fun u kk => XS.dconst1 X.here hx rfl hd rfl kk
theorem aconstNull (X : St p l e R s m args below meth c Z B own nm ml ret n0 T h k n) {pc : Nat} {Ls : Array Slot} {st : List Value}  (hd : decode B pc = .ok (.aconst_null, 1)) 
    (r : Go p e below s n0 Q kC kS (T.setTop (mkF m (pc + 1) Ls (.null :: st)))) : Go p e below s n0 Q kC kS (T.setTop (mkF m pc Ls (st))) := by
  obtain ⟨⟨hx, rfl, -⟩, locs, X, -⟩ := X
  exact r.st fun u kk => XS.aconstNull X.here hx rfl hd kk
theorem iadd (X : St p l e R s m args below meth c Z B own nm ml ret n0 T h k n) {pc : Nat} {Ls : Array Slot} {st : List Value} {x y : Int32} (hd : decode B pc = .ok (.iadd, 1)) 
    (r : Go p e below s n0 Q kC kS (T.setTop (mkF m (pc + 1) Ls (.int (x + y) :: st)))) : Go p e below s n0 Q kC kS (T.setTop (mkF m pc Ls (.int y :: .int x :: st))) := by
  obtain ⟨⟨hx, rfl, -⟩, locs, X, -⟩ := X
  exact r.st fun u kk => XS.iadd X.here hx rfl hd rfl kk
theorem isub (X : St p l e R s m args below meth c Z B own nm ml ret n0 T h k n) {pc : Nat} {Ls : Array Slot} {st : List Value} {x y : Int32} (hd : decode B pc = .ok (.isub, 1)) 
    (r : Go p e below s n0 Q kC kS (T.setTop (mkF m (pc + 1) Ls (.int (x - y) :: st)))) : Go p e below s n0 Q kC kS (T.setTop (mkF m pc Ls (.int y :: .int x :: st))) := by
  obtain ⟨⟨hx, rfl, -⟩, locs, X, -⟩ := X
  exact r.st fun u kk => XS.isub X.here hx rfl hd rfl kk
theorem imul (X : St p l e R s m args below meth c Z B own nm ml ret n0 T h k n) {pc : Nat} {Ls : Array Slot} {st : List Value} {x y : Int32} (hd : decode B pc = .ok (.imul, 1)) 
    (r : Go p e below s n0 Q kC kS (T.setTop (mkF m (pc + 1) Ls (.int (x * y) :: st)))) : Go p e below s n0 Q kC kS (T.setTop (mkF m pc Ls (.int y :: .int x :: st))) := by
  obtain ⟨⟨hx, rfl, -⟩, locs, X, -⟩ := X
  exact r.st fun u kk => XS.imul X.here hx rfl hd rfl kk
theorem iand (X : St p l e R s m args below meth c Z B own nm ml ret n0 T h k n) {pc : Nat} {Ls : Array Slot} {st : List Value} {x y : Int32} (hd : decode B pc = .ok (.iand, 1)) 
    (r : Go p e below s n0 Q kC kS (T.setTop (mkF m (pc + 1) Ls (.int (x &&& y) :: st)))) : Go p e below s n0 Q kC kS (T.setTop (mkF m pc Ls (.int y :: .int x :: st))) := by
  obtain ⟨⟨hx, rfl, -⟩, locs, X, -⟩ := X
  exact r.st fun u kk => XS.iand X.here hx rfl hd rfl kk
theorem ior (X : St p l e R s m args below meth c Z B own nm ml ret n0 T h k n) {pc : Nat} {Ls : Array Slot} {st : List Value} {x y : Int32} (hd : decode B pc = .ok (.ior, 1)) 
    (r : Go p e below s n0 Q kC kS (T.setTop (mkF m (pc + 1) Ls (.int (x ||| y) :: st)))) : Go p e below s n0 Q kC kS (T.setTop (mkF m pc Ls (.int y :: .int x :: st))) := by
  obtain ⟨⟨hx, rfl, -⟩, locs, X, -⟩ := X
  exact r.st fun u kk => Jvm.Free.XT.ior X.here hx rfl hd rfl kk
theorem ixor (X : St p l e R s m args below meth c Z B own nm ml ret n0 T h k n) {pc : Nat} {Ls : Array Slot} {st : List Value} {x y : Int32} (hd : decode B pc = .ok (.ixor, 1)) 
    (r : Go p e below s n0 Q kC kS (T.setTop (mkF m (pc + 1) Ls (.int (x ^^^ y) :: st)))) : Go p e below s n0 Q kC kS (T.setTop (mkF m pc Ls (.int y :: .int x :: st))) := by
  obtain ⟨⟨hx, rfl, -⟩, locs, X, -⟩ := X
  exact r.st fun u kk => Jvm.Free.XT.ixor X.here hx rfl hd rfl kk
theorem ishl (X : St p l e R s m args below meth c Z B own nm ml ret n0 T h k n) {pc : Nat} {Ls : Array Slot} {st : List Value} {x y : Int32} (hd : decode B pc = .ok (.ishl, 1)) 
    (r : Go p e below s n0 Q kC kS (T.setTop (mkF m (pc + 1) Ls (.int (x <<< (y &&& 31)) :: st)))) : Go p e below s n0 Q kC kS (T.setTop (mkF m pc Ls (.int y :: .int x :: st))) := by
  obtain ⟨⟨hx, rfl, -⟩, locs, X, -⟩ := X
  exact r.st fun u kk => Jvm.Free.XT.ishl X.here hx rfl hd rfl kk
theorem ishr (X : St p l e R s m args below meth c Z B own nm ml ret n0 T h k n) {pc : Nat} {Ls : Array Slot} {st : List Value} {x y : Int32} (hd : decode B pc = .ok (.ishr, 1)) 
    (r : Go p e below s n0 Q kC kS (T.setTop (mkF m (pc + 1) Ls (.int (x >>> (y &&& 31)) :: st)))) : Go p e below s n0 Q kC kS (T.setTop (mkF m pc Ls (.int y :: .int x :: st))) := by
  obtain ⟨⟨hx, rfl, -⟩, locs, X, -⟩ := X
  exact r.st fun u kk => Jvm.Free.XT.ishr X.here hx rfl hd rfl kk
theorem iushr (X : St p l e R s m args below meth c Z B own nm ml ret n0 T h k n) {pc : Nat} {Ls : Array Slot} {st : List Value} {x y : Int32} (hd : decode B pc = .ok (.iushr, 1)) 
    (r : Go p e below s n0 Q kC kS (T.setTop (mkF m (pc + 1) Ls (.int (Jvm.Free.XT.ushr x y) :: st)))) : Go p e below s n0 Q kC kS (T.setTop (mkF m pc Ls (.int y :: .int x :: st))) := by
  obtain ⟨⟨hx, rfl, -⟩, locs, X, -⟩ := X
  exact r.st fun u kk => Jvm.Free.XT.iushr X.here hx rfl hd rfl kk
theorem irem (X : St p l e R s m args below meth c Z B own nm ml ret n0 T h k n) {pc : Nat} {Ls : Array Slot} {st : List Value} {x y : Int32} (hd : decode B pc = .ok (.irem, 1)) (hy : y ≠ 0)
    (r : Go p e below s n0 Q kC kS (T.setTop (mkF m (pc + 1) Ls (.int (x % y) :: st)))) : Go p e below s n0 Q kC kS (T.setTop (mkF m pc Ls (.int y :: .int x :: st))) := by
  obtain ⟨⟨hx, rfl, -⟩, locs, X, -⟩ := X
  exact r.st fun u kk => iremM X hx rfl hd rfl hy kk
theorem ladd (X : St p l e R s m args below meth c Z B own nm ml ret n0 T h k n) {pc : Nat} {Ls : Array Slot} {st : List Value} {x y : Int64} (hd : decode B pc = .ok (.ladd, 1)) 
    (r : Go p e below s n0 Q kC kS (T.setTop (mkF m (pc + 1) Ls (.long (x + y) :: st)))) : Go p e below s n0 Q kC kS (T.setTop (mkF m pc Ls (.long y :: .long x :: st))) := by
  obtain ⟨⟨hx, rfl, -⟩, locs, X, -⟩ := X
  exact r.st fun u kk => Jvm.Free.XT.ladd X.here hx rfl hd rfl kk
theorem lsub (X : St p l e R s m args below meth c Z B own nm ml ret n0 T h k n) {pc : Nat} {Ls : Array Slot} {st : List Value} {x y : Int64} (hd : decode B pc = .ok (.lsub, 1)) 
    (r : Go p e below s n0 Q kC kS (T.setTop (mkF m (pc + 1) Ls (.long (x - y) :: st)))) : Go p e below s n0 Q kC kS (T.setTop (mkF m pc Ls (.long y :: .long x :: st))) := by
  obtain ⟨⟨hx, rfl, -⟩, locs, X, -⟩ := X
  exact r.st fun u kk => Jvm.Free.XT.lsub X.here hx rfl hd rfl kk
theorem lmul (X : St p l e R s m args below meth c Z B own nm ml ret n0 T h k n) {pc : Nat} {Ls : Array Slot} {st : List Value} {x y : Int64} (hd : decode B pc = .ok (.lmul, 1)) 
    (r : Go p e below s n0 Q kC kS (T.setTop (mkF m (pc + 1) Ls (.long (x * y) :: st)))) : Go p e below s n0 Q kC kS (T.setTop (mkF m pc Ls (.long y :: .long x :: st))) := by
  obtain ⟨⟨hx, rfl, -⟩, locs, X, -⟩ := X
  exact r.st fun u kk => Jvm.Free.XT.lmul X.here hx rfl hd rfl kk
theorem land (X : St p l e R s m args below meth c Z B own nm ml ret n0 T h k n) {pc : Nat} {Ls : Array Slot} {st : List Value} {x y : Int64} (hd : decode B pc = .ok (.land, 1)) 
    (r : Go p e below s n0 Q kC kS (T.setTop (mkF m (pc + 1) Ls (.long (x &&& y) :: st)))) : Go p e below s n0 Q kC kS (T.setTop (mkF m pc Ls (.long y :: .long x :: st))) := by
  obtain ⟨⟨hx, rfl, -⟩, locs, X, -⟩ := X
  exact r.st fun u kk => Jvm.Free.XT.land X.here hx rfl hd rfl kk
theorem lrem (X : St p l e R s m args below meth c Z B own nm ml ret n0 T h k n) {pc : Nat} {Ls : Array Slot} {st : List Value} {x y : Int64} (hd : decode B pc = .ok (.lrem, 1)) (hy : y ≠ 0)
    (r : Go p e below s n0 Q kC kS (T.setTop (mkF m (pc + 1) Ls (.long (x - (x / y) * y) :: st)))) : Go p e below s n0 Q kC kS (T.setTop (mkF m pc Ls (.long y :: .long x :: st))) := by
  obtain ⟨⟨hx, rfl, -⟩, locs, X, -⟩ := X
  exact r.st fun u kk => Jvm.Free.XT.lrem X.here hx rfl hd rfl hy kk
theorem lneg (X : St p l e R s m args below meth c Z B own nm ml ret n0 T h k n) {pc : Nat} {Ls : Array Slot} {st : List Value} {x : Int64} (hd : decode B pc = .ok (.lneg, 1)) 
    (r : Go p e below s n0 Q kC kS (T.setTop (mkF m (pc + 1) Ls (.long (-x) :: st)))) : Go p e below s n0 Q kC kS (T.setTop (mkF m pc Ls (.long x :: st))) := by
  obtain ⟨⟨hx, rfl, -⟩, locs, X, -⟩ := X
  exact r.st fun u kk => Jvm.Free.XT.lneg X.here hx rfl hd rfl kk
theorem i2l (X : St p l e R s m args below meth c Z B own nm ml ret n0 T h k n) {pc : Nat} {Ls : Array Slot} {st : List Value} {x : Int32} (hd : decode B pc = .ok (.i2l, 1)) 
    (r : Go p e below s n0 Q kC kS (T.setTop (mkF m (pc + 1) Ls (.long (x.toInt64) :: st)))) : Go p e below s n0 Q kC kS (T.setTop (mkF m pc Ls (.int x :: st))) := by
  obtain ⟨⟨hx, rfl, -⟩, locs, X, -⟩ := X
  exact r.st fun u kk => Jvm.Free.XT.i2l X.here hx rfl hd rfl kk
theorem l2i (X : St p l e R s m args below meth c Z B own nm ml ret n0 T h k n) {pc : Nat} {Ls : Array Slot} {st : List Value} {x : Int64} (hd : decode B pc = .ok (.l2i, 1)) 
    (r : Go p e below s n0 Q kC kS (T.setTop (mkF m (pc + 1) Ls (.int (x.toInt32) :: st)))) : Go p e below s n0 Q kC kS (T.setTop (mkF m pc Ls (.long x :: st))) := by
  obtain ⟨⟨hx, rfl, -⟩, locs, X, -⟩ := X
  exact r.st fun u kk => Jvm.Free.XT.l2i X.here hx rfl hd rfl kk
theorem i2s (X : St p l e R s m args below meth c Z B own nm ml ret n0 T h k n) {pc : Nat} {Ls : Array Slot} {st : List Value} {x : Int32} (hd : decode B pc = .ok (.i2s, 1)) 
    (r : Go p e below s n0 Q kC kS (T.setTop (mkF m (pc + 1) Ls (.int (x.toInt16.toInt32) :: st)))) : Go p e below s n0 Q kC kS (T.setTop (mkF m pc Ls (.int x :: st))) := by
  obtain ⟨⟨hx, rfl, -⟩, locs, X, -⟩ := X
  exact r.st fun u kk => Jvm.Free.XT.i2s X.here hx rfl hd rfl kk
theorem i2c (X : St p l e R s m args below meth c Z B own nm ml ret n0 T h k n) {pc : Nat} {Ls : Array Slot} {st : List Value} {x : Int32} (hd : decode B pc = .ok (.i2c, 1)) 
    (r : Go p e below s n0 Q kC kS (T.setTop (mkF m (pc + 1) Ls (.int (x.toUInt32.toUInt16.toUInt32.toInt32) :: st)))) : Go p e below s n0 Q kC kS (T.setTop (mkF m pc Ls (.int x :: st))) := by
  obtain ⟨⟨hx, rfl, -⟩, locs, X, -⟩ := X
  exact r.st fun u kk => Jvm.Free.XT.i2c X.here hx rfl hd rfl kk
theorem lshr (X : St p l e R s m args below meth c Z B own nm ml ret n0 T h k n) {pc : Nat} {Ls : Array Slot} {st : List Value} {x : Int64} {y : Int32} (hd : decode B pc = .ok (.lshr, 1)) 
    (r : Go p e below s n0 Q kC kS (T.setTop (mkF m (pc + 1) Ls (.long (x >>> (y.toInt64 &&& 63)) :: st)))) : Go p e below s n0 Q kC kS (T.setTop (mkF m pc Ls (.int y :: .long x :: st))) := by
  obtain ⟨⟨hx, rfl, -⟩, locs, X, -⟩ := X
  exact r.st fun u kk => Jvm.Free.XT.lshr X.here hx rfl hd rfl kk
theorem lshl (X : St p l e R s m args below meth c Z B own nm ml ret n0 T h k n) {pc : Nat} {Ls : Array Slot} {st : List Value} {x : Int64} {y : Int32} (hd : decode B pc = .ok (.lshl, 1)) 
    (r : Go p e below s n0 Q kC kS (T.setTop (mkF m (pc + 1) Ls (.long (x <<< (y.toInt64 &&& 63)) :: st)))) : Go p e below s n0 Q kC kS (T.setTop (mkF m pc Ls (.int y :: .long x :: st))) := by
  obtain ⟨⟨hx, rfl, -⟩, locs, X, -⟩ := X
  exact r.st fun u kk => Jvm.Free.XT.lshl X.here hx rfl hd rfl kk
theorem i2d (X : St p l e R s m args below meth c Z B own nm ml ret n0 T h k n) {pc : Nat} {Ls : Array Slot} {st : List Value} {x : Int32} {v : UInt64} (hd : decode B pc = .ok (.i2d, 1)) (hv : FP.i2d x = v)
    (r : Go p e below s n0 Q kC kS (T.setTop (mkF m (pc + 1) Ls (.double v :: st)))) : Go p e below s n0 Q kC kS (T.setTop (mkF m pc Ls (.int x :: st))) := by
  obtain ⟨⟨hx, rfl, -⟩, locs, X, -⟩ := X
  exact r.st fun u kk => XS.i2dS X.here hx rfl hd rfl hv kk
theorem l2d (X : St p l e R s m args below meth c Z B own nm ml ret n0 T h k n) {pc : Nat} {Ls : Array Slot} {st : List Value} {x : Int64} {v : UInt64} (hd : decode B pc = .ok (.l2d, 1)) (hv : FP.l2d x = v)
    (r : Go p e below s n0 Q kC kS (T.setTop (mkF m (pc + 1) Ls (.double v :: st)))) : Go p e below s n0 Q kC kS (T.setTop (mkF m pc Ls (.long x :: st))) := by
  obtain ⟨⟨hx, rfl, -⟩, locs, X, -⟩ := X
  exact r.st fun u kk => XS.l2dS X.here hx rfl hd rfl hv kk
theorem dneg (X : St p l e R s m args below meth c Z B own nm ml ret n0 T h k n) {pc : Nat} {Ls : Array Slot} {st : List Value} {x v : UInt64} (hd : decode B pc = .ok (.dneg, 1)) (hv : FP.dneg x = v)
    (r : Go p e below s n0 Q kC kS (T.setTop (mkF m (pc + 1) Ls (.double v :: st)))) : Go p e below s n0 Q kC kS (T.setTop (mkF m pc Ls (.double x :: st))) := by
  obtain ⟨⟨hx, rfl, -⟩, locs, X, -⟩ := X
  exact r.st fun u kk => XS.dnegS X.here hx rfl hd rfl hv kk
theorem dadd (X : St p l e R s m args below meth c Z B own nm ml ret n0 T h k n) {pc : Nat} {Ls : Array Slot} {st : List Value} {x y v : UInt64} (hd : decode B pc = .ok (.dadd, 1)) (hv : FP.dadd x y = v) (hn : NoNaN64 v)
    (r : Go p e below s n0 Q kC kS (T.setTop (mkF m (pc + 1) Ls (.double v :: st)))) : Go p e below s n0 Q kC kS (T.setTop (mkF m pc Ls (.double y :: .double x :: st))) := by
  obtain ⟨⟨hx, rfl, -⟩, locs, X, -⟩ := X
  exact r.st fun u kk => XS.daddS X.here hx rfl hd rfl (hv.symm ▸ hn) hv kk
theorem dsub (X : St p l e R s m args below meth c Z B own nm ml ret n0 T h k n) {pc : Nat} {Ls : Array Slot} {st : List Value} {x y v : UInt64} (hd : decode B pc = .ok (.dsub, 1)) (hv : FP.dsub x y = v) (hn : NoNaN64 v)
    (r : Go p e below s n0 Q kC kS (T.setTop (mkF m (pc + 1) Ls (.double v :: st)))) : Go p e below s n0 Q kC kS (T.setTop (mkF m pc Ls (.double y :: .double x :: st))) := by
  obtain ⟨⟨hx, rfl, -⟩, locs, X, -⟩ := X
  exact r.st fun u kk => XS.dsubS X.here hx rfl hd rfl (hv.symm ▸ hn) hv kk
theorem dmul (X : St p l e R s m args below meth c Z B own nm ml ret n0 T h k n) {pc : Nat} {Ls : Array Slot} {st : List Value} {x y v : UInt64} (hd : decode B pc = .ok (.dmul, 1)) (hv : FP.dmul x y = v) (hn : NoNaN64 v)
    (r : Go p e below s n0 Q kC kS (T.setTop (mkF m (pc + 1) Ls (.double v :: st)))) : Go p e below s n0 Q kC kS (T.setTop (mkF m pc Ls (.double y :: .double x :: st))) := by
  obtain ⟨⟨hx, rfl, -⟩, locs, X, -⟩ := X
  exact r.st fun u kk => XS.dmulS X.here hx rfl hd rfl (hv.symm ▸ hn) hv kk
theorem ddiv (X : St p l e R s m args below meth c Z B own nm ml ret n0 T h k n) {pc : Nat} {Ls : Array Slot} {st : List Value} {x y v : UInt64} (hd : decode B pc = .ok (.ddiv, 1)) (hv : FP.ddiv x y = v) (hn : NoNaN64 v)
    (r : Go p e below s n0 Q kC kS (T.setTop (mkF m (pc + 1) Ls (.double v :: st)))) : Go p e below s n0 Q kC kS (T.setTop (mkF m pc Ls (.double y :: .double x :: st))) := by
  obtain ⟨⟨hx, rfl, -⟩, locs, X, -⟩ := X
  exact r.st fun u kk => XS.ddivS X.here hx rfl hd rfl (hv.symm ▸ hn) hv kk
theorem dup (X : St p l e R s m args below meth c Z B own nm ml ret n0 T h k n) {pc : Nat} {Ls : Array Slot} {st : List Value} {x : Value} (hd : decode B pc = .ok (.dup, 1)) (hc : x.category = 1)
    (r : Go p e below s n0 Q kC kS (T.setTop (mkF m (pc + 1) Ls (x :: x :: st)))) : Go p e below s n0 Q kC kS (T.setTop (mkF m pc Ls (x :: st))) := by
  obtain ⟨⟨hx, rfl, -⟩, locs, X, -⟩ := X
  exact r.st fun u kk => XS.dup X.here hx rfl hd rfl hc kk
theorem pop (X : St p l e R s m args below meth c Z B own nm ml ret n0 T h k n) {pc : Nat} {Ls : Array Slot} {st : List Value} {x : Value} (hd : decode B pc = .ok (.pop, 1)) (hc : x.category = 1)
    (r : Go p e below s n0 Q kC kS (T.setTop (mkF m (pc + 1) Ls (st)))) : Go p e below s n0 Q kC kS (T.setTop (mkF m pc Ls (x :: st))) := by
  obtain ⟨⟨hx, rfl, -⟩, locs, X, -⟩ := X
  exact r.st fun u kk => Jvm.Free.XT.pop X.here hx rfl hd rfl hc kk
theorem iinc (X : St p l e R s m args below meth c Z B own nm ml ret n0 T h k n) {pc : Nat} {Ls : Array Slot} {st : List Value} {j : Nat} {cst : Int} {x : Int32} {l' : Array Slot} (hd : decode B pc = .ok (.iinc j cst, 3)) (hl : Ls[j]? = some (.val (.int x))) (hl' : storeLocals Ls j (.int (x + Int32.ofInt cst)) = some l')
    (r : Go p e below s n0 Q kC kS (T.setTop (mkF m (pc + 3) l' (st)))) : Go p e below s n0 Q kC kS (T.setTop (mkF m pc Ls (st))) := by
  obtain ⟨⟨hx, rfl, -⟩, locs, X, -⟩ := X
  exact r.st fun u kk => XS.iinc X.here hx rfl hd hl hl' kk
theorem goto_ (X : St p l e R s m args below meth c Z B own nm ml ret n0 T h k n) {pc pc' : Nat} {Ls : Array Slot} {st : List Value} {o : Int} (hd : decode B pc = .ok (.goto o, 3)) (hp : (decide (0 ≤ (pc : Int) + o) && decide (((pc : Int) + o).toNat = pc')) = true)
    (r : Go p e below s n0 Q kC kS (T.setTop (mkF m pc' Ls st))) : Go p e below s n0 Q kC kS (T.setTop (mkF m pc Ls st)) := by
  obtain ⟨⟨hx, rfl, -⟩, locs, X, -⟩ := X
  simp only [Bool.and_eq_true, decide_eq_true_eq] at hp
  exact r.st fun u kk => XS.goto X.here hx rfl rfl hd hp.1 hp.2 kk
/-- what a comparison asks, of whole numbers -/
def cmpI : ClassFile.Cond → Int → Int → Prop
  | .eq, a, b => a = b
  | .ne, a, b => ¬ (a = b)
  | .lt, a, b => a < b
  | .ge, a, b => b ≤ a
  | .gt, a, b => b < a
  | .le, a, b => a ≤ b
theorem holds_I (cd : ClassFile.Cond) (x y : Int32) : if_icmp.holds cd x y = true ↔ cmpI cd x.toInt y.toInt := by
  cases cd <;> simp [if_icmp.holds, cmpI, Int32.lt_iff_toInt_lt, Int32.le_iff_toInt_le, ← Int32.toInt_inj]
theorem holds_0 (cd : ClassFile.Cond) (x : Int32) : ifCond.holds cd x = true ↔ cmpI cd x.toInt 0 := by
  rw [if0]; exact holds_I cd x 0
theorem iff_ (X : St p l e R s m args below meth c Z B own nm ml ret n0 T h k n) {pc pc' : Nat} {Ls : Array Slot} {st : List Value} {cd : ClassFile.Cond} {o : Int} {x : Int32} (hd : decode B pc = .ok (.ifCond cd o, 3)) (hp : (decide (0 ≤ (pc : Int) + o) && decide (((pc : Int) + o).toNat = pc')) = true)
    (r1 : cmpI cd x.toInt 0 → Go p e below s n0 Q kC kS (T.setTop (mkF m pc' Ls st))) (r2 : ¬ cmpI cd x.toInt 0 → Go p e below s n0 Q kC kS (T.setTop (mkF m (pc + 3) Ls st))) : Go p e below s n0 Q kC kS (T.setTop (mkF m pc Ls (.int x :: st))) := by
  obtain ⟨⟨hx, rfl, -⟩, locs, X, -⟩ := X
  simp only [Bool.and_eq_true, decide_eq_true_eq] at hp
  by_cases q : ifCond.holds cd x = true
  · exact (r1 ((holds_0 cd x).mp q)).st fun u kk => XS.ifYes X.here hx rfl rfl hd rfl q hp.1 hp.2 kk
  · exact (r2 fun z => q ((holds_0 cd x).mpr z)).st fun u kk => XS.ifNo X.here hx rfl hd rfl (by simpa using q) kk
theorem icmp_ (X : St p l e R s m args below meth c Z B own nm ml ret n0 T h k n) {pc pc' : Nat} {Ls : Array Slot} {st : List Value} {cd : ClassFile.Cond} {o : Int} {x y : Int32} (hd : decode B pc = .ok (.if_icmp cd o, 3)) (hp : (decide (0 ≤ (pc : Int) + o) && decide (((pc : Int) + o).toNat = pc')) = true)
    (r1 : cmpI cd x.toInt y.toInt → Go p e below s n0 Q kC kS (T.setTop (mkF m pc' Ls st))) (r2 : ¬ cmpI cd x.toInt y.toInt → Go p e below s n0 Q kC kS (T.setTop (mkF m (pc + 3) Ls st))) : Go p e below s n0 Q kC kS (T.setTop (mkF m pc Ls (.int y :: .int x :: st))) := by
  obtain ⟨⟨hx, rfl, -⟩, locs, X, -⟩ := X
  simp only [Bool.and_eq_true, decide_eq_true_eq] at hp
  by_cases q : if_icmp.holds cd x y = true
  · exact (r1 ((holds_I cd x y).mp q)).st fun u kk => XS.icmpYes X.here hx rfl rfl hd rfl q hp.1 hp.2 kk
  · exact (r2 fun z => q ((holds_I cd x y).mpr z)).st fun u kk => XS.icmpNo X.here hx rfl hd rfl (by simpa using q) kk
/-- a boolean of the walk: 1 where P, else 0 -/
abbrev bo (P : Prop) [Decidable P] : Int32 := if P then 1 else 0
theorem bo_I (P : Prop) [Decidable P] : (bo P).toInt = if P then 1 else 0 := by unfold bo; split <;> rfl
theorem bo_t {P : Prop} [Decidable P] (q : P) : (1 : Int32) = bo P := (if_pos q).symm
theorem bo_f {P : Prop} [Decidable P] (q : ¬ P) : (0 : Int32) = bo P := (if_neg q).symm
theorem bo_c {P P' : Prop} [Decidable P] [Decidable P'] (q : P ↔ P') : bo P = bo P' := by unfold bo; by_cases z : P <;> simp [z, q.mp, q.mpr, ← q]
theorem iff_and {A P : Prop} (h : A) : P ↔ A ∧ P := ⟨fun q => ⟨h, q⟩, fun q => q.2⟩
theorem iff_or {A P : Prop} (h : ¬ A) : P ↔ A ∨ P := ⟨Or.inr, fun q => q.resolve_left h⟩
theorem iff_l {A P P' : Prop} (h : A) : P ↔ (A ∧ P) ∨ (¬ A ∧ P') := ⟨fun q => Or.inl ⟨h, q⟩, fun q => q.elim (fun z => z.2) (fun z => absurd h z.1)⟩
theorem iff_r {A P P' : Prop} (h : ¬ A) : P ↔ (A ∧ P') ∨ (¬ A ∧ P) := ⟨fun q => Or.inr ⟨h, q⟩, fun q => q.elim (fun z => absurd z.1 h) (fun z => z.2)⟩
theorem nar_bo (P : Prop) [Decidable P] : narrow .boolean (.int (bo P)) = .int (bo P) := by unfold bo; split <;> rfl
theorem fits_bo (P : Prop) [Decidable P] : fits .boolean (.int (bo P)) = true := by unfold bo; split <;> rfl
theorem nar_z {z : Int32} (q : z &&& 1 = z) : narrow .boolean (.int z) = .int z := by show Value.int (z &&& 1) = _; rw [q]
theorem fits_z {z : Int32} (q : z &&& 1 = z) : fits .boolean (.int z) = true := by rcases and_one z with w | w <;> rw [q] at w <;> subst w <;> rfl
theorem bo0 (P : Prop) [Decidable P] : (bo P).toInt = 0 ↔ ¬ P := by rw [bo_I]; by_cases q : P <;> simp [q]
theorem ifeqB (X : St p l e R s m args below meth c Z B own nm ml ret n0 T h k n) {pc pc' : Nat} {Ls : Array Slot} {st : List Value} {o : Int} {P : Prop} [Decidable P] (hd : decode B pc = .ok (.ifCond .eq o, 3)) (hp : (decide (0 ≤ (pc : Int) + o) && decide (((pc : Int) + o).toNat = pc')) = true)
    (r1 : ¬ P → Go p e below s n0 Q kC kS (T.setTop (mkF m pc' Ls st))) (r2 : P → Go p e below s n0 Q kC kS (T.setTop (mkF m (pc + 3) Ls st))) : Go p e below s n0 Q kC kS (T.setTop (mkF m pc Ls (.int (bo P) :: st))) := by
  refine iff_ X hd hp (fun q => r1 fun z => ?_) (fun q => r2 (Classical.byContradiction fun z => q ?_))
  · rw [cmpI, bo_I, if_pos z] at q; cases q
  · rw [cmpI, bo_I, if_neg z]
theorem ifneB (X : St p l e R s m args below meth c Z B own nm ml ret n0 T h k n) {pc pc' : Nat} {Ls : Array Slot} {st : List Value} {o : Int} {P : Prop} [Decidable P] (hd : decode B pc = .ok (.ifCond .ne o, 3)) (hp : (decide (0 ≤ (pc : Int) + o) && decide (((pc : Int) + o).toNat = pc')) = true)
    (r1 : P → Go p e below s n0 Q kC kS (T.setTop (mkF m pc' Ls st))) (r2 : ¬ P → Go p e below s n0 Q kC kS (T.setTop (mkF m (pc + 3) Ls st))) : Go p e below s n0 Q kC kS (T.setTop (mkF m pc Ls (.int (bo P) :: st))) := by
  refine iff_ X hd hp (fun q => r1 (Classical.byContradiction fun z => q ?_)) (fun q => r2 fun z => q ?_)
  · rw [bo_I, if_neg z]
  · rw [cmpI, bo_I, if_pos z]; decide
theorem bo_eq (P P' : Prop) [Decidable P] [Decidable P'] : (bo P).toInt = (bo P').toInt ↔ (P ↔ P') := by
  rw [bo_I, bo_I]; by_cases a : P <;> by_cases b : P' <;> simp [a, b]
theorem icmpneB (X : St p l e R s m args below meth c Z B own nm ml ret n0 T h k n) {pc pc' : Nat} {Ls : Array Slot} {st : List Value} {o : Int} {P P' : Prop} [Decidable P] [Decidable P'] (hd : decode B pc = .ok (.if_icmp .ne o, 3)) (hp : (decide (0 ≤ (pc : Int) + o) && decide (((pc : Int) + o).toNat = pc')) = true)
    (r1 : ¬ (P ↔ P') → Go p e below s n0 Q kC kS (T.setTop (mkF m pc' Ls st))) (r2 : (P ↔ P') → Go p e below s n0 Q kC kS (T.setTop (mkF m (pc + 3) Ls st))) : Go p e below s n0 Q kC kS (T.setTop (mkF m pc Ls (.int (bo P') :: .int (bo P) :: st))) := by
  refine icmp_ X hd hp (fun q => r1 fun z => q ((bo_eq P P').mpr z)) (fun q => r2 (Classical.byContradiction fun z => q fun w => z ((bo_eq P P').mp w)))
theorem icmpeqB (X : St p l e R s m args below meth c Z B own nm ml ret n0 T h k n) {pc pc' : Nat} {Ls : Array Slot} {st : List Value} {o : Int} {P P' : Prop} [Decidable P] [Decidable P'] (hd : decode B pc = .ok (.if_icmp .eq o, 3)) (hp : (decide (0 ≤ (pc : Int) + o) && decide (((pc : Int) + o).toNat = pc')) = true)
    (r1 : (P ↔ P') → Go p e below s n0 Q kC kS (T.setTop (mkF m pc' Ls st))) (r2 : ¬ (P ↔ P') → Go p e below s n0 Q kC kS (T.setTop (mkF m (pc + 3) Ls st))) : Go p e below s n0 Q kC kS (T.setTop (mkF m pc Ls (.int (bo P') :: .int (bo P) :: st))) := by
  refine icmp_ X hd hp (fun q => r1 ((bo_eq P P').mp q)) (fun q => r2 fun z => q ((bo_eq P P').mpr z))
theorem ifnullY (X : St p l e R s m args below meth c Z B own nm ml ret n0 T h k n) {pc pc' : Nat} {Ls : Array Slot} {st : List Value} {o : Int} (hd : decode B pc = .ok (.ifnull o, 3)) (hp : (decide (0 ≤ (pc : Int) + o) && decide (((pc : Int) + o).toNat = pc')) = true)
    (r : Go p e below s n0 Q kC kS (T.setTop (mkF m pc' Ls st))) : Go p e below s n0 Q kC kS (T.setTop (mkF m pc Ls (.null :: st))) := by
  obtain ⟨⟨hx, rfl, -⟩, locs, X, -⟩ := X
  simp only [Bool.and_eq_true, decide_eq_true_eq] at hp
  exact r.st fun u kk => XS.ifnullYes X.here hx rfl rfl hd rfl hp.1 hp.2 kk
theorem ifnonnullY (X : St p l e R s m args below meth c Z B own nm ml ret n0 T h k n) {pc pc' : Nat} {Ls : Array Slot} {st : List Value} {o : Int} {b : Addr} (hd : decode B pc = .ok (.ifnonnull o, 3)) (hp : (decide (0 ≤ (pc : Int) + o) && decide (((pc : Int) + o).toNat = pc')) = true)
    (r : Go p e below s n0 Q kC kS (T.setTop (mkF m pc' Ls st))) : Go p e below s n0 Q kC kS (T.setTop (mkF m pc Ls (.ref b :: st))) := by
  obtain ⟨⟨hx, rfl, -⟩, locs, X, -⟩ := X
  simp only [Bool.and_eq_true, decide_eq_true_eq] at hp
  exact r.st fun u kk => Jvm.Free.XT.ifnonnullYes X.here hx rfl rfl hd rfl hp.1 hp.2 kk
theorem ifnullN (X : St p l e R s m args below meth c Z B own nm ml ret n0 T h k n) {pc : Nat} {Ls : Array Slot} {st : List Value} {o : Int} {b : Addr} (hd : decode B pc = .ok (.ifnull o, 3)) 
    (r : Go p e below s n0 Q kC kS (T.setTop (mkF m (pc + 3) Ls (st)))) : Go p e below s n0 Q kC kS (T.setTop (mkF m pc Ls (.ref b :: st))) := by
  obtain ⟨⟨hx, rfl, -⟩, locs, X, -⟩ := X
  exact r.st fun u kk => XS.ifnullNo X.here hx rfl hd rfl kk
theorem ifnonnullN (X : St p l e R s m args below meth c Z B own nm ml ret n0 T h k n) {pc : Nat} {Ls : Array Slot} {st : List Value} {o : Int} (hd : decode B pc = .ok (.ifnonnull o, 3)) 
    (r : Go p e below s n0 Q kC kS (T.setTop (mkF m (pc + 3) Ls (st)))) : Go p e below s n0 Q kC kS (T.setTop (mkF m pc Ls (.null :: st))) := by
  obtain ⟨⟨hx, rfl, -⟩, locs, X, -⟩ := X
  exact r.st fun u kk => Jvm.Free.XT.ifnonnullNo X.here hx rfl hd rfl kk
/-- a double's number, in units of 2^-1074 -/
def dz (x : UInt64) : Int := FP.Core.zval FP.Core.b64 (FP.Core.val64 x)
theorem nn_val {x : UInt64} (q : NoNaN64 x) : FP.Core.val64 x ≠ .nan := (FP.Core.notNaN_iff x).mp (noNaN64_no.mp q)
theorem dcmp_dz {x y : UInt64} (nx : NoNaN64 x) (ny : NoNaN64 y) : FP.dcmp x y = some (compare (dz x) (dz y)) := FP.Core.dcmp_zval (nn_val nx) (nn_val ny)
theorem cmpV_dz {x y : UInt64} (nx : NoNaN64 x) (ny : NoNaN64 y) (cd : ClassFile.Cond) (o : CmpOp) : cmpI cd (cmpValue (FP.dcmp x y) o).toInt 0 ↔ cmpI cd (dz x) (dz y) := by
  rw [dcmp_dz nx ny]
  have key : (cmpValue (some (compare (dz x) (dz y))) o).toInt = if dz x < dz y then -1 else if dz x = dz y then 0 else 1 := by
    rw [FP.Core.compare_ite]; split
    · cases o <;> rfl
    · split
      · cases o <;> rfl
      · cases o <;> rfl
  rw [key]
  split
  · cases cd <;> simp [cmpI] <;> omega
  · split
    · cases cd <;> simp [cmpI] <;> omega
    · cases cd <;> simp [cmpI] <;> omega
/-- dcmpl | dcmpg and the branch behind it, of two that are no NaN -/
theorem dcmpF (X : St p l e R s m args below meth c Z B own nm ml ret n0 T h k n) {pc pc' : Nat} {Ls : Array Slot} {st : List Value} {cd : ClassFile.Cond} {op : CmpOp} {o : Int} {x y : UInt64} (hd1 : decode B pc = .ok (.dcmp op, 1)) (hd : decode B (pc + 1) = .ok (.ifCond cd o, 3)) (hp : (decide (0 ≤ ((pc + 1 : Nat) : Int) + o) && decide ((((pc + 1 : Nat) : Int) + o).toNat = pc')) = true) (nx : NoNaN64 x) (ny : NoNaN64 y)
    (r1 : cmpI cd (dz x) (dz y) → Go p e below s n0 Q kC kS (T.setTop (mkF m pc' Ls st))) (r2 : ¬ cmpI cd (dz x) (dz y) → Go p e below s n0 Q kC kS (T.setTop (mkF m (pc + 1 + 3) Ls st))) : Go p e below s n0 Q kC kS (T.setTop (mkF m pc Ls (.double y :: .double x :: st))) := by
  have r : Go p e below s n0 Q kC kS (T.setTop (mkF m (pc + 1) Ls (.int (cmpValue (FP.dcmp x y) op) :: st))) :=
    iff_ X hd hp (fun q => r1 ((cmpV_dz nx ny cd op).mp q)) (fun q => r2 fun z => q ((cmpV_dz nx ny cd op).mpr z))
  obtain ⟨⟨hx, rfl, -⟩, locs, X, -⟩ := X
  exact r.st fun u kk => XS.dcmpS X.here hx rfl hd1 rfl rfl kk
theorem cmpL_I (x y : Int64) (cd : ClassFile.Cond) : cmpI cd (Jvm.Free.XT.cmpL x y).toInt 0 ↔ cmpI cd x.toInt y.toInt := by
  have key : (Jvm.Free.XT.cmpL x y).toInt = if y.toInt < x.toInt then 1 else if x.toInt = y.toInt then 0 else -1 := by
    simp only [Jvm.Free.XT.cmpL, Int64.lt_iff_toInt_lt, ← Int64.toInt_inj]
    split
    · rfl
    · split <;> rfl
  rw [key]
  split
  · cases cd <;> simp [cmpI] <;> omega
  · split
    · cases cd <;> simp [cmpI] <;> omega
    · cases cd <;> simp [cmpI] <;> omega
theorem lcmpF (X : St p l e R s m args below meth c Z B own nm ml ret n0 T h k n) {pc pc' : Nat} {Ls : Array Slot} {st : List Value} {cd : ClassFile.Cond} {o : Int} {x y : Int64} (hd1 : decode B pc = .ok (.lcmp, 1)) (hd : decode B (pc + 1) = .ok (.ifCond cd o, 3)) (hp : (decide (0 ≤ ((pc + 1 : Nat) : Int) + o) && decide ((((pc + 1 : Nat) : Int) + o).toNat = pc')) = true)
    (r1 : cmpI cd x.toInt y.toInt → Go p e below s n0 Q kC kS (T.setTop (mkF m pc' Ls st))) (r2 : ¬ cmpI cd x.toInt y.toInt → Go p e below s n0 Q kC kS (T.setTop (mkF m (pc + 1 + 3) Ls st))) : Go p e below s n0 Q kC kS (T.setTop (mkF m pc Ls (.long y :: .long x :: st))) := by
  have r : Go p e below s n0 Q kC kS (T.setTop (mkF m (pc + 1) Ls (.int (Jvm.Free.XT.cmpL x y) :: st))) :=
    iff_ X hd hp (fun q => r1 ((cmpL_I x y cd).mp q)) (fun q => r2 fun z => q ((cmpL_I x y cd).mpr z))
  obtain ⟨⟨hx, rfl, -⟩, locs, X, -⟩ := X
  exact r.st fun u kk => Jvm.Free.XT.lcmp X.here hx rfl hd1 rfl kk
theorem ldcI (X : St p l e R s m args below meth c Z B own nm ml ret n0 T h k n) {a0 : Array Value} {pc index : Nat} {Ls : Array Slot} {st : List Value} {v : Int32} (hd : decode B pc = .ok (.ldc index, 2)) (w : (Cond.constant own index v).before a0 Z = true)
    (r : Go p e below s n0 Q kC kS (T.setTop (mkF m (pc + 2) Ls (.int v :: st)))) : Go p e below s n0 Q kC kS (T.setTop (mkF m pc Ls st)) := by
  obtain ⟨⟨hx, rfl, hZ, hown, -⟩, locs, X, -⟩ := X
  exact r.st fun u kk => X.ldcInt (g := mkF m pc Ls st) hx hown (mvT hZ w) rfl hd u kk
theorem ldc2J (X : St p l e R s m args below meth c Z B own nm ml ret n0 T h k n) {a0 : Array Value} {pc index : Nat} {Ls : Array Slot} {st : List Value} {v : Int64} (hd : decode B pc = .ok (.ldc2_w index, 3)) (w : (Cond.constantLong own index v).before a0 Z = true)
    (r : Go p e below s n0 Q kC kS (T.setTop (mkF m (pc + 3) Ls (.long v :: st)))) : Go p e below s n0 Q kC kS (T.setTop (mkF m pc Ls st)) := by
  obtain ⟨⟨hx, rfl, hZ, hown, -⟩, locs, X, -⟩ := X
  exact r.st fun u kk => X.ldc2Long (g := mkF m pc Ls st) hx hown (mvT hZ w) rfl hd u kk
theorem ldc2D (X : St p l e R s m args below meth c Z B own nm ml ret n0 T h k n) {a0 : Array Value} {pc index : Nat} {Ls : Array Slot} {st : List Value} {v : UInt64} (hd : decode B pc = .ok (.ldc2_w index, 3)) (w : (Cond.constantDouble own index v).before a0 Z = true)
    (r : Go p e below s n0 Q kC kS (T.setTop (mkF m (pc + 3) Ls (.double v :: st)))) : Go p e below s n0 Q kC kS (T.setTop (mkF m pc Ls st)) := by
  obtain ⟨⟨hx, rfl, hZ, hown, -⟩, locs, X, -⟩ := X
  exact r.st fun u kk => X.ldc2DoubleC (g := mkF m pc Ls st) hx hown (mvT hZ w) rfl hd u kk
theorem leaveG (X : St p l e R s m args below meth c Z B own nm ml ret n0 T h k n) {v : Option Value} {t : State} (hv : meth.sig.returnType = none → v = none) (hQ : Q v h) (hk : k ≤ kC) (hn : n ≤ kS)
    (st : ∀ (locs : List Loc) (fs : List Frame), p.tables.exec = Jvm.exec → c.code = B → meth.sig.returnType = ret → Stand p l e R s m args below meth c T locs k n → (∀ (f : JFrame) (acts : List Action), f.method = m → f.locked = none → f.entered = [] → (doReturn e (T.setTop f) acts v).1 = T.setFrames fs) → Steps p.tables e below t (T.setFrames fs)) : Go p e below s n0 Q kC kS t := by
  obtain ⟨⟨hx, hby, hZ, hown, hml, hret, hlocks, hnm⟩, locs, X, eT, N⟩ := X
  obtain ⟨fs, hr, hrun, hended, hW, hsame⟩ := X.leave (v := v) hv hlocks
  refine ⟨_, _, st locs fs hx hby hret X hr, hrun, hended, _, _, rfl, ⟨?_, N⟩, ⟨_, rfl⟩, hW, hsame.mono hk hn⟩
  show Q v T.heap
  rw [eT]; exact hQ
theorem retV (X : St p l e R s m args below meth c Z B own nm ml none n0 T h k n) {pc : Nat} {Ls : Array Slot} (hd : decode B pc = .ok (.return_, 1)) (hQ : Q none h) (hk : k ≤ kC) (hn : n ≤ kS) : Go p e below s n0 Q kC kS (T.setTop (mkF m pc Ls [])) :=
  leaveG X (v := none) (fun _ => rfl) hQ hk hn fun locs fs hx hby hret X hr => X.returnOut hx hret (by rw [hby]; exact hd) hr
theorem retB (X : St p l e R s m args below meth c Z B own nm ml (some .boolean) n0 T h k n) {pc : Nat} {Ls : Array Slot} {st : List Value} {z : Int32} (hd : decode B pc = .ok (.ireturn, 1)) (hz : z &&& 1 = z) (hQ : Q (some (.int z)) h) (hk : k ≤ kC) (hn : n ≤ kS) : Go p e below s n0 Q kC kS (T.setTop (mkF m pc Ls (.int z :: st))) :=
  leaveG X (v := some (.int z)) (fun q => by rw [X.1.2.2.2.2.2.1] at q; cases q) hQ hk hn fun locs fs hx hby hret X hr => retN X hx (t := .boolean) hret (by simp) (by rw [hby]; exact hd) (by intro f acts h1 h2 h3; rw [show nar .boolean z = z from hz]; exact hr f acts h1 h2 h3)
theorem bo_and (P : Prop) [Decidable P] : bo P &&& 1 = bo P := by unfold bo; split <;> decide
theorem retO (w : Value) (t : FieldType) {i : Instr} (X : St p l e R s m args below meth c Z B own nm ml (some t) n0 T h k n) {pc : Nat} {Ls : Array Slot} {st : List Value} (hd : decode B pc = .ok (i, 1)) (hw : narrow t w = w)
    (hi : (i = .ireturn ∧ (t = .int ∨ t = .boolean ∨ t = .byte ∨ t = .char ∨ t = .short) ∧ ∃ z, w = .int z) ∨ (i = .lreturn ∧ t = .long ∧ ∃ z, w = .long z) ∨ (i = .dreturn ∧ t = .double ∧ ∃ z, w = .double z) ∨ (i = .freturn ∧ t = .float ∧ ∃ z, w = .float z) ∨ (i = .areturn ∧ t.isReference = true ∧ w.isRef = true))
    (hQ : Q (some w) h) (hk : k ≤ kC) (hn : n ≤ kS) : Go p e below s n0 Q kC kS (T.setTop (mkF m pc Ls (w :: st))) :=
  leaveG X (v := some w) (fun q => by rw [X.1.2.2.2.2.2.1] at q; cases q) hQ hk hn fun locs fs hx hby hret X hr => retOut X hx hret hw hi (by rw [hby]; exact hd) hr
theorem retI (X : St p l e R s m args below meth c Z B own nm ml (some .int) n0 T h k n) {pc : Nat} {Ls : Array Slot} {st : List Value} {z : Int32} (hd : decode B pc = .ok (.ireturn, 1)) (hQ : Q (some (.int z)) h) (hk : k ≤ kC) (hn : n ≤ kS) : Go p e below s n0 Q kC kS (T.setTop (mkF m pc Ls (.int z :: st))) :=
  retO (.int z) .int X hd rfl (Or.inl ⟨rfl, Or.inl rfl, z, rfl⟩) hQ hk hn
theorem retD (X : St p l e R s m args below meth c Z B own nm ml (some .double) n0 T h k n) {pc : Nat} {Ls : Array Slot} {st : List Value} {z : UInt64} (hd : decode B pc = .ok (.dreturn, 1)) (hQ : Q (some (.double z)) h) (hk : k ≤ kC) (hn : n ≤ kS) : Go p e below s n0 Q kC kS (T.setTop (mkF m pc Ls (.double z :: st))) :=
  retO (.double z) .double X hd rfl (Or.inr (Or.inr (Or.inl ⟨rfl, rfl, z, rfl⟩))) hQ hk hn
theorem retA {t : FieldType} (X : St p l e R s m args below meth c Z B own nm ml (some t) n0 T h k n) {pc : Nat} {Ls : Array Slot} {st : List Value} {v : Value} (hd : decode B pc = .ok (.areturn, 1)) (ht : t.isReference = true) (hv : v.isRef = true) (hw : narrow t v = v) (hQ : Q (some v) h) (hk : k ≤ kC) (hn : n ≤ kS) : Go p e below s n0 Q kC kS (T.setTop (mkF m pc Ls (v :: st))) :=
  retO v t X hd hw (Or.inr (Or.inr (Or.inr (Or.inr ⟨rfl, ht, hv⟩)))) hQ hk hn
theorem getF_ (X : St p l e R s m args below meth c Z B own nm ml ret n0 T h k n) {a0 : Array Value} {R0 O f d host : String} {index pc : Nat} {Ls : Array Slot} {st : List Value} {a : Addr} {v : Value} (hd : decode B pc = .ok (.getfield index, 3)) (w : (Cond.fieldLink own index R0 f d).before a0 Z = true ∨ (Cond.fieldLinkNest own index R0 f d host).before a0 Z = true) (via : Via Z R0 O f d) (F : Fld Z h a O f d v)
    (r : ∀ T', St p l e R s m args below meth c Z B own nm ml ret n0 T' h k n → Go p e below s n0 Q kC kS (T'.setTop (mkF m (pc + 3) Ls (v :: st)))) : Go p e below s n0 Q kC kS (T.setTop (mkF m pc Ls (.ref a :: st))) := by
  obtain ⟨⟨hx, hby, hZ, hown, q⟩, locs, X, eT, N⟩ := X
  obtain ⟨T', X', e', st'⟩ := getF X hx hZ hown w via eT F (g := mkF m pc Ls (.ref a :: st)) rfl rfl (by rw [hby]; exact hd)
  exact (r T' ⟨⟨hx, hby, hZ, hown, q⟩, locs, X', e', N⟩).st st'
theorem putF_ (X : St p l e R s m args below meth c Z B own nm ml ret n0 T h k n) {a0 : Array Value} {R0 O f d host C : String} {index kk pc : Nat} {ty : FieldType} {Ls : Array Slot} {st : List Value} {a : Addr} {v old : Value} (hd : decode B pc = .ok (.putfield index, 3)) (w : (Cond.fieldLink own index R0 f d).before a0 Z = true ∨ (Cond.fieldLinkNest own index R0 f d host).before a0 Z = true) (via : Via Z R0 O f d) (F : Fld Z h a O f d old) (E : Exa Z h a C)
    (L : (Cond.lays C O f d).before a0 Z = true ∨ ((Cond.laysFinal C O f d).before a0 Z = true ∧ own = O ∧ nm = "<init>")) (wi : (Cond.instantiable C kk).before a0 Z = true) (hty : parseFieldDescriptor d = some ty) (hv : narrow ty v = v) (hf : fits ty v = true) (ha : n0 ≤ a)
    (r : ∀ T' h', St p l e R s m args below meth c Z B own nm ml ret n0 T' h' k n → Wr h h' a (Jvm.RoadKit.slotOf Z O f d) v → Go p e below s n0 Q kC kS (T'.setTop (mkF m (pc + 3) Ls st))) : Go p e below s n0 Q kC kS (T.setTop (mkF m pc Ls (v :: .ref a :: st))) := by
  obtain ⟨⟨hx, hby, hZ, hown, q1, q2, q3, q4⟩, locs, X, eT, N⟩ := X
  obtain ⟨T', h', X', e', W', st'⟩ := putF X hx hZ hown w via eT F E (L.imp id fun ⟨z1, z2, z3⟩ => ⟨z1, z2, q4.trans z3⟩) wi hty hv hf (g := mkF m pc Ls (v :: .ref a :: st)) rfl rfl (by rw [hby]; exact hd)
  exact (r T' h' ⟨⟨hx, hby, hZ, hown, q1, q2, q3, q4⟩, _, X', e', Fr.snoc X' N ha⟩ W').st st'
theorem getS_ (X : St p l e R s m args below meth c Z B own nm ml ret n0 T h k n) {a0 : Array Value} {R0 O f d host : String} {index pc : Nat} {Ls : Array Slot} {st : List Value} {v : Value} (hd : decode B pc = .ok (.getstatic index, 3)) (w : (Cond.fieldLink own index R0 f d).before a0 Z = true ∨ (Cond.fieldLinkNest own index R0 f d host).before a0 Z = true) (via : Via Z R0 O f d) (F : Sta Z h O f d v)
    (r : ∀ T', St p l e R s m args below meth c Z B own nm ml ret n0 T' h k n → Go p e below s n0 Q kC kS (T'.setTop (mkF m (pc + 3) Ls (v :: st)))) : Go p e below s n0 Q kC kS (T.setTop (mkF m pc Ls st)) := by
  obtain ⟨⟨hx, hby, hZ, hown, q⟩, locs, X, eT, N⟩ := X
  obtain ⟨T', X', e', st'⟩ := getS2 X hx hZ hown w via eT F (g := mkF m pc Ls st) rfl (by rw [hby]; exact hd)
  exact (r T' ⟨⟨hx, hby, hZ, hown, q⟩, locs, X', e', N⟩).st st'
theorem newO_ (X : St p l e R s m args below meth c Z B own nm ml ret n0 T h k n) {a0 : Array Value} {C : String} {index cnt pc : Nat} {Ls : Array Slot} {st : List Value} (hd : decode B pc = .ok (.new index, 3)) (w : (Cond.classLink own index C).before a0 Z = true) (wi : (Cond.instantiable C cnt).before a0 Z = true) (wz : (Cond.initialized C).before a0 Z = true) (hc : k + 1 ≤ R.cells) (hl : n + cnt ≤ R.slots)
    (r : ∀ T' h' a, a = h.size → St p l e R s m args below meth c Z B own nm ml ret n0 T' h' (k + 1) (n + cnt) → Ext h h' → Exa Z h' a C → (∀ {O f d : String} {ty : FieldType}, Laid Z a0 C O f d → parseFieldDescriptor d = some ty → Fld Z h' a O f d (defaultValue ty)) → Go p e below s n0 Q kC kS (T'.setTop (mkF m (pc + 3) Ls (.ref a :: st)))) : Go p e below s n0 Q kC kS (T.setTop (mkF m pc Ls st)) := by
  obtain ⟨⟨hx, hby, hZ, hown, q⟩, locs, X, eT, N⟩ := X
  obtain ⟨T', h', X', e', E', A', D', -, st'⟩ := newO X hx hZ hown w wi wz eT (g := mkF m pc Ls st) rfl (by rw [hby]; exact hd) hc hl
  exact (r T' h' _ rfl ⟨⟨hx, hby, hZ, hown, q⟩, locs, X', e', N⟩ E' A' D').st st'
theorem initO_ (X : St p l e R s m args below meth c Z B own nm ml ret n0 T h k n) {a0 : Array Value} {idx W pc : Nat} {Ls : Array Slot} {st : List Value} {a : Addr} (hd : decode B pc = .ok (.invokespecial idx, 3)) (w1 : (Cond.methodLink own idx Lib.objectInit).before a0 Z = true) (w2 : (Cond.instanceMethod Lib.objectInit).before a0 Z = true) (w3 : (Cond.code Lib.objectInit ⟨#[0xb1]⟩ 1 none).before a0 Z = true) (hsz : Ls.size = ml)
    (hf : 1 ≤ R.frames) (hW : 2 * 0 + (st.map fun v => v.category).sum ≤ W) (hl : W + 12 ≤ R.locals)
    (r : ∀ T', St p l e R s m args below meth c Z B own nm ml ret n0 T' h k n → Go p e below s n0 Q kC kS (T'.setTop (mkF m (pc + 3) Ls st))) : Go p e below s n0 Q kC kS (T.setTop (mkF m pc Ls (.ref a :: st))) := by
  obtain ⟨⟨hx, hby, hZ, hown, hml, q⟩, locs, X, eT, N⟩ := X
  obtain ⟨T', X', e', st'⟩ := initO X hx hZ hown w1 w2 w3 eT (g := mkF m pc Ls (.ref a :: st)) rfl (by rw [hml]; exact hsz) rfl (by rw [hby]; exact hd) hf hW hl
  exact (r T' ⟨⟨hx, hby, hZ, hown, hml, q⟩, locs, X', e', N⟩).st st'

theorem newP_ (X : St p l e R s m args below meth c Z B own nm ml ret n0 T h k n) {a0 : Array Value} {aty : ArrayType} {z : Int32} {pc : Nat} {Ls : Array Slot} {st : List Value} (cap : Nat) (ty : FieldType) (dv : Value) (ad : String) (hd : decode B pc = .ok (.newarray aty, 2)) (hty : newarray.typeOf aty = ty) (hdv : defaultValue ty = dv) (had : "[" ++ ty.toString = ad) (w : (Cond.arrayClass ty).before a0 Z = true) (hz : ¬ z < 0) (hcap : z.toNatClampNeg ≤ cap) (hb : cap * 8 ≤ 536870912) (hc : k + 1 ≤ R.cells) (hl : n + cap ≤ R.slots)
    (r : ∀ T' h' a kk, a = h.size → St p l e R s m args below meth c Z B own nm ml ret n0 T' h' (k + 1) (n + cap) → Ext h h' → Arv Z h' a kk ty z [] dv → Exa Z h' a ad → Go p e below s n0 Q kC kS (T'.setTop (mkF m (pc + 2) Ls (.ref a :: st)))) : Go p e below s n0 Q kC kS (T.setTop (mkF m pc Ls (.int z :: st))) := by
  subst hty hdv
  obtain ⟨⟨hx, hby, hZ, q⟩, locs, X, eT, N⟩ := X
  obtain ⟨T', h', cA, X', e', E', A', G', st'⟩ := newPE X hx hZ w eT (g := mkF m pc Ls (.int z :: st)) rfl (by rw [hby]; exact hd) rfl hz hcap hb hc hl had
  exact (r T' h' _ cA rfl ⟨⟨hx, hby, hZ, q⟩, locs, X', e', N⟩ E' (Arv.new A' hz) G').st st'
theorem alen_ (X : St p l e R s m args below meth c Z B own nm ml ret n0 T h k n) {kk : ClassId} {ty : FieldType} {z : Int32} {vs : List Value} {dv : Value} {a : Addr} {pc : Nat} {Ls : Array Slot} {st : List Value} (hd : decode B pc = .ok (.arraylength, 1)) (A : Arv Z h a kk ty z vs dv)
    (r : Go p e below s n0 Q kC kS (T.setTop (mkF m (pc + 1) Ls (.int z :: st)))) : Go p e below s n0 Q kC kS (T.setTop (mkF m pc Ls (.ref a :: st))) := by
  obtain ⟨⟨hx, rfl, hZ, -⟩, locs, X, eT, -⟩ := X
  obtain ⟨cl, A, -, S, hz, -⟩ := A
  rw [← len_of S hz] at r
  exact r.st fun u kk => X.arraylength (g := mkF m pc Ls (.ref a :: st)) hx (by rw [eT]; exact A.1) (State.isArrayOf_alike hZ.alike A.2.1) rfl rfl hd u kk
theorem daload_ (X : St p l e R s m args below meth c Z B own nm ml ret n0 T h k n) {kk : ClassId} {z j : Int32} {vs : List Value} {dv : Value} {v : UInt64} {a : Addr} {pc : Nat} {Ls : Array Slot} {st : List Value} (hd : decode B pc = .ok (.daload, 1)) (A : Arv Z h a kk .double z vs dv) (hj : ¬ j < 0 ∧ j < z) (hv : vs.getD j.toNatClampNeg dv = .double v)
    (r : Go p e below s n0 Q kC kS (T.setTop (mkF m (pc + 1) Ls (.double v :: st)))) : Go p e below s n0 Q kC kS (T.setTop (mkF m pc Ls (.int j :: .ref a :: st))) := by
  obtain ⟨⟨hx, rfl, hZ, -⟩, locs, X, eT, -⟩ := X
  obtain ⟨cl, A, -, S, hz, H, -⟩ := A
  exact r.st fun u kk => X.daload (g := mkF m pc Ls (.int j :: .ref a :: st)) hx (by rw [eT]; exact A.1) (State.isArrayOf_alike hZ.alike A.2.1) A.2.2 (inb_of S hj) (H.at (inb_of S hj) hv) rfl rfl hd u kk
theorem iaload_ (X : St p l e R s m args below meth c Z B own nm ml ret n0 T h k n) {kk : ClassId} {z j : Int32} {vs : List Value} {dv : Value} {v : Int32} {a : Addr} {pc : Nat} {Ls : Array Slot} {st : List Value} (hd : decode B pc = .ok (.iaload, 1)) (A : Arv Z h a kk .int z vs dv) (hj : ¬ j < 0 ∧ j < z) (hv : vs.getD j.toNatClampNeg dv = .int v)
    (r : Go p e below s n0 Q kC kS (T.setTop (mkF m (pc + 1) Ls (.int v :: st)))) : Go p e below s n0 Q kC kS (T.setTop (mkF m pc Ls (.int j :: .ref a :: st))) := by
  obtain ⟨⟨hx, rfl, hZ, -⟩, locs, X, eT, -⟩ := X
  obtain ⟨cl, A, -, S, hz, H, -⟩ := A
  exact r.st fun u kk => X.iaload (g := mkF m pc Ls (.int j :: .ref a :: st)) hx (by rw [eT]; exact A.1) (State.isArrayOf_alike hZ.alike A.2.1) A.2.2 (inb_of S hj) (H.at (inb_of S hj) hv) rfl rfl hd u kk
theorem laload_ (X : St p l e R s m args below meth c Z B own nm ml ret n0 T h k n) {kk : ClassId} {z j : Int32} {vs : List Value} {dv : Value} {v : Int64} {a : Addr} {pc : Nat} {Ls : Array Slot} {st : List Value} (hd : decode B pc = .ok (.laload, 1)) (A : Arv Z h a kk .long z vs dv) (hj : ¬ j < 0 ∧ j < z) (hv : vs.getD j.toNatClampNeg dv = .long v)
    (r : Go p e below s n0 Q kC kS (T.setTop (mkF m (pc + 1) Ls (.long v :: st)))) : Go p e below s n0 Q kC kS (T.setTop (mkF m pc Ls (.int j :: .ref a :: st))) := by
  obtain ⟨⟨hx, rfl, hZ, -⟩, locs, X, eT, -⟩ := X
  obtain ⟨cl, A, -, S, hz, H, -⟩ := A
  exact r.st fun u kk => X.laload (g := mkF m pc Ls (.int j :: .ref a :: st)) hx (by rw [eT]; exact A.1) (State.isArrayOf_alike hZ.alike A.2.1) A.2.2 (inb_of S hj) (H.at (inb_of S hj) hv) rfl rfl hd u kk
theorem aaload_ (X : St p l e R s m args below meth c Z B own nm ml ret n0 T h k n) {kk : ClassId} {ty : FieldType} {z j : Int32} {vs : List Value} {dv v : Value} {a : Addr} {pc : Nat} {Ls : Array Slot} {st : List Value} (hd : decode B pc = .ok (.aaload, 1)) (A : Arv Z h a kk ty z vs dv) (hty : ty.isReference = true) (hj : ¬ j < 0 ∧ j < z) (hv : vs.getD j.toNatClampNeg dv = v)
    (r : Go p e below s n0 Q kC kS (T.setTop (mkF m (pc + 1) Ls (v :: st)))) : Go p e below s n0 Q kC kS (T.setTop (mkF m pc Ls (.int j :: .ref a :: st))) := by
  obtain ⟨⟨hx, rfl, hZ, -⟩, locs, X, eT, -⟩ := X
  obtain ⟨cl, A, -, S, hz, H, -⟩ := A
  exact r.st fun u kk => X.aaload (g := mkF m pc Ls (.int j :: .ref a :: st)) hx (by rw [eT]; exact A.1) (State.isArrayOf_alike hZ.alike A.2.1) hty A.2.2 (inb_of S hj) (H.at (inb_of S hj) hv) rfl rfl hd u kk
theorem dastore_ (X : St p l e R s m args below meth c Z B own nm ml ret n0 T h k n) {kk : ClassId} {z j : Int32} {vs : List Value} {dv : Value} {v : UInt64} {a : Addr} {pc : Nat} {Ls : Array Slot} {st : List Value} (i : Nat) (hd : decode B pc = .ok (.dastore, 1)) (A : Arv Z h a kk .double z vs dv) (hj : ¬ j < 0 ∧ j < z) (hi : j.toNatClampNeg = i) (hl : i < vs.length) (ha : n0 ≤ a)
    (r : ∀ T' h', St p l e R s m args below meth c Z B own nm ml ret n0 T' h' k n → Wr h h' a j.toNatClampNeg (.double v) → Arv Z h' a kk .double z (vs.set i (.double v)) dv → Go p e below s n0 Q kC kS (T'.setTop (mkF m (pc + 1) Ls st))) : Go p e below s n0 Q kC kS (T.setTop (mkF m pc Ls (.double v :: .int j :: .ref a :: st))) := by
  obtain ⟨⟨hx, hby, hZ, q⟩, locs, X, eT, N⟩ := X
  obtain ⟨cl, A, q1, S, hz, H, F⟩ := A
  obtain ⟨T', h', X', e', W', st'⟩ := stD X hx hZ eT A (inb_of S hj) (g := mkF m pc Ls (.double v :: .int j :: .ref a :: st)) rfl rfl (by rw [hby]; exact hd)
  exact (r T' h' ⟨⟨hx, hby, hZ, q⟩, _, X', e', Fr.snoc X' N ha⟩ W' (Arv.set A q1 S hz H F rfl W' i hi hl)).st st'
theorem iastore_ (X : St p l e R s m args below meth c Z B own nm ml ret n0 T h k n) {kk : ClassId} {z j : Int32} {vs : List Value} {dv : Value} {v : Int32} {a : Addr} {pc : Nat} {Ls : Array Slot} {st : List Value} (i : Nat) (hd : decode B pc = .ok (.iastore, 1)) (A : Arv Z h a kk .int z vs dv) (hj : ¬ j < 0 ∧ j < z) (hi : j.toNatClampNeg = i) (hl : i < vs.length) (ha : n0 ≤ a)
    (r : ∀ T' h', St p l e R s m args below meth c Z B own nm ml ret n0 T' h' k n → Wr h h' a j.toNatClampNeg (.int v) → Arv Z h' a kk .int z (vs.set i (.int v)) dv → Go p e below s n0 Q kC kS (T'.setTop (mkF m (pc + 1) Ls st))) : Go p e below s n0 Q kC kS (T.setTop (mkF m pc Ls (.int v :: .int j :: .ref a :: st))) := by
  obtain ⟨⟨hx, hby, hZ, q⟩, locs, X, eT, N⟩ := X
  obtain ⟨cl, A, q1, S, hz, H, F⟩ := A
  obtain ⟨T', h', X', e', W', st'⟩ := stI X hx hZ eT A (inb_of S hj) (g := mkF m pc Ls (.int v :: .int j :: .ref a :: st)) rfl rfl (by rw [hby]; exact hd)
  exact (r T' h' ⟨⟨hx, hby, hZ, q⟩, _, X', e', Fr.snoc X' N ha⟩ W' (Arv.set A q1 S hz H F rfl W' i hi hl)).st st'
theorem lastore_ (X : St p l e R s m args below meth c Z B own nm ml ret n0 T h k n) {kk : ClassId} {z j : Int32} {vs : List Value} {dv : Value} {v : Int64} {a : Addr} {pc : Nat} {Ls : Array Slot} {st : List Value} (i : Nat) (hd : decode B pc = .ok (.lastore, 1)) (A : Arv Z h a kk .long z vs dv) (hj : ¬ j < 0 ∧ j < z) (hi : j.toNatClampNeg = i) (hl : i < vs.length) (ha : n0 ≤ a)
    (r : ∀ T' h', St p l e R s m args below meth c Z B own nm ml ret n0 T' h' k n → Wr h h' a j.toNatClampNeg (.long v) → Arv Z h' a kk .long z (vs.set i (.long v)) dv → Go p e below s n0 Q kC kS (T'.setTop (mkF m (pc + 1) Ls st))) : Go p e below s n0 Q kC kS (T.setTop (mkF m pc Ls (.long v :: .int j :: .ref a :: st))) := by
  obtain ⟨⟨hx, hby, hZ, q⟩, locs, X, eT, N⟩ := X
  obtain ⟨cl, A, q1, S, hz, H, F⟩ := A
  obtain ⟨T', h', X', e', W', st'⟩ := stJ X hx hZ eT A (inb_of S hj) (g := mkF m pc Ls (.long v :: .int j :: .ref a :: st)) rfl rfl (by rw [hby]; exact hd)
  exact (r T' h' ⟨⟨hx, hby, hZ, q⟩, _, X', e', Fr.snoc X' N ha⟩ W' (Arv.set A q1 S hz H F rfl W' i hi hl)).st st'
theorem newRA_ (X : St p l e R s m args below meth c Z B own nm ml ret n0 T h k n) {a0 : Array Value} {C ad : String} {ty : FieldType} {index : Nat} {z : Int32} {pc : Nat} {Ls : Array Slot} {st : List Value} (cap : Nat) (hd : decode B pc = .ok (.anewarray index, 3)) (hC : (FieldType.array ty).toString = C) (had : "[" ++ C = ad) (w1 : (Cond.classLink own index C).before a0 Z = true) (w2 : (Cond.arrayOver (.array ty)).before a0 Z = true) (hz : ¬ z < 0) (hcap : z.toNatClampNeg ≤ cap) (hb : cap * 8 ≤ 536870912) (hc : k + 1 ≤ R.cells) (hl : n + cap ≤ R.slots)
    (r : ∀ T' h' a kk, a = h.size → St p l e R s m args below meth c Z B own nm ml ret n0 T' h' (k + 1) (n + cap) → Ext h h' → Arv Z h' a kk (.array ty) z [] .null → Exa Z h' a ad → OvrA Z kk ty C → Go p e below s n0 Q kC kS (T'.setTop (mkF m (pc + 3) Ls (.ref a :: st)))) : Go p e below s n0 Q kC kS (T.setTop (mkF m pc Ls (.int z :: st))) := by
  obtain ⟨⟨hx, hby, hZ, hown, q⟩, locs, X, eT, N⟩ := X
  obtain ⟨T', h', cA, X', e', E', A', G', O', st'⟩ := newRA X hx hZ hown hC w1 w2 eT (g := mkF m pc Ls (.int z :: st)) rfl (by rw [hby]; exact hd) rfl hz hcap hb hc hl had
  exact (r T' h' _ cA rfl ⟨⟨hx, hby, hZ, hown, q⟩, locs, X', e', N⟩ E' (Arv.new A' hz) G' O').st st'
theorem newRE_ (X : St p l e R s m args below meth c Z B own nm ml ret n0 T h k n) {a0 : Array Value} {C ad : String} {index : Nat} {z : Int32} {pc : Nat} {Ls : Array Slot} {st : List Value} (cap : Nat) (hd : decode B pc = .ok (.anewarray index, 3)) (had : "[" ++ (FieldType.object C).toString = ad) (w1 : (Cond.classLink own index C).before a0 Z = true) (w2 : (Cond.arrayOver (.object C)).before a0 Z = true) (hz : ¬ z < 0) (hcap : z.toNatClampNeg ≤ cap) (hb : cap * 8 ≤ 536870912) (hc : k + 1 ≤ R.cells) (hl : n + cap ≤ R.slots)
    (r : ∀ T' h' a kk, a = h.size → St p l e R s m args below meth c Z B own nm ml ret n0 T' h' (k + 1) (n + cap) → Ext h h' → Arv Z h' a kk (.object C) z [] .null → Exa Z h' a ad → Ovr Z kk C → Go p e below s n0 Q kC kS (T'.setTop (mkF m (pc + 3) Ls (.ref a :: st)))) : Go p e below s n0 Q kC kS (T.setTop (mkF m pc Ls (.int z :: st))) := by
  obtain ⟨⟨hx, hby, hZ, hown, q⟩, locs, X, eT, N⟩ := X
  obtain ⟨T', h', cA, X', e', E', A', G', O', st'⟩ := newRE X hx hZ hown w1 w2 eT (g := mkF m pc Ls (.int z :: st)) rfl (by rw [hby]; exact hd) rfl hz hcap hb hc hl had
  exact (r T' h' _ cA rfl ⟨⟨hx, hby, hZ, hown, q⟩, locs, X', e', N⟩ E' (Arv.new A' hz) G' O').st st'
theorem aastore_ (X : St p l e R s m args below meth c Z B own nm ml ret n0 T h k n) {kk : ClassId} {ty : FieldType} {z j : Int32} {vs : List Value} {dv v : Value} {a : Addr} {pc : Nat} {Ls : Array Slot} {st : List Value} (i : Nat) (hd : decode B pc = .ok (.aastore, 1)) (A : Arv Z h a kk ty z vs dv) (hty : ty.isReference = true) (hj : ¬ j < 0 ∧ j < z) (hi : j.toNatClampNeg = i) (hl : i < vs.length) (ha : n0 ≤ a) (hf : fits ty v = true) (F : ∀ cl : Cell, Arr Z h a cl ty → cl.cls = kk → Sto Z h a v)
    (r : ∀ T' h', St p l e R s m args below meth c Z B own nm ml ret n0 T' h' k n → Wr h h' a j.toNatClampNeg v → Arv Z h' a kk ty z (vs.set i v) dv → Go p e below s n0 Q kC kS (T'.setTop (mkF m (pc + 1) Ls st))) : Go p e below s n0 Q kC kS (T.setTop (mkF m pc Ls (v :: .int j :: .ref a :: st))) := by
  obtain ⟨⟨hx, hby, hZ, q⟩, locs, X, eT, N⟩ := X
  obtain ⟨cl, A, q1, S, hz, H, G⟩ := A
  obtain ⟨T', h', X', e', W', st'⟩ := stR X hx hZ eT A (inb_of S hj) hty (F cl A q1) (g := mkF m pc Ls (v :: .int j :: .ref a :: st)) rfl rfl (by rw [hby]; exact hd)
  exact (r T' h' ⟨⟨hx, hby, hZ, q⟩, _, X', e', Fr.snoc X' N ha⟩ W' (Arv.set A q1 S hz H G hf W' i hi hl)).st st'
theorem acmp_ (X : St p l e R s m args below meth c Z B own nm ml ret n0 T h k n) {cd : ACond} {pc pc' : Nat} {Ls : Array Slot} {st : List Value} {o : Int} {x y : Value} {same : Bool} (hd : decode B pc = .ok (.if_acmp cd o, 3)) (h1 : x.isRef = true) (h2 : y.isRef = true) (hq : decide (x = y) = same) (ho : 0 ≤ (pc : Int) + o) (hp : pc' = if acV cd same = true then ((pc : Int) + o).toNat else pc + 3)
    (r : Go p e below s n0 Q kC kS (T.setTop (mkF m pc' Ls st))) : Go p e below s n0 Q kC kS (T.setTop (mkF m pc Ls (y :: x :: st))) := by
  obtain ⟨⟨hx, rfl, -⟩, locs, X, -⟩ := X
  exact r.st fun u kk => Jvm.RoadKit.acmp (g := mkF m pc Ls (y :: x :: st)) X hx rfl h1 h2 rfl hd rfl hq ho hp kk

theorem gridM3_ (X : St p l e R s m args below meth c Z B own nm ml ret n0 T h k n) {a0 : Array Value} {C ad : String} {ty : FieldType} {index : Nat} {zk : Int32} {pc : Nat} {Ls : Array Slot} {st : List Value} (cap : Nat) (dv : Value) (hd : decode B pc = .ok (.multianewarray index 2, 4)) (hC : (FieldType.array ty).toString = C) (had : "[" ++ C = ad) (w1 : (Cond.classLink own index ad).before a0 Z = true) (w2 : (Cond.arrayOver (.array ty)).before a0 Z = true) (w3 : (Cond.arrayClass ty).before a0 Z = true) (hdv : defaultValue ty = dv) (hk : ¬ zk < 0) (hcap : zk.toNatClampNeg ≤ cap) (hb : cap * 8 ≤ 536870912) (hdf : fits ty (defaultValue ty) = true) (hdd : (defaultValue ty).isDefault = true) (hc : k + (1 + 3) ≤ R.cells) (hl : n + (3 + 3 * cap) ≤ R.slots)
    (r : ∀ T' h' a x0 x1 x2 kk comp, a = h.size → x0 = a + 1 → x1 = a + 2 → x2 = a + 3 → St p l e R s m args below meth c Z B own nm ml ret n0 T' h' (k + (1 + 3)) (n + (3 + 3 * cap)) → Ext h h' → Arv Z h' a kk (.array ty) 3 [.ref x0, .ref x1, .ref x2] .null → OvrA Z kk ty C → Exa Z h' a ad → Arv Z h' x0 comp ty zk [] dv → Arv Z h' x1 comp ty zk [] dv → Arv Z h' x2 comp ty zk [] dv → Exa Z h' x0 C → Exa Z h' x1 C → Exa Z h' x2 C → Go p e below s n0 Q kC kS (T'.setTop (mkF m (pc + 4) Ls (.ref a :: st)))) : Go p e below s n0 Q kC kS (T.setTop (mkF m pc Ls (.int zk :: .int 3 :: st))) := by
  subst hdv
  obtain ⟨⟨hx, hby, hZ, hown, q⟩, locs, X, eT, N⟩ := X
  obtain ⟨T', h', cA, comp, X', e', E', A', O', G', I', st'⟩ := gridM X hx hZ hown hC had w1 w2 w3 eT (g := mkF m pc Ls (.int zk :: .int 3 :: st)) rfl (by rw [hby]; exact hd) rfl (by decide) hk (xs := [h.size + 1 + 0, h.size + 1 + 1, h.size + 1 + 2]) (N := 3) rfl rfl hcap hb (by decide) hdf hdd hc hl
  exact (r T' h' _ _ _ _ cA comp rfl rfl rfl rfl ⟨⟨hx, hby, hZ, hown, q⟩, locs, X', e', N⟩ E' A' O' G' (Arv.new (I' 0 _ rfl).1 hk) (Arv.new (I' 1 _ rfl).1 hk) (Arv.new (I' 2 _ rfl).1 hk) (I' 0 _ rfl).2 (I' 1 _ rfl).2 (I' 2 _ rfl).2).st st'

theorem callS_ (X : St p l e R s m args below meth c Z B own nm ml ret n0 T h k n) {a0 : Array Value} {idx W pc : Nat} {Ls : Array Slot} {rest : List Value} {argsL : List Value} {y : MethodName} {bytes : ByteArray} {maxL : Nat} {rt : Option FieldType} {rm : Room} {Qc : Option Value → Heap → Prop} (hd : decode B pc = .ok (.invokestatic idx, 3)) (w1 : (Cond.methodLink own idx y).before a0 Z = true) (w2 : (Cond.static y).before a0 Z = true) (w3 : (Cond.initialized y.cls).before a0 Z = true) (w4 : (Cond.code y bytes maxL rt).before a0 Z = true)
    (hy : y.cls ≠ "java/lang/invoke/MethodHandle" ∧ y.cls ≠ "java/lang/invoke/VarHandle") (hM : Con l Z y [] bytes maxL rt rm argsL.toArray h n0 Qc) (hlen : ∀ sig, parseMethodDescriptor y.desc = some sig → argsL.length = sig.parameters.length) (hsz : Ls.size = ml) {stk : List Value} (hs : stk = argsL.reverse ++ rest)
    (hW : 2 * 0 + (rest.map fun v => v.category).sum ≤ W) (hf : rm.frames + 1 ≤ R.frames) (hl : W + (maxL + 11) + rm.locals ≤ R.locals) (hc : k + rm.cells ≤ R.cells) (hn : n + rm.slots ≤ R.slots)
    (r : ∀ T' h' v, St p l e R s m args below meth c Z B own nm ml ret n0 T' h' (k + rm.cells) (n + rm.slots) → Qc v h' → Go p e below s n0 Q kC kS (T'.setTop (mkF m (pc + 3) Ls (v.toList ++ rest)))) : Go p e below s n0 Q kC kS (T.setTop (mkF m pc Ls stk)) := by
  obtain ⟨⟨hx, hby, hZ, hown, hml, q⟩, locs, X, eT, N⟩ := X
  obtain ⟨v, vm1, ⟨T', L', k', n'⟩, -, X', ⟨Lc, ⟨hQ, N'⟩, l1, l2, l3⟩, st'⟩ := Jvm.LawKit.callS X hx (y := y) hown (mvT hZ w1) (mvT hZ w2) (mvT hZ w3) (mvT hZ w4) hy (backOf (Q := fun v h L => Qc v h ∧ Fr n0 L) hM hZ w4 w3 hf hl) (g := mkF m pc Ls stk) rfl (by rw [hml]; exact hsz) (argsL := argsL) (rest := rest) hlen hs hW (by rw [hby]; exact hd) (fun _ _ => ⟨rfl, eT, hc, hn⟩)
  dsimp only [Pt.U, Pt.locs, Pt.cells, Pt.slots] at X' l1 l2 l3 st' hQ
  subst l1 l2 l3
  exact (r T' T'.heap v ⟨⟨hx, hby, hZ, hown, hml, q⟩, _, X', rfl, Fr.app N N'⟩ hQ).st st'
theorem Go.tr {t t' : State} (r : Go p e below s n0 Q kC kS t') (q : Steps p.tables e below t t') : Go p e below s n0 Q kC kS t := r.st fun u kk => q.trans kk
theorem callI_ (X : St p l e R s m args below meth c Z B own nm ml ret n0 T h k n) {a0 : Array Value} {idx W pc : Nat} {Ls : Array Slot} {rest : List Value} {argsL : List Value} {a : Addr} {y : MethodName} {bytes : ByteArray} {maxL : Nat} {rm : Room} {Qc : Option Value → Heap → Prop} (hd : decode B pc = .ok (.invokespecial idx, 3)) (hin : y.name = "<init>") (w1 : (Cond.methodLink own idx y).before a0 Z = true) (w2 : (Cond.instanceMethod y).before a0 Z = true) (w3 : (Cond.initialized y.cls).before a0 Z = true) (w4 : (Cond.code y bytes maxL none).before a0 Z = true)
    (hy : y.cls ≠ "java/lang/invoke/MethodHandle" ∧ y.cls ≠ "java/lang/invoke/VarHandle") (hM : Con l Z y [] bytes maxL none rm (.ref a :: argsL).toArray h n0 Qc) (hlen : ∀ sig, parseMethodDescriptor y.desc = some sig → argsL.length = sig.parameters.length) (hsz : Ls.size = ml) {stk : List Value} (hs : stk = argsL.reverse ++ .ref a :: rest)
    (hW : 2 * 0 + (rest.map fun v => v.category).sum ≤ W) (hf : rm.frames + 1 ≤ R.frames) (hl : W + (maxL + 11) + rm.locals ≤ R.locals) (hc : k + rm.cells ≤ R.cells) (hn : n + rm.slots ≤ R.slots)
    (r : ∀ T' h' v, St p l e R s m args below meth c Z B own nm ml ret n0 T' h' (k + rm.cells) (n + rm.slots) → Qc v h' → Go p e below s n0 Q kC kS (T'.setTop (mkF m (pc + 3) Ls (v.toList ++ rest)))) : Go p e below s n0 Q kC kS (T.setTop (mkF m pc Ls stk)) := by
  obtain ⟨⟨hx, hby, hZ, hown, hml, q⟩, locs, X, eT, N⟩ := X
  obtain ⟨v, vm1, ⟨T', L', k', n'⟩, -, X', ⟨Lc, ⟨hQ, N'⟩, l1, l2, l3⟩, st'⟩ := X.specialBack hx (y := y) hin hown (mvT hZ w1) (mvT hZ w2) (mvT hZ w4) hy (backOf (Q := fun v h L => Qc v h ∧ Fr n0 L) hM hZ w4 w3 hf hl) (g := mkF m pc Ls stk) rfl (by rw [hml]; exact hsz) (Steps.refl _) (a := a) (argsL := argsL) (rest := rest) hlen hs hW (by rw [hby]; exact hd) (fun _ _ => ⟨rfl, eT, hc, hn⟩)
  dsimp only [Pt.U, Pt.locs, Pt.cells, Pt.slots] at X' l1 l2 l3 st' hQ
  subst l1 l2 l3
  exact (r T' T'.heap v ⟨⟨hx, hby, hZ, hown, hml, q⟩, _, X', rfl, Fr.app N N'⟩ hQ).tr st'
theorem callV_ (X : St p l e R s m args below meth c Z B own nm ml ret n0 T h k n) {a0 : Array Value} {idx W pc : Nat} {Ls : Array Slot} {rest : List Value} {argsL : List Value} {a : Addr} {C : String} {y z : MethodName} {bytes : ByteArray} {maxL : Nat} {rt : Option FieldType} {rm : Room} {Qc : Option Value → Heap → Prop} (hd : decode B pc = .ok (.invokevirtual idx, 3)) (w1 : (Cond.methodLink own idx y).before a0 Z = true) (w2 : (Cond.declares y).before a0 Z = true) (w5 : (Cond.selects C y z).before a0 Z = true) (w6 : (Cond.instanceMethod z).before a0 Z = true) (hzy : z = y) (w3 : (Cond.initialized z.cls).before a0 Z = true) (w4 : (Cond.code z bytes maxL rt).before a0 Z = true)
    (hy : y.cls ≠ "java/lang/invoke/MethodHandle" ∧ y.cls ≠ "java/lang/invoke/VarHandle") (E : Exa Z h a C) (hM : Con l Z z [] bytes maxL rt rm (.ref a :: argsL).toArray h n0 Qc) (hlen : ∀ sig, parseMethodDescriptor y.desc = some sig → argsL.length = sig.parameters.length) (hsz : Ls.size = ml) {stk : List Value} (hs : stk = argsL.reverse ++ .ref a :: rest)
    (hW : 2 * 0 + (rest.map fun v => v.category).sum ≤ W) (hf : rm.frames + 1 ≤ R.frames) (hl : W + (maxL + 11) + rm.locals ≤ R.locals) (hc : k + rm.cells ≤ R.cells) (hn : n + rm.slots ≤ R.slots)
    (r : ∀ T' h' v, St p l e R s m args below meth c Z B own nm ml ret n0 T' h' (k + rm.cells) (n + rm.slots) → Qc v h' → Go p e below s n0 Q kC kS (T'.setTop (mkF m (pc + 3) Ls (v.toList ++ rest)))) : Go p e below s n0 Q kC kS (T.setTop (mkF m pc Ls stk)) := by
  obtain ⟨⟨hx, hby, hZ, hown, hml, q⟩, locs, X, eT, N⟩ := X
  subst hzy
  obtain ⟨cq, kq, qa, qb, qc⟩ := isOf hZ eT E
  obtain ⟨v, vm1, ⟨T', L', k', n'⟩, -, X', ⟨Lc, ⟨hQ, N'⟩, l1, l2, l3⟩, st'⟩ := X.virtualBack hx (y := z) (z := z) hown (mvT hZ w1) (mvT hZ w2) (notFace_of_selects (args := #[]) (mvT hZ w5)) (mvT hZ w5) (mvT hZ w6) hy (backOf (Q := fun v h L => Qc v h ∧ Fr n0 L) hM hZ w4 w3 hf hl) qa qc (g := mkF m pc Ls stk) rfl (by rw [hml]; exact hsz) (Steps.refl _) (argsL := argsL) (rest := rest) hlen hs hW (by rw [hby]; exact hd) (fun _ _ => ⟨rfl, eT, hc, hn⟩)
  dsimp only [Pt.U, Pt.locs, Pt.cells, Pt.slots] at X' l1 l2 l3 st' hQ
  subst l1 l2 l3
  exact (r T' T'.heap v ⟨⟨hx, hby, hZ, hown, hml, q⟩, _, X', rfl, Fr.app N N'⟩ hQ).tr st'

theorem absD_ (X : St p l e R s m args below meth c Z B own nm ml ret n0 T h k n) {a0 : Array Value} {idx W pc : Nat} {Ls : Array Slot} {st : List Value} {x : UInt64} (hd : decode B pc = .ok (.invokestatic idx, 3)) (w1 : (Cond.methodLink own idx Jvm.Free.Fl.Abs.absDN).before a0 Z = true) (w2 : (Cond.static Jvm.Free.Fl.Abs.absDN).before a0 Z = true) (w3 : (Cond.initialized "java/lang/Math").before a0 Z = true) (w4 : (Cond.code Jvm.Free.Fl.Abs.absDN Jvm.Free.Fl.Abs.absDCode 2 (some .double)).before a0 Z = true) (nx : NoNaN64 x) (hlen : ∀ sig, parseMethodDescriptor "(D)D" = some sig → [Value.double x].length = sig.parameters.length) (hsz : Ls.size = ml)
    (hW : 2 * 0 + (st.map fun v => v.category).sum ≤ W) (hf : 1 ≤ R.frames) (hl : W + 13 ≤ R.locals) (hk : k ≤ R.cells) (hn : n ≤ R.slots)
    (r : ∀ T', St p l e R s m args below meth c Z B own nm ml ret n0 T' h k n → Go p e below s n0 Q kC kS (T'.setTop (mkF m (pc + 3) Ls (.double (x &&& 0x7fffffffffffffff) :: st)))) : Go p e below s n0 Q kC kS (T.setTop (mkF m pc Ls (.double x :: st))) := by
  obtain ⟨⟨hx, hby, hZ, hown, hml, q⟩, locs, X, eT, N⟩ := X
  obtain ⟨T', X', e', st'⟩ := natS X hx hZ hown w1 w2 w3 w4 (by decide) eT (W := W) (fun hc => Jvm.Free.Fl.Abs.absD_pays x hc hf hl) (g := mkF m pc Ls (.double x :: st)) rfl (by rw [hml]; exact hsz) (argsL := [.double x]) (rest := st) hlen rfl hW (by rw [hby]; exact hd) hk hn ⟨rfl, nx⟩ rfl
  exact (r T' ⟨⟨hx, hby, hZ, hown, hml, q⟩, locs, X', e', N⟩).st st'

theorem callP_ (X : St p l e R s m args below meth c Z B own nm ml ret n0 T h k n) {a0 : Array Value} {idx W pc : Nat} {Ls : Array Slot} {rest : List Value} {argsL : List Value} {a : Addr} {C D : String} {y z' z : MethodName} {bytes : ByteArray} {maxL : Nat} {rt : Option FieldType} {rm : Room} {Qc : Option Value → Heap → Prop} (hd : decode B pc = .ok (.invokevirtual idx, 3)) (w1 : (Cond.methodLink own idx y).before a0 Z = true) (w2 : (Cond.instanceMethod y).before a0 Z = true) (w5 : (Cond.selects D z' z).before a0 Z = true) (hz : z.cls = y.cls) (w6 : (Cond.privateMethod y).before a0 Z = true) (w3 : (Cond.initialized y.cls).before a0 Z = true) (w4 : (Cond.code y bytes maxL rt).before a0 Z = true)
    (hy : y.cls ≠ "java/lang/invoke/MethodHandle" ∧ y.cls ≠ "java/lang/invoke/VarHandle") (E : Exa Z h a C) (hM : Con l Z y [] bytes maxL rt rm (.ref a :: argsL).toArray h n0 Qc) (hlen : ∀ sig, parseMethodDescriptor y.desc = some sig → argsL.length = sig.parameters.length) (hsz : Ls.size = ml) {stk : List Value} (hs : stk = argsL.reverse ++ .ref a :: rest)
    (hW : 2 * 0 + (rest.map fun v => v.category).sum ≤ W) (hf : rm.frames + 1 ≤ R.frames) (hl : W + (maxL + 11) + rm.locals ≤ R.locals) (hc : k + rm.cells ≤ R.cells) (hn : n + rm.slots ≤ R.slots)
    (r : ∀ T' h' v, St p l e R s m args below meth c Z B own nm ml ret n0 T' h' (k + rm.cells) (n + rm.slots) → Qc v h' → Go p e below s n0 Q kC kS (T'.setTop (mkF m (pc + 3) Ls (v.toList ++ rest)))) : Go p e below s n0 Q kC kS (T.setTop (mkF m pc Ls stk)) := by
  obtain ⟨⟨hx, hby, hZ, hown, hml, q⟩, locs, X, eT, N⟩ := X
  obtain ⟨mk, methM, hnamed, hmethM, hstM, habM⟩ := Cond.instanceMethod_spec (args := args) (mvT hZ w2)
  obtain ⟨methM', cM, hmethM', -, -, -, -, -, -, hsigM⟩ := Cond.code_spec hnamed (mvT (args := args) hZ w4)
  cases hmethM.symm.trans hmethM'
  obtain ⟨c2, r2, m2, -, -, q3, -, kP, hkP, hkPi⟩ := Cond.selects_spec (args := args) (mvT hZ w5)
  have hcl : m2.cls = mk.cls := Option.some.inj ((findClass_of_methodNamed q3).symm.trans (by rw [hz]; exact findClass_of_methodNamed hnamed))
  rw [hcl] at hkP
  obtain ⟨cell, hcell, hobj⟩ := E.cell
  have hsel : selectMethod e.platform s.vm cell.cls mk = .method mk := selectMethod_private hmethM (Cond.privateMethod_at (mvP hZ w6 (args := args)) mk methM hnamed hmethM)
  obtain ⟨vm1, X1, step1⟩ := X.invokevirtual hx hown (mvT hZ w1) hnamed hmethM hstM hkP hkPi hy (a := a) (cell := cell) (by rw [eT]; exact hcell) hobj hsel hmethM habM hkP hkPi (g := mkF m pc Ls stk) rfl (argsL := argsL) (rest := rest) (hlen _ hsigM) hs (by rw [hby]; exact hd)
  obtain ⟨v, ⟨T', L', k', n'⟩, X', ⟨Lc, ⟨hQ, N'⟩, l1, l2, l3⟩, st'⟩ := (backOf (Q := fun v h L => Qc v h ∧ Fr n0 L) hM hZ w4 w3 hf hl) m meth c ⟨T.setVm vm1, locs, k, n⟩ { mkF m pc Ls stk with stack := rest } (.invokevirtual idx) mk (.ref a :: argsL).toArray X1 rfl (by rw [hml]; exact hsz) (by rw [hby]; exact hd) hW (X1.named hnamed) ⟨rfl, eT, hc, hn⟩
  dsimp only [Pt.U, Pt.locs, Pt.cells, Pt.slots] at X' l1 l2 l3 st' hQ
  subst l1 l2 l3
  exact (r T' T'.heap v ⟨⟨hx, hby, hZ, hown, hml, q⟩, _, X', rfl, Fr.app N N'⟩ hQ).tr ((step1 _ fun acts => by rw [doInvoke_state]; exact Steps.refl _).trans st')

theorem callSN_ (X : St p l e R s m args below meth c Z B own nm ml ret n0 T h k n) {a0 : Array Value} {host : String} {idx W pc : Nat} {Ls : Array Slot} {rest : List Value} {argsL : List Value} {y : MethodName} {bytes : ByteArray} {maxL : Nat} {rt : Option FieldType} {rm : Room} {Qc : Option Value → Heap → Prop} (hd : decode B pc = .ok (.invokestatic idx, 3)) (w1 : (Cond.methodLinkNest own idx y host).before a0 Z = true) (w2 : (Cond.static y).before a0 Z = true) (w3 : (Cond.initialized y.cls).before a0 Z = true) (w4 : (Cond.code y bytes maxL rt).before a0 Z = true)
    (hy : y.cls ≠ "java/lang/invoke/MethodHandle" ∧ y.cls ≠ "java/lang/invoke/VarHandle") (hM : Con l Z y [] bytes maxL rt rm argsL.toArray h n0 Qc) (hlen : ∀ sig, parseMethodDescriptor y.desc = some sig → argsL.length = sig.parameters.length) (hsz : Ls.size = ml) {stk : List Value} (hs : stk = argsL.reverse ++ rest)
    (hW : 2 * 0 + (rest.map fun v => v.category).sum ≤ W) (hf : rm.frames + 1 ≤ R.frames) (hl : W + (maxL + 11) + rm.locals ≤ R.locals) (hc : k + rm.cells ≤ R.cells) (hn : n + rm.slots ≤ R.slots)
    (r : ∀ T' h' v, St p l e R s m args below meth c Z B own nm ml ret n0 T' h' (k + rm.cells) (n + rm.slots) → Qc v h' → Go p e below s n0 Q kC kS (T'.setTop (mkF m (pc + 3) Ls (v.toList ++ rest)))) : Go p e below s n0 Q kC kS (T.setTop (mkF m pc Ls stk)) := by
  obtain ⟨⟨hx, hby, hZ, hown, hml, q⟩, locs, X, eT, N⟩ := X
  obtain ⟨v, vm1, ⟨T', L', k', n'⟩, -, X', ⟨Lc, ⟨hQ, N'⟩, l1, l2, l3⟩, st'⟩ := Jvm.RoadKit.callSN X hx (y := y) hown ((Cond.methodLinkNest_wide hZ w1 :) ) (mvT hZ w2) (mvT hZ w3) (mvT hZ w4) hy (backOf (Q := fun v h L => Qc v h ∧ Fr n0 L) hM hZ w4 w3 hf hl) (g := mkF m pc Ls stk) rfl (by rw [hml]; exact hsz) (argsL := argsL) (rest := rest) hlen hs hW (by rw [hby]; exact hd) (fun _ _ => ⟨rfl, eT, hc, hn⟩)
  dsimp only [Pt.U, Pt.locs, Pt.cells, Pt.slots] at X' l1 l2 l3 st' hQ
  subst l1 l2 l3
  exact (r T' T'.heap v ⟨⟨hx, hby, hZ, hown, hml, q⟩, _, X', rfl, Fr.app N N'⟩ hQ).tr st'

theorem signD_ (X : St p l e R s m args below meth c Z B own nm ml ret n0 T h k n) {a0 : Array Value} {idx W pc maxL : Nat} {bytes : ByteArray} {Ls : Array Slot} {st : List Value} {x : UInt64} (hd : decode B pc = .ok (.invokestatic idx, 3)) (w1 : (Cond.methodLink own idx Jvm.Free.NT.mathSignum64N).before a0 Z = true) (w2 : (Cond.static Jvm.Free.NT.mathSignum64N).before a0 Z = true) (w3 : (Cond.initialized "java/lang/Math").before a0 Z = true) (w4 : (Cond.code Jvm.Free.NT.mathSignum64N bytes maxL (some .double)).before a0 Z = true) (nx : NoNaN64 x) (hlen : ∀ sig, parseMethodDescriptor "(D)D" = some sig → [Value.double x].length = sig.parameters.length) (hsz : Ls.size = ml)
    (hW : 2 * 0 + (st.map fun v => v.category).sum ≤ W) (hf : 1 ≤ R.frames) (hl : W + (maxL + 11) ≤ R.locals) (hk : k ≤ R.cells) (hn : n ≤ R.slots)
    (r : ∀ T', St p l e R s m args below meth c Z B own nm ml ret n0 T' h k n → Go p e below s n0 Q kC kS (T'.setTop (mkF m (pc + 3) Ls (.double (Jvm.signum64 x) :: st)))) : Go p e below s n0 Q kC kS (T.setTop (mkF m pc Ls (.double x :: st))) := by
  obtain ⟨⟨hx, hby, hZ, hown, hml, q⟩, locs, X, eT, N⟩ := X
  obtain ⟨T', X', e', st'⟩ := natS X hx hZ hown w1 w2 w3 w4 (by decide) eT (W := W) (F := fun a' => a' = #[.double x] ∧ NoNaN64 x) (val := .double (Jvm.signum64 x)) (fun hc => by
    intro m' meth' c' A g ig mk a' X1 hg hsize hdg hW' hnamed ⟨_, _, ha', ha⟩
    obtain ⟨v, B', X2, ⟨hB, hv⟩, st2⟩ := (Jvm.Free.NT.Signum64.pays hc (mvT hZ w2) hf hl) m' meth' c' A g ig mk a' X1 hg hsize hdg hW' hnamed ⟨x, ha', Jvm.Free.Fl.Abs.dIsNaN_false ha⟩
    exact ⟨v, B', X2, ⟨hv x ⟨ha', Jvm.Free.Fl.Abs.dIsNaN_false ha⟩, hB⟩, st2⟩) (g := mkF m pc Ls (.double x :: st)) rfl (by rw [hml]; exact hsz) (argsL := [.double x]) (rest := st) hlen rfl hW (by rw [hby]; exact hd) hk hn ⟨rfl, nx⟩ rfl
  exact (r T' ⟨⟨hx, hby, hZ, hown, hml, q⟩, locs, X', e', N⟩).st st'
theorem nn_sign {x : UInt64} (h : NoNaN64 x) : NoNaN64 (Jvm.signum64 x) := by
  obtain ⟨o, ho⟩ := Jvm.Free.Fl.dcmp_of_noNaN h (b := 0) (by unfold NoNaN64; decide)
  cases o with
  | lt => rw [Jvm.FP.V.signum_neg ho]; unfold NoNaN64; decide
  | gt => rw [Jvm.FP.V.signum_pos ho]; unfold NoNaN64; decide
  | eq => rw [Jvm.FP.V.signum_zero ho]; exact h

theorem cpA_ (X : St p l e R s m args below meth c Z B own nm ml ret n0 T h k n) {a0 : Array Value} {idx W pc : Nat} {Ls : Array Slot} {rest : List Value} {a b : Addr} {ka kb : ClassId} {ty : FieldType} {z z' sp dp nn : Int32} {vs vd us : List Value} {dv dd : Value} (hd : decode B pc = .ok (.invokestatic idx, 3)) (w1 : (Cond.methodLink own idx Jvm.Stand.acN).before a0 Z = true) (w2 : (Cond.native Jvm.Stand.acN).before a0 Z = true) (w3 : (Cond.static Jvm.Stand.acN).before a0 Z = true) (w4 : (Cond.initialized "java/lang/System").before a0 Z = true)
    (A : Arv Z h a ka ty z vs dv) (V : Arv Z h b kb ty z' vd dd) (hty : refKind ty = false) (h1 : ¬ sp < 0) (h2 : ¬ dp < 0) (h3 : ¬ nn < 0) (h4 : sp.toNatClampNeg + nn.toNatClampNeg ≤ z.toNatClampNeg) (h5 : dp.toNatClampNeg + nn.toNatClampNeg ≤ z'.toNatClampNeg) (hus : us = (List.range nn.toNatClampNeg).map fun i => vs.getD (sp.toNatClampNeg + i) dv) (hl : dp.toNatClampNeg + nn.toNatClampNeg ≤ vd.length) (ge : n0 ≤ b) (hsz : Ls.size = ml)
    (hf : 1 ≤ R.frames) (hW : 2 * 0 + (rest.map fun v => v.category).sum ≤ W) (hlo : W + (nativeFrameWords "java/lang/System" "arraycopy" 5 + 11) ≤ R.locals)
    (r : ∀ T' h', St p l e R s m args below meth c Z B own nm ml ret n0 T' h' k n → Keep h h' [b] → Arv Z h' b kb ty z' (vd.take dp.toNatClampNeg ++ us ++ vd.drop (dp.toNatClampNeg + nn.toNatClampNeg)) dd → Go p e below s n0 Q kC kS (T'.setTop (mkF m (pc + 3) Ls rest))) : Go p e below s n0 Q kC kS (T.setTop (mkF m pc Ls (.int nn :: .int dp :: .ref b :: .int sp :: .ref a :: rest))) := by
  obtain ⟨⟨hx, hby, hZ, hown, hml, q⟩, locs, X, eT, N⟩ := X
  obtain ⟨T', h', L', X', e', N', K', V', st'⟩ := cpA X hx hZ hown w1 w2 w3 w4 eT A V (Or.inl ⟨rfl, hty⟩) h1 h2 h3 h4 h5 hus hl N ge (g := mkF m pc Ls (.int nn :: .int dp :: .ref b :: .int sp :: .ref a :: rest)) rfl (by rw [hml]; exact hsz) rfl (by rw [hby]; exact hd) hf hW hlo
  exact (r T' h' ⟨⟨hx, hby, hZ, hown, hml, q⟩, L', X', e', N'⟩ K' V').st st'
theorem clone_ (X : St p l e R s m args below meth c Z B own nm ml ret n0 T h k n) {a0 : Array Value} {ad : String} {idx W pc : Nat} {Ls : Array Slot} {rest : List Value} {a : Addr} {ka : ClassId} {ty : FieldType} {z : Int32} {vs : List Value} {dv : Value} (cap : Nat) (hd : decode B pc = .ok (.invokevirtual idx, 3)) (w1 : (Cond.methodLink own idx ⟨ad, "clone", "()Ljava/lang/Object;"⟩).before a0 Z = true) (w2 : (Cond.sameMethod ad "java/lang/Object" "clone" "()Ljava/lang/Object;").before a0 Z = true) (w3 : (Cond.native ⟨"java/lang/Object", "clone", "()Ljava/lang/Object;"⟩).before a0 Z = true)
    (w4 : (Cond.instanceMethod ⟨"java/lang/Object", "clone", "()Ljava/lang/Object;"⟩).before a0 Z = true) (w5 : (Cond.selects ad ⟨ad, "clone", "()Ljava/lang/Object;"⟩ ⟨"java/lang/Object", "clone", "()Ljava/lang/Object;"⟩).before a0 Z = true) (w6 : (Cond.castable ad "java/lang/Cloneable").before a0 Z = true)
    (F : Arv Z h a ka ty z vs dv) (E : Exa Z h a ad) (hsz : Ls.size = ml) (hf : 1 ≤ R.frames) (hW : 2 * 0 + (rest.map fun v => v.category).sum ≤ W) (hl : W + 14 ≤ R.locals) (hcap : z.toNatClampNeg ≤ cap) (hc : k + 1 ≤ R.cells) (hsl : n + cap ≤ R.slots)
    (r : ∀ T' h' b, b = h.size → St p l e R s m args below meth c Z B own nm ml ret n0 T' h' (k + 1) (n + cap) → Ext h h' → Arv Z h' b ka ty z vs dv → Exa Z h' b ad → Go p e below s n0 Q kC kS (T'.setTop (mkF m (pc + 3) Ls (.ref b :: rest)))) : Go p e below s n0 Q kC kS (T.setTop (mkF m pc Ls (.ref a :: rest))) := by
  obtain ⟨⟨hx, hby, hZ, hown, hml, q⟩, locs, X, eT, N⟩ := X
  obtain ⟨T', h', X', e', E', V', G', st'⟩ := cloneH X hx hZ hown w1 w2 w3 w4 w5 w6 eT F.arh E (g := mkF m pc Ls (.ref a :: rest)) rfl (by rw [hml]; exact hsz) rfl (by rw [hby]; exact hd) hf hW hl hcap hc hsl
  exact (r T' h' _ rfl ⟨⟨hx, hby, hZ, hown, hml, q⟩, locs, X', e', N⟩ E' V' G').st st'
theorem cast_ (X : St p l e R s m args below meth c Z B own nm ml ret n0 T h k n) {a0 : Array Value} {K : String} {idx pc : Nat} {Ls : Array Slot} {rest : List Value} {a : Addr} (hd : decode B pc = .ok (.checkcast idx, 3)) (w : (Cond.classLink own idx K).before a0 Z = true) (F : Ins Z h a K true)
    (r : ∀ T', St p l e R s m args below meth c Z B own nm ml ret n0 T' h k n → Go p e below s n0 Q kC kS (T'.setTop (mkF m (pc + 3) Ls (.ref a :: rest)))) : Go p e below s n0 Q kC kS (T.setTop (mkF m pc Ls (.ref a :: rest))) := by
  obtain ⟨⟨hx, hby, hZ, hown, q⟩, locs, X, eT, N⟩ := X
  obtain ⟨T', X', e', st'⟩ := castY X hx hZ hown w eT F (g := mkF m pc Ls (.ref a :: rest)) rfl rfl (by rw [hby]; exact hd)
  exact (r T' ⟨⟨hx, hby, hZ, hown, q⟩, locs, X', e', N⟩).st st'

theorem enter {y : MethodName} {ws : List Jvm.Cond} {rm : Room} {as : Array Value} {h0 : Heap} {Ls : Array Slot} {own nm : String} (hpl : plainFor y = true) (ho : y.cls = own) (hnm : y.name = nm) (hef : ∀ m, entryFrame m as ml = mkF m 0 Ls [])
    (body : ∀ p e s m below meth c T, St p l e rm s m as below meth c Z B own nm ml ret n0 T h0 0 0 → Go p e below s n0 Q rm.cells rm.slots (T.setTop (mkF m 0 Ls []))) : Con l Z y ws B ml ret rm as h0 n0 Q := by
  refine MetFree.of_bodySF hpl hisR ?_
  intro p e s m args below meth c s₁ Bd hml0 hP hK
  obtain ⟨rfl, hZ, hh⟩ := hP
  have X0 : Stand p l e rm s m _ below meth c s₁ [] 0 0 := Stand.of_body Bd
  have e0 : s₁.heap = h0 := by rw [← hh, Bd.state]; rfl
  rw [hef]
  exact body p e s m below meth c s₁ ⟨⟨Bd.exec, Bd.bytes, hZ, ho ▸ findClass_of_methodNamed Bd.named, hml0, Bd.returns, Bd.notSynchronized, (name_of_methodNamed Bd.named Bd.method).1.trans hnm⟩, [], X0, e0, Fr.nil n0⟩
theorem Con.imp {y : MethodName} {ws : List Jvm.Cond} {rm : Room} {as : Array Value} {h0 : Heap} {Q' : Option Value → Heap → Prop} (C : Con l Z y ws B ml ret rm as h0 n0 Q') (q : ∀ v h, Q' v h → Q v h) : Con l Z y ws B ml ret rm as h0 n0 Q := by
  intro p e ha hc hk s m args below hf happ hP hK
  obtain ⟨n, o, h1, h2, h3, v, L, h4, ⟨h5, h6⟩, h7⟩ := C p e ha hc hk s m args below hf happ hP hK
  exact ⟨n, o, h1, h2, h3, v, L, h4, ⟨q _ _ h5, h6⟩, h7⟩
end Kit
end Jvm.Own

namespace Jvm.Own
open Jvm.FP Jvm.FP.Core Jvm.Free.Fl
/-- one, in units of 2^-1074 -/
def U : Int := (one64 : Int)
theorem U_pos : 0 < U := by unfold U; have := one64_pos; omega
theorem U_pow : U = 2 ^ 1074 := by unfold U one64; exact Int.natCast_pow 2 1074
theorem U_lt {a b : Int} : a * U < b * U ↔ a < b := Int.mul_lt_mul_right U_pos
theorem U_le {a b : Int} : a * U ≤ b * U ↔ a ≤ b := Int.mul_le_mul_right U_pos
theorem U_eq {a b : Int} : a * U = b * U ↔ a = b := Int.mul_eq_mul_right_iff (by have := U_pos; omega)
theorem nn_0 : NoNaN64 0 := by unfold NoNaN64; decide
theorem nn_1 : NoNaN64 4607182418800017408 := by unfold NoNaN64; decide
theorem fin_0 : Fin64 0 := by unfold Fin64; decide
theorem fin_1 : Fin64 4607182418800017408 := by unfold Fin64; decide
theorem dz_0 : dz 0 = 0 := zval64_zero
theorem dz_int {i : Int} {v : UInt64} (h : DInt i v) : Fin64 v ∧ dz v = i * U := by
  refine ⟨fin64_core.mpr ?_, DInt_zval h⟩
  unfold DInt at h
  cases hv : val64 v with
  | nan => rw [hv] at h; exact h.elim
  | inf q => rw [hv] at h; exact h.elim
  | fin s c q => exact ⟨s, c, q, hv⟩
theorem dz_1 : dz 4607182418800017408 = U := by rw [(dz_int dint_one).2, Int.one_mul]
theorem i2d_v {x : Int32} {v : UInt64} (h : FP.i2d x = v) : Fin64 v ∧ dz v = x.toInt * U := h ▸ dz_int (i2d_int x)
theorem l2d_v {x : Int64} {v : UInt64} (h : FP.l2d x = v) (hx : x.toInt.natAbs ≤ 2 ^ 53) : Fin64 v ∧ dz v = x.toInt * U := h ▸ dz_int (l2d_int hx)
theorem fin_val {x : UInt64} (h : Fin64 x) : ∃ s c q, val64 x = .fin s c q := fin64_core.mp h
/-- the greatest magnitude, and one more -/
def Top : Nat := b64.tails * 2 ^ (b64.exps - 2)
theorem Top_pow : Top = 2 ^ 2098 := by unfold Top; rw [tails_b64, show b64.exps - 2 = 2046 from by decide, ← Nat.pow_add]
theorem fin_lt {x : UInt64} (h : Fin64 x) : (dz x).natAbs < Top := by
  have := (fin64_core.mp h).zval_lt
  show (signed _ _).natAbs < _
  rw [natAbs_signed]; exact this
theorem fin_of {x : UInt64} (h : NoNaN64 x) (q : (dz x).natAbs < Top) : Fin64 x := by
  refine fin64_core.mpr ?_
  cases hv : val64 x with
  | nan => exact absurd hv (val64_no.mp h)
  | inf s =>
    have : (dz x).natAbs = Top := by
      show (signed _ (zmag b64 (val64 x))).natAbs = _
      rw [natAbs_signed, hv]; rfl
    omega
  | fin s c q => exact ⟨s, c, q, hv⟩
/-- a number of at most 53 digits, at any place within reach, is a double -/
theorem rep (k : Int) (j : Nat) (hk : k.natAbs < 2 ^ 53) (hj : j ≤ 2040) : ∃ V : UInt64, Fin64 V ∧ dz V = k * 2 ^ j := by
  obtain ⟨c', q', h1, h2⟩ := round_exact good_b64 (decide (k < 0)) (c := k.natAbs) (q := b64.qmin + (j : Int)) hk (by omega) (by
    have : b64.qmax = b64.qmin + 2045 := by decide
    omega)
  have hf : Core.fits b64 (.fin (decide (k < 0)) c' q') := h1 ▸ round_fits good_b64 _
  refine ⟨of64 (.fin (decide (k < 0)) c' q'), fin64_core.mpr ⟨_, _, _, val64_of64 hf⟩, ?_⟩
  show zval b64 (val64 _) = _
  rw [val64_of64 hf]
  show signed _ (inUnits c' q' b64.qmin) = _
  rw [h2]
  unfold inUnits
  rw [show (b64.qmin + (j : Int) - b64.qmin).toNat = j by omega, signed_mul, show ((2 ^ j : Nat) : Int) = 2 ^ j from Int.natCast_pow 2 j]
  congr 1
  unfold signed
  by_cases q : k < 0 <;> simp [q, sgn] <;> omega
theorem repU (k : Int) (j : Nat) (hk : k.natAbs < 2 ^ 53) (hj : j ≤ 1074) : ∃ V : UInt64, Fin64 V ∧ dz V * 2 ^ j = k * U := by
  obtain ⟨V, h1, h2⟩ := rep k (1074 - j) hk (by omega)
  refine ⟨V, h1, ?_⟩
  rw [h2, Int.mul_assoc, ← Int.pow_add, show 1074 - j + j = 1074 by omega, U_pow]
/-! sums -/
theorem dadd_le {a b V : UInt64} (fa : Fin64 a) (fb : Fin64 b) (nV : NoNaN64 V) (h : dz a + dz b ≤ dz V) : dz (FP.dadd a b) ≤ dz V := by
  show zval b64 (val64 (Core.dadd a b)) ≤ _
  rw [val64_dadd]
  exact sum_le good_b64 (fin_val fa) (fin_val fb) (val64_fits a) (val64_fits b) (val64_fits V) (nn_val nV) h
theorem dadd_ge {a b V : UInt64} (fa : Fin64 a) (fb : Fin64 b) (nV : NoNaN64 V) (h : dz V ≤ dz a + dz b) : dz V ≤ dz (FP.dadd a b) := by
  show _ ≤ zval b64 (val64 (Core.dadd a b))
  rw [val64_dadd]
  exact sum_ge good_b64 (fin_val fa) (fin_val fb) (val64_fits a) (val64_fits b) (val64_fits V) (nn_val nV) h
theorem neg_fin {d : Datum} (h : ∃ s c q, d = .fin s c q) : ∃ s c q, negate d = .fin s c q := by
  obtain ⟨s, c, q, rfl⟩ := h; exact ⟨_, _, _, rfl⟩
theorem dsub_le {a b V : UInt64} (fa : Fin64 a) (fb : Fin64 b) (nV : NoNaN64 V) (h : dz a - dz b ≤ dz V) : dz (FP.dsub a b) ≤ dz V := by
  show zval b64 (val64 (Core.dsub a b)) ≤ _
  rw [val64_dsub]
  refine sum_le good_b64 (fin_val fa) (neg_fin (fin_val fb)) (val64_fits a) (negate_fits (val64_fits b)) (val64_fits V) (nn_val nV) ?_
  rw [zval_negate]; exact h
theorem dsub_ge {a b V : UInt64} (fa : Fin64 a) (fb : Fin64 b) (nV : NoNaN64 V) (h : dz V ≤ dz a - dz b) : dz V ≤ dz (FP.dsub a b) := by
  show _ ≤ zval b64 (val64 (Core.dsub a b))
  rw [val64_dsub]
  refine sum_ge good_b64 (fin_val fa) (neg_fin (fin_val fb)) (val64_fits a) (negate_fits (val64_fits b)) (val64_fits V) (nn_val nV) ?_
  rw [zval_negate]; exact h
/-- a sum that is a double is exact -/
theorem dadd_x {a b v V : UInt64} (e : FP.dadd a b = v) (fa : Fin64 a) (fb : Fin64 b) (fV : Fin64 V) (h : dz a + dz b = dz V) : Fin64 v ∧ dz v = dz a + dz b := by
  subst e
  have q : dz (FP.dadd a b) = dz a + dz b := by
    have h1 := dadd_le fa fb fV.noNaN (Int.le_of_eq h)
    have h2 := dadd_ge fa fb fV.noNaN (Int.le_of_eq h.symm)
    omega
  exact ⟨fin_of (dadd_out fa.noNaN fb) (by rw [q, h]; exact fin_lt fV), q⟩
theorem dsub_x {a b v V : UInt64} (e : FP.dsub a b = v) (fa : Fin64 a) (fb : Fin64 b) (fV : Fin64 V) (h : dz a - dz b = dz V) : Fin64 v ∧ dz v = dz a - dz b := by
  subst e
  have q : dz (FP.dsub a b) = dz a - dz b := by
    have h1 := dsub_le fa fb fV.noNaN (Int.le_of_eq h)
    have h2 := dsub_ge fa fb fV.noNaN (Int.le_of_eq h.symm)
    omega
  exact ⟨fin_of (dsub_out fa.noNaN fb) (by rw [q, h]; exact fin_lt fV), q⟩
/-! products -/
theorem zval_fin (f : Fmt) (s : Bool) (c : Nat) (q : Int) : zval f (.fin s c q) = signed s (inUnits c q f.qmin) := rfl
theorem signed_xor' (s t : Bool) (c d : Nat) : signed (s != t) (c * d) = signed s c * signed t d := signed_xor s t c d
theorem pow_two_qmin : ((2 ^ (b64.qmin - 2 * b64.qmin).toNat : Nat) : Int) = U := by
  unfold U; rw [← pow_qmin64]; rfl
theorem dmul_le {a b V : UInt64} (fa : Fin64 a) (fb : Fin64 b) (nV : NoNaN64 V) (h : dz a * dz b ≤ dz V * U) : dz (FP.dmul a b) ≤ dz V := by
  obtain ⟨s, c, q, ha⟩ := fin_val fa
  obtain ⟨t, d, r, hb⟩ := fin_val fb
  have fa' := val64_fits a
  have fb' := val64_fits b
  unfold dz at h ⊢
  show zval b64 (val64 (Core.dmul a b)) ≤ _
  rw [val64_dmul]
  rw [ha] at fa' h ⊢
  rw [hb] at fb' h ⊢
  obtain ⟨h1, h2, h3⟩ := product_units fa' fb'
  rw [h1]
  refine zval_round_le good_b64 (val64_fits V) (nn_val nV) (e0 := 2 * b64.qmin) (by decide) h2 ?_
  rw [h3, pow_two_qmin, signed_xor']
  exact h
theorem dmul_ge {a b V : UInt64} (fa : Fin64 a) (fb : Fin64 b) (nV : NoNaN64 V) (h : dz V * U ≤ dz a * dz b) : dz V ≤ dz (FP.dmul a b) := by
  obtain ⟨s, c, q, ha⟩ := fin_val fa
  obtain ⟨t, d, r, hb⟩ := fin_val fb
  have fa' := val64_fits a
  have fb' := val64_fits b
  unfold dz at h ⊢
  show _ ≤ zval b64 (val64 (Core.dmul a b))
  rw [val64_dmul]
  rw [ha] at fa' h ⊢
  rw [hb] at fb' h ⊢
  obtain ⟨h1, h2, h3⟩ := product_units fa' fb'
  rw [h1]
  refine zval_round_ge good_b64 (val64_fits V) (nn_val nV) (e0 := 2 * b64.qmin) (by decide) h2 ?_
  rw [h3, pow_two_qmin, signed_xor']
  exact h
theorem dmul_x {a b v V : UInt64} (e : FP.dmul a b = v) (fa : Fin64 a) (fb : Fin64 b) (fV : Fin64 V) (h : dz a * dz b = dz V * U) : Fin64 v ∧ dz v = dz V := by
  subst e
  have q : dz (FP.dmul a b) = dz V := by
    have h1 := dmul_le fa fb fV.noNaN (Int.le_of_eq h)
    have h2 := dmul_ge fa fb fV.noNaN (Int.le_of_eq h.symm)
    omega
  exact ⟨fin_of (dmul_out fa fb) (by rw [q]; exact fin_lt fV), q⟩
/-! quotients -/
theorem nz_of {b : UInt64} (h : dz b ≠ 0) : Nz64 b := nz64_core.mpr fun ⟨s, q, e⟩ => h (by
  show zval b64 (val64 b) = 0
  rw [e, zval_fin]; unfold inUnits; rw [Nat.zero_mul]; exact signed_zero s)
theorem quo_mag {s t : Bool} {c d : Nat} {q r : Int} (hx : Core.fits b64 (.fin s c q)) (hy : Core.fits b64 (.fin t d r)) :
    inUnits c (q - r) (2 * b64.qmin - r) = zmag b64 (.fin s c q) * one64 ∧ 2 ^ (b64.qmin - (2 * b64.qmin - r)).toNat * d = zmag b64 (.fin t d r) := by
  have h1 := hx.2.1
  have h2 := hy.2.1
  have hq : b64.qmin = -1074 := qmin_b64
  constructor
  · rw [← pow_qmin64]
    show c * _ = c * _ * _
    rw [Nat.mul_assoc, ← Nat.pow_add]; congr 2; omega
  · show _ = d * _
    rw [Nat.mul_comm]; congr 2; omega
theorem ddiv_val {a b : UInt64} {s t : Bool} {c d : Nat} {q r : Int} (ha : val64 a = .fin s c q) (hb : val64 b = .fin t d r) (hd : d ≠ 0) : val64 (FP.ddiv a b) = roundRatio b64 (s != t) c d (q - r) := by
  show val64 (Core.ddiv a b) = _
  rw [val64_ddiv, ha, hb]; simp only [quotient, if_neg hd]
theorem ddiv_zm {a b : UInt64} (fa : Fin64 a) (fb : Fin64 b) (hb : dz b ≠ 0) :
    sgn (val64 (FP.ddiv a b)) = (sgn (val64 a) != sgn (val64 b)) ∧
    (∀ V : UInt64, NoNaN64 V → zmag b64 (val64 a) * one64 ≤ zmag b64 (val64 V) * zmag b64 (val64 b) → zmag b64 (val64 (FP.ddiv a b)) ≤ zmag b64 (val64 V)) ∧
    (∀ V : UInt64, zmag b64 (val64 V) * zmag b64 (val64 b) ≤ zmag b64 (val64 a) * one64 → zmag b64 (val64 V) ≤ zmag b64 (val64 (FP.ddiv a b))) := by
  obtain ⟨s, c, q, ha⟩ := fin_val fa
  obtain ⟨t, d, r, hb'⟩ := fin_val fb
  have fa' := val64_fits a
  have fb' := val64_fits b
  rw [ha] at fa'
  rw [hb'] at fb'
  have hd : d ≠ 0 := by
    rintro rfl
    apply hb
    show zval b64 (val64 b) = 0
    rw [hb', zval_fin]; unfold inUnits; rw [Nat.zero_mul]; exact signed_zero t
  have hv := ddiv_val ha hb' hd
  obtain ⟨e1, e2⟩ := quo_mag fa' fb'
  have hq1 := fa'.2.1
  have hq2 := fb'.2.1
  have hqm : b64.qmin = -1074 := qmin_b64
  refine ⟨?_, fun V nV h => ?_, fun V h => ?_⟩
  · rw [hv, sgn_roundRatio, ha, hb']; rfl
  · rw [hv]
    refine zmag_roundRatio_le good_b64 (by omega) (val64_fits V) (nn_val nV) (e0 := 2 * b64.qmin - r) (by omega) (by omega) ?_
    rw [e1, Nat.mul_assoc, e2]
    rw [ha, hb'] at h
    exact h
  · rw [hv]
    refine zmag_roundRatio_ge good_b64 (by omega) (val64_fits V) (e0 := 2 * b64.qmin - r) (by omega) (by omega) ?_
    rw [e1, Nat.mul_assoc, e2]
    rw [ha, hb'] at h
    exact h
theorem dz_def (x : UInt64) : dz x = signed (sgn (val64 x)) (zmag b64 (val64 x)) := rfl
theorem ddiv_le {a b V : UInt64} (fa : Fin64 a) (fb : Fin64 b) (hb : 0 < dz b) (nV : NoNaN64 V) (h : dz a * U ≤ dz V * dz b) : dz (FP.ddiv a b) ≤ dz V := by
  obtain ⟨h1, h2, h3⟩ := ddiv_zm fa fb (by omega)
  have h2 := h2 V nV
  have h3 := h3 V
  have hU : U = (one64 : Int) := rfl
  rw [dz_def (FP.ddiv a b), h1]
  rw [hU] at h
  rw [dz_def V] at h ⊢
  rw [dz_def a] at h
  rw [dz_def b] at h hb
  have p1 := one64_pos
  generalize zmag b64 (val64 (FP.ddiv a b)) = R at *
  generalize zmag b64 (val64 V) = v at *
  generalize zmag b64 (val64 a) = x at *
  generalize zmag b64 (val64 b) = y at *
  generalize sgn (val64 a) = sa at *
  generalize sgn (val64 b) = sb at *
  generalize sgn (val64 V) = sv at *
  cases sb with
  | true => simp only [signed, if_true] at hb; omega
  | false =>
    simp only [signed, Bool.false_eq_true, if_false] at hb h ⊢
    have key : signed sv v * (y : Int) = signed sv (v * y) := (signed_mul sv v y).symm
    have key2 : signed sa x * (one64 : Int) = signed sa (x * one64) := (signed_mul sa x one64).symm
    have yp : 0 < y := by omega
    change signed sa x * (one64 : Int) ≤ signed sv v * (y : Int) at h
    change signed (sa != false) R ≤ signed sv v
    rw [key, key2] at h
    have z1 : x * one64 = 0 → x = 0 := fun e => (Nat.mul_eq_zero.mp e).resolve_right (by omega)
    have z2 : v * y = 0 → v = 0 := fun e => (Nat.mul_eq_zero.mp e).resolve_right (by omega)
    have z3 : v = 0 → v * y = 0 := fun e => by rw [e, Nat.zero_mul]
    have z4 : x = 0 → x * one64 = 0 := fun e => by rw [e, Nat.zero_mul]
    generalize v * y = vy at *
    generalize x * one64 = xo at *
    cases sa <;> cases sv <;> simp only [signed, Bool.bne_false, Bool.false_eq_true, if_true, if_false] at h ⊢
    · have := h2 (by omega); omega
    · have := h2 (by omega); omega
    · omega
    · have := h3 (by omega); omega
theorem ddiv_ge {a b V : UInt64} (fa : Fin64 a) (fb : Fin64 b) (hb : 0 < dz b) (nV : NoNaN64 V) (h : dz V * dz b ≤ dz a * U) : dz V ≤ dz (FP.ddiv a b) := by
  obtain ⟨h1, h2, h3⟩ := ddiv_zm fa fb (by omega)
  have h2 := h2 V nV
  have h3 := h3 V
  have hU : U = (one64 : Int) := rfl
  rw [dz_def (FP.ddiv a b), h1]
  rw [hU] at h
  rw [dz_def V] at h ⊢
  rw [dz_def a] at h
  rw [dz_def b] at h hb
  have p1 := one64_pos
  generalize zmag b64 (val64 (FP.ddiv a b)) = R at *
  generalize zmag b64 (val64 V) = v at *
  generalize zmag b64 (val64 a) = x at *
  generalize zmag b64 (val64 b) = y at *
  generalize sgn (val64 a) = sa at *
  generalize sgn (val64 b) = sb at *
  generalize sgn (val64 V) = sv at *
  cases sb with
  | true => simp only [signed, if_true] at hb; omega
  | false =>
    simp only [signed, Bool.false_eq_true, if_false] at hb h ⊢
    have key : signed sv v * (y : Int) = signed sv (v * y) := (signed_mul sv v y).symm
    have key2 : signed sa x * (one64 : Int) = signed sa (x * one64) := (signed_mul sa x one64).symm
    have yp : 0 < y := by omega
    change signed sv v * (y : Int) ≤ signed sa x * (one64 : Int) at h
    change signed sv v ≤ signed (sa != false) R
    rw [key, key2] at h
    have z1 : x * one64 = 0 → x = 0 := fun e => (Nat.mul_eq_zero.mp e).resolve_right (by omega)
    have z2 : v * y = 0 → v = 0 := fun e => (Nat.mul_eq_zero.mp e).resolve_right (by omega)
    have z3 : v = 0 → v * y = 0 := fun e => by rw [e, Nat.zero_mul]
    have z4 : x = 0 → x * one64 = 0 := fun e => by rw [e, Nat.zero_mul]
    generalize v * y = vy at *
    generalize x * one64 = xo at *
    cases sa <;> cases sv <;> simp only [signed, Bool.bne_false, Bool.false_eq_true, if_true, if_false] at h ⊢
    · have := h3 (by omega); omega
    · omega
    · have := h2 (by omega); omega
    · have := h2 (by omega); omega
theorem ddiv_nn {a b : UInt64} (fa : Fin64 a) (fb : Fin64 b) (hb : dz b ≠ 0) : NoNaN64 (FP.ddiv a b) := ddiv_out fa.noNaN fb (nz_of hb)
theorem ddiv_x {a b v V : UInt64} (e : FP.ddiv a b = v) (fa : Fin64 a) (fb : Fin64 b) (hb : 0 < dz b) (fV : Fin64 V) (h : dz a * U = dz V * dz b) : Fin64 v ∧ dz v = dz V := by
  subst e
  have q : dz (FP.ddiv a b) = dz V := by
    have h1 := ddiv_le fa fb hb fV.noNaN (Int.le_of_eq h)
    have h2 := ddiv_ge fa fb hb fV.noNaN (Int.le_of_eq h.symm)
    omega
  exact ⟨fin_of (ddiv_nn fa fb (by omega)) (by rw [q]; exact fin_lt fV), q⟩
/-! the sign turned -/
theorem xor_top (a : UInt64) : a.toNat = (FP.dneg a).toNat + 2 ^ 63 ∨ (FP.dneg a).toNat = a.toNat + 2 ^ 63 := by
  have hlt := a.toNat_lt
  have e : (FP.dneg a).toNat = a.toNat ^^^ 2 ^ 63 := by rw [dneg_xor, UInt64.toNat_xor]; rfl
  have hd : (FP.dneg a).toNat % 2 ^ 63 = a.toNat % 2 ^ 63 := by
    rw [e]
    apply Nat.eq_of_testBit_eq; intro i
    simp only [Nat.testBit_mod_two_pow, Nat.testBit_xor, Nat.testBit_two_pow]
    by_cases q : i < 63
    · have : ¬ (63 = i) := by omega
      simp [q, this]
    · simp [q]
  have hb : (FP.dneg a).toNat.testBit 63 = !(a.toNat.testBit 63) := by
    rw [e, Nat.testBit_xor, Nat.testBit_two_pow_self]; simp
  have hl2 : (FP.dneg a).toNat < 2 ^ 64 := (FP.dneg a).toNat_lt
  generalize (FP.dneg a).toNat = y at *
  generalize a.toNat = x at *
  simp only [Nat.testBit, Nat.shiftRight_eq_div_pow, Nat.and_comm 1, Nat.and_one_is_mod, bne_iff_ne] at hb
  by_cases q : x < 2 ^ 63
  · right
    have h1 : x / 2 ^ 63 = 0 := Nat.div_eq_of_lt q
    have h2 : y / 2 ^ 63 ≠ 0 := by
      intro z; rw [h1, z] at hb; simp at hb
    have h3 : ¬ y < 2 ^ 63 := fun z => h2 (Nat.div_eq_of_lt z)
    omega
  · left
    have h1 : x / 2 ^ 63 = 1 := by omega
    have h3 : y < 2 ^ 63 := by
      refine Nat.lt_of_not_le fun z => ?_
      have : y / 2 ^ 63 = 1 := by omega
      rw [h1, this] at hb; simp at hb
    omega
theorem dneg_val (a : UInt64) : val64 (FP.dneg a) = negate (val64 a) := val64_neg_bits (xor_top a)
theorem dz_neg (a : UInt64) : dz (FP.dneg a) = -dz a := by unfold dz; rw [dneg_val, zval_negate]
theorem nn_neg {a : UInt64} (h : NoNaN64 a) : NoNaN64 (FP.dneg a) := val64_no.mpr (by rw [dneg_val]; exact negate_ne_nan (val64_no.mp h))
theorem fin_neg {a : UInt64} (h : Fin64 a) : Fin64 (FP.dneg a) := fin_of (nn_neg h.noNaN) (by rw [dz_neg, Int.natAbs_neg]; exact fin_lt h)
end Jvm.Own
namespace Jvm.Own
open Jvm.FP Jvm.FP.Core Jvm.Free.Fl
theorem p2_pos (j : Nat) : (0 : Int) < 2 ^ j := Int.pow_pos (by decide)
/-! against k / 2^j: what is at most (at least) that rounds to at most (at least) that -/
theorem quo_le {a b v : UInt64} {p q : Int} (e : FP.ddiv a b = v) (fa : Fin64 a) (fb : Fin64 b) (ha : dz a = p * U) (hb : dz b = q * U) (hq : 0 < q) (k : Int) (j : Nat) (hk : k.natAbs < 2 ^ 53) (hj : j ≤ 1074) (h : p * 2 ^ j ≤ k * q) : dz v * 2 ^ j ≤ k * U := by
  obtain ⟨V, fV, hV⟩ := repU k j hk hj
  have hU := U_pos
  have hp := p2_pos j
  have hbp : 0 < dz b := by rw [hb]; exact Int.mul_pos hq hU
  have key : dz a * U ≤ dz V * dz b := by
    refine Int.le_of_mul_le_mul_right ?_ hp
    rw [ha, hb, show p * U * U * 2 ^ j = p * 2 ^ j * (U * U) by generalize U = u; ac_rfl, show dz V * (q * U) * 2 ^ j = dz V * 2 ^ j * (q * U) by generalize U = u; ac_rfl, hV, show k * U * (q * U) = k * q * (U * U) by generalize U = u; ac_rfl]
    exact Int.mul_le_mul_of_nonneg_right h (Int.le_of_lt (Int.mul_pos hU hU))
  rw [← hV, ← e]
  exact Int.mul_le_mul_of_nonneg_right (ddiv_le fa fb hbp fV.noNaN key) (Int.le_of_lt hp)
theorem quo_ge {a b v : UInt64} {p q : Int} (e : FP.ddiv a b = v) (fa : Fin64 a) (fb : Fin64 b) (ha : dz a = p * U) (hb : dz b = q * U) (hq : 0 < q) (k : Int) (j : Nat) (hk : k.natAbs < 2 ^ 53) (hj : j ≤ 1074) (h : k * q ≤ p * 2 ^ j) : k * U ≤ dz v * 2 ^ j := by
  obtain ⟨V, fV, hV⟩ := repU k j hk hj
  have hU := U_pos
  have hp := p2_pos j
  have hbp : 0 < dz b := by rw [hb]; exact Int.mul_pos hq hU
  have key : dz V * dz b ≤ dz a * U := by
    refine Int.le_of_mul_le_mul_right ?_ hp
    rw [ha, hb, show p * U * U * 2 ^ j = p * 2 ^ j * (U * U) by generalize U = u; ac_rfl, show dz V * (q * U) * 2 ^ j = dz V * 2 ^ j * (q * U) by generalize U = u; ac_rfl, hV, show k * U * (q * U) = k * q * (U * U) by generalize U = u; ac_rfl]
    exact Int.mul_le_mul_of_nonneg_right h (Int.le_of_lt (Int.mul_pos hU hU))
  rw [← hV, ← e]
  exact Int.mul_le_mul_of_nonneg_right (ddiv_ge fa fb hbp fV.noNaN key) (Int.le_of_lt hp)
theorem Top_U : (2 : Int) ^ 1000 * U < (Top : Int) := by
  rw [U_pow, ← Int.pow_add, Top_pow, show ((2 ^ 2098 : Nat) : Int) = 2 ^ 2098 from Int.natCast_pow 2 2098]
  exact Int.pow_lt_pow_of_lt (by decide) (by decide)
theorem fin_bd {v : UInt64} (n : NoNaN64 v) (h1 : -(2 ^ 1000 * U) ≤ dz v) (h2 : dz v ≤ 2 ^ 1000 * U) : Fin64 v := fin_of n (by have := Top_U; omega)
theorem add_le {a b v : UInt64} (e : FP.dadd a b = v) (fa : Fin64 a) (fb : Fin64 b) (k : Int) (j : Nat) (hk : k.natAbs < 2 ^ 53) (hj : j ≤ 1074) (h : (dz a + dz b) * 2 ^ j ≤ k * U) : dz v * 2 ^ j ≤ k * U := by
  obtain ⟨V, fV, hV⟩ := repU k j hk hj
  have hp := p2_pos j
  rw [← hV] at h ⊢
  rw [← e]
  exact Int.mul_le_mul_of_nonneg_right (dadd_le fa fb fV.noNaN (Int.le_of_mul_le_mul_right h hp)) (Int.le_of_lt hp)
theorem add_ge {a b v : UInt64} (e : FP.dadd a b = v) (fa : Fin64 a) (fb : Fin64 b) (k : Int) (j : Nat) (hk : k.natAbs < 2 ^ 53) (hj : j ≤ 1074) (h : k * U ≤ (dz a + dz b) * 2 ^ j) : k * U ≤ dz v * 2 ^ j := by
  obtain ⟨V, fV, hV⟩ := repU k j hk hj
  have hp := p2_pos j
  rw [← hV] at h ⊢
  rw [← e]
  exact Int.mul_le_mul_of_nonneg_right (dadd_ge fa fb fV.noNaN (Int.le_of_mul_le_mul_right h hp)) (Int.le_of_lt hp)
theorem sub_le {a b v : UInt64} (e : FP.dsub a b = v) (fa : Fin64 a) (fb : Fin64 b) (k : Int) (j : Nat) (hk : k.natAbs < 2 ^ 53) (hj : j ≤ 1074) (h : (dz a - dz b) * 2 ^ j ≤ k * U) : dz v * 2 ^ j ≤ k * U := by
  obtain ⟨V, fV, hV⟩ := repU k j hk hj
  have hp := p2_pos j
  rw [← hV] at h ⊢
  rw [← e]
  exact Int.mul_le_mul_of_nonneg_right (dsub_le fa fb fV.noNaN (Int.le_of_mul_le_mul_right h hp)) (Int.le_of_lt hp)
theorem sub_ge {a b v : UInt64} (e : FP.dsub a b = v) (fa : Fin64 a) (fb : Fin64 b) (k : Int) (j : Nat) (hk : k.natAbs < 2 ^ 53) (hj : j ≤ 1074) (h : k * U ≤ (dz a - dz b) * 2 ^ j) : k * U ≤ dz v * 2 ^ j := by
  obtain ⟨V, fV, hV⟩ := repU k j hk hj
  have hp := p2_pos j
  rw [← hV] at h ⊢
  rw [← e]
  exact Int.mul_le_mul_of_nonneg_right (dsub_ge fa fb fV.noNaN (Int.le_of_mul_le_mul_right h hp)) (Int.le_of_lt hp)
/-- a sum, a difference of dyadics that is one of at most 53 digits is exact -/
theorem add_x {a b v : UInt64} (e : FP.dadd a b = v) (fa : Fin64 a) (fb : Fin64 b) (k : Int) (j : Nat) (hk : k.natAbs < 2 ^ 53) (hj : j ≤ 1074) (h : (dz a + dz b) * 2 ^ j = k * U) : Fin64 v ∧ dz v = dz a + dz b := by
  obtain ⟨V, fV, hV⟩ := repU k j hk hj
  exact dadd_x e fa fb fV (Int.eq_of_mul_eq_mul_right (by have := p2_pos j; omega) (h.trans hV.symm))
theorem sub_x {a b v : UInt64} (e : FP.dsub a b = v) (fa : Fin64 a) (fb : Fin64 b) (k : Int) (j : Nat) (hk : k.natAbs < 2 ^ 53) (hj : j ≤ 1074) (h : (dz a - dz b) * 2 ^ j = k * U) : Fin64 v ∧ dz v = dz a - dz b := by
  obtain ⟨V, fV, hV⟩ := repU k j hk hj
  exact dsub_x e fa fb fV (Int.eq_of_mul_eq_mul_right (by have := p2_pos j; omega) (h.trans hV.symm))
theorem quo_x {a b v : UInt64} {p q : Int} (e : FP.ddiv a b = v) (fa : Fin64 a) (fb : Fin64 b) (ha : dz a = p * U) (hb : dz b = q * U) (hq : 0 < q) (k : Int) (j : Nat) (hk : k.natAbs < 2 ^ 53) (hj : j ≤ 1074) (h : p * 2 ^ j = k * q) : Fin64 v ∧ dz v * 2 ^ j = k * U := by
  obtain ⟨V, fV, hV⟩ := repU k j hk hj
  have h1 := quo_le e fa fb ha hb hq k j hk hj (Int.le_of_eq h)
  have h2 := quo_ge e fa fb ha hb hq k j hk hj (Int.le_of_eq h.symm)
  have h3 : dz v * 2 ^ j = k * U := by omega
  have h4 : dz v = dz V := Int.eq_of_mul_eq_mul_right (by have := p2_pos j; omega) (h3.trans hV.symm)
  refine ⟨fin_of ?_ (by rw [h4]; exact fin_lt fV), h3⟩
  rw [← e]
  exact ddiv_nn fa fb (by rw [hb]; have := Int.mul_pos hq U_pos; omega)
theorem quo_nn {a b v : UInt64} {q : Int} (e : FP.ddiv a b = v) (fa : Fin64 a) (fb : Fin64 b) (hb : dz b = q * U) (hq : 0 < q) : NoNaN64 v := by
  rw [← e]; exact ddiv_nn fa fb (by rw [hb]; have := Int.mul_pos hq U_pos; omega)
end Jvm.Own
namespace Jvm.Own
open Jvm.FP Jvm.FP.Core Jvm.Free.Fl
theorem fin_2 : Fin64 4611686018427387904 := by unfold Fin64; decide
theorem nz_2 : Nz64 4611686018427387904 := by unfold Nz64; decide
theorem dz_2 : dz 4611686018427387904 = 2 * U := by
  have e : FP.dadd 4607182418800017408 4607182418800017408 = 4611686018427387904 := by decide +kernel
  have h := (add_x e fin_1 fin_1 2 0 (by decide) (by decide) (by rw [dz_1, Int.pow_zero]; omega)).2
  rw [h, dz_1]; omega
end Jvm.Own
namespace Jvm.Own
theorem ite_I {P : Prop} [Decidable P] {a b v : Int32} (e : (if P then a else b) = v) : (P → v.toInt = a.toInt) ∧ (¬ P → v.toInt = b.toInt) := by
  subst e; exact ⟨fun q => by rw [if_pos q], fun q => by rw [if_neg q]⟩
end Jvm.Own
namespace Jvm.Own
open Jvm.FP Jvm.FP.Core Jvm.Free.Fl
theorem add0 {a v : UInt64} (e : FP.dadd a 0 = v) (fa : Fin64 a) : Fin64 v ∧ dz v = dz a := by
  obtain ⟨h1, h2⟩ := dadd_x e fa fin_0 fa (by rw [dz_0]; omega)
  exact ⟨h1, by rw [h2, dz_0]; omega⟩
end Jvm.Own
namespace Jvm.Own
open Jvm.FP Jvm.FP.Core Jvm.Free.Fl
/-! a divisor below nought -/
theorem ddiv_leN {a b V : UInt64} (fa : Fin64 a) (fb : Fin64 b) (hb : dz b < 0) (nV : NoNaN64 V) (h : dz V * dz b ≤ dz a * U) : dz (FP.ddiv a b) ≤ dz V := by
  obtain ⟨h1, h2, h3⟩ := ddiv_zm fa fb (by omega)
  have h2 := h2 V nV
  have h3 := h3 V
  have hU : U = (one64 : Int) := rfl
  rw [dz_def (FP.ddiv a b), h1]
  rw [hU] at h
  rw [dz_def V] at h ⊢
  rw [dz_def a] at h
  rw [dz_def b] at h hb
  have p1 := one64_pos
  generalize zmag b64 (val64 (FP.ddiv a b)) = R at *
  generalize zmag b64 (val64 V) = v at *
  generalize zmag b64 (val64 a) = x at *
  generalize zmag b64 (val64 b) = y at *
  generalize sgn (val64 a) = sa at *
  generalize sgn (val64 b) = sb at *
  generalize sgn (val64 V) = sv at *
  cases sb with
  | false => simp only [signed, Bool.false_eq_true, if_false] at hb; omega
  | true =>
    simp only [signed, if_true] at hb
    change signed sv v * (-(y : Int)) ≤ signed sa x * (one64 : Int) at h
    change signed (sa != true) R ≤ signed sv v
    have key : signed sv v * (y : Int) = signed sv (v * y) := (signed_mul sv v y).symm
    have key2 : signed sa x * (one64 : Int) = signed sa (x * one64) := (signed_mul sa x one64).symm
    have yp : 0 < y := by omega
    rw [Int.mul_neg, key, key2] at h
    have z2 : v * y = 0 → v = 0 := fun e => (Nat.mul_eq_zero.mp e).resolve_right (by omega)
    have z3 : v = 0 → v * y = 0 := fun e => by rw [e, Nat.zero_mul]
    have z4 : x = 0 → x * one64 = 0 := fun e => by rw [e, Nat.zero_mul]
    generalize v * y = vy at *
    generalize x * one64 = xo at *
    cases sa <;> cases sv <;> simp only [signed, Bool.bne_true, Bool.not_false, Bool.not_true, Bool.false_eq_true, if_true, if_false] at h ⊢
    · omega
    · have := h3 (by omega); omega
    · have := h2 (by omega); omega
    · have := h2 (by omega); omega
theorem ddiv_geN {a b V : UInt64} (fa : Fin64 a) (fb : Fin64 b) (hb : dz b < 0) (nV : NoNaN64 V) (h : dz a * U ≤ dz V * dz b) : dz V ≤ dz (FP.ddiv a b) := by
  obtain ⟨h1, h2, h3⟩ := ddiv_zm fa fb (by omega)
  have h2 := h2 V nV
  have h3 := h3 V
  have hU : U = (one64 : Int) := rfl
  rw [dz_def (FP.ddiv a b), h1]
  rw [hU] at h
  rw [dz_def V] at h ⊢
  rw [dz_def a] at h
  rw [dz_def b] at h hb
  have p1 := one64_pos
  generalize zmag b64 (val64 (FP.ddiv a b)) = R at *
  generalize zmag b64 (val64 V) = v at *
  generalize zmag b64 (val64 a) = x at *
  generalize zmag b64 (val64 b) = y at *
  generalize sgn (val64 a) = sa at *
  generalize sgn (val64 b) = sb at *
  generalize sgn (val64 V) = sv at *
  cases sb with
  | false => simp only [signed, Bool.false_eq_true, if_false] at hb; omega
  | true =>
    simp only [signed, if_true] at hb
    change signed sa x * (one64 : Int) ≤ signed sv v * (-(y : Int)) at h
    change signed sv v ≤ signed (sa != true) R
    have key : signed sv v * (y : Int) = signed sv (v * y) := (signed_mul sv v y).symm
    have key2 : signed sa x * (one64 : Int) = signed sa (x * one64) := (signed_mul sa x one64).symm
    have yp : 0 < y := by omega
    rw [Int.mul_neg, key, key2] at h
    have z2 : v * y = 0 → v = 0 := fun e => (Nat.mul_eq_zero.mp e).resolve_right (by omega)
    have z3 : v = 0 → v * y = 0 := fun e => by rw [e, Nat.zero_mul]
    have z4 : x = 0 → x * one64 = 0 := fun e => by rw [e, Nat.zero_mul]
    generalize v * y = vy at *
    generalize x * one64 = xo at *
    cases sa <;> cases sv <;> simp only [signed, Bool.bne_true, Bool.not_false, Bool.not_true, Bool.false_eq_true, if_true, if_false] at h ⊢
    · have := h2 (by omega); omega
    · have := h2 (by omega); omega
    · have := h3 (by omega); omega
    · omega
/-- a whole number's multiple, divided by it -/
theorem ddiv_mul {a b v : UInt64} {m q : Int} (e : FP.ddiv a b = v) (fa : Fin64 a) (fb : Fin64 b) (ha : dz a = m * q * U) (hb : dz b = q * U) (hq : q ≠ 0) (hm : m.natAbs < 2 ^ 53) : NoNaN64 v ∧ dz v = m * U := by
  obtain ⟨V, fV, hV⟩ := repU m 0 hm (by decide)
  rw [Int.pow_zero, Int.mul_one] at hV
  have hU := U_pos
  have k1 : dz a * U = dz V * dz b := by rw [ha, hb, hV]; generalize U = u; ac_rfl
  have hbz : dz b ≠ 0 := by rw [hb]; intro z; rcases Int.mul_eq_zero.mp z with z | z <;> omega
  subst e
  refine ⟨ddiv_nn fa fb hbz, ?_⟩
  rw [← hV]
  rcases Int.lt_or_gt_of_ne hbz with z | z
  · exact Int.le_antisymm (ddiv_leN fa fb z fV.noNaN (Int.le_of_eq k1.symm)) (ddiv_geN fa fb z fV.noNaN (Int.le_of_eq k1))
  · exact Int.le_antisymm (ddiv_le fa fb z fV.noNaN (Int.le_of_eq k1)) (ddiv_ge fa fb z fV.noNaN (Int.le_of_eq k1.symm))
end Jvm.Own
namespace Jvm.Own
open Jvm.FP Jvm.FP.Core Jvm.Free.Fl
theorem abs_max {u : UInt64} (h : Fin64 u) : dz (u &&& 0x7fffffffffffffff) ≤ dz 9218868437227405311 :=
  (dcmp_le.mp ((le_max (noNaN64_no.mp h.noNaN)).mpr (fin64_core.mp h))).2.2
end Jvm.Own
namespace Jvm.Own
open Jvm.FP Jvm.FP.Core Jvm.Free.Fl
/-- finite, and of a magnitude of at most A -/
def Bd (x : UInt64) (A : Int) : Prop := Fin64 x ∧ -(A * U) ≤ dz x ∧ dz x ≤ A * U
theorem Bd.fin {x : UInt64} {A : Int} (h : Bd x A) : Fin64 x := h.1
theorem big_U {A : Int} (h : A.natAbs < 2 ^ 53) : A * U ≤ 2 ^ 1000 * U ∧ -(2 ^ 1000 * U) ≤ A * U := by
  have z : (2 : Int) ^ 53 ≤ 2 ^ 1000 := by
    have h1 := Nat.pow_le_pow_right (n := 2) (by decide) (show 53 ≤ 1000 by decide)
    have e1 : ((2 ^ 53 : Nat) : Int) = 2 ^ 53 := Int.natCast_pow 2 53
    have e2 : ((2 ^ 1000 : Nat) : Int) = 2 ^ 1000 := Int.natCast_pow 2 1000
    rw [← e1, ← e2]; exact Int.ofNat_le.mpr h1
  have e : (2 : Int) ^ 53 = 9007199254740992 := by decide
  have hU := U_pos
  have a1 : A * U ≤ 2 ^ 1000 * U := Int.mul_le_mul_of_nonneg_right (by omega) (Int.le_of_lt hU)
  have a2 : (-(2 ^ 1000)) * U ≤ A * U := Int.mul_le_mul_of_nonneg_right (by omega) (Int.le_of_lt hU)
  rw [Int.neg_mul] at a2
  exact ⟨a1, a2⟩
theorem Bd.int {x : UInt64} {i A : Int} (f : Fin64 x) (z : dz x = i * U) (h1 : -A ≤ i) (h2 : i ≤ A) : Bd x A := by
  have hU := U_pos
  have a1 : i * U ≤ A * U := Int.mul_le_mul_of_nonneg_right h2 (Int.le_of_lt hU)
  have a2 : (-A) * U ≤ i * U := Int.mul_le_mul_of_nonneg_right h1 (Int.le_of_lt hU)
  rw [Int.neg_mul] at a2
  exact ⟨f, by omega, by omega⟩
theorem Bd.add {a b v : UInt64} {A B : Int} (e : FP.dadd a b = v) (ha : Bd a A) (hb : Bd b B) (h : (A + B).natAbs < 2 ^ 53) : Bd v (A + B) := by
  obtain ⟨fa, a1, a2⟩ := ha
  obtain ⟨fb, b1, b2⟩ := hb
  have h1 := add_le e fa fb (A + B) 0 h (by decide) (by rw [Int.pow_zero, Int.mul_one, Int.add_mul]; omega)
  have h2 := add_ge e fa fb (-(A + B)) 0 (by omega) (by decide) (by rw [Int.pow_zero, Int.mul_one, Int.neg_mul, Int.add_mul]; omega)
  rw [Int.pow_zero, Int.mul_one] at h1 h2
  rw [Int.neg_mul] at h2
  have := big_U h
  exact ⟨fin_bd (e ▸ dadd_out fa.noNaN fb) (by omega) (by omega), h2, h1⟩
theorem Bd.sub {a b v : UInt64} {A B : Int} (e : FP.dsub a b = v) (ha : Bd a A) (hb : Bd b B) (h : (A + B).natAbs < 2 ^ 53) : Bd v (A + B) := by
  obtain ⟨fa, a1, a2⟩ := ha
  obtain ⟨fb, b1, b2⟩ := hb
  have h1 := sub_le e fa fb (A + B) 0 h (by decide) (by rw [Int.pow_zero, Int.mul_one, Int.add_mul]; omega)
  have h2 := sub_ge e fa fb (-(A + B)) 0 (by omega) (by decide) (by rw [Int.pow_zero, Int.mul_one, Int.neg_mul, Int.add_mul]; omega)
  rw [Int.pow_zero, Int.mul_one] at h1 h2
  rw [Int.neg_mul] at h2
  have := big_U h
  exact ⟨fin_bd (e ▸ dsub_out fa.noNaN fb) (by omega) (by omega), h2, h1⟩
theorem Bd.mono {x : UInt64} {A B : Int} (h : Bd x A) (q : A ≤ B) : Bd x B := by
  have a1 : A * U ≤ B * U := Int.mul_le_mul_of_nonneg_right q (Int.le_of_lt U_pos)
  exact ⟨h.1, by have := h.2.1; omega, by have := h.2.2; omega⟩
theorem Bd.i2d {x : Int32} {v : UInt64} (e : FP.i2d x = v) : Bd v 2147483648 := by
  obtain ⟨f, z⟩ := i2d_v e
  have h1 := Int32.le_toInt x
  have h2 := Int32.toInt_lt x
  exact Bd.int f z (by omega) (by omega)
end Jvm.Own
namespace Jvm.Own
open Jvm.FP Jvm.FP.Core Jvm.Free.Fl
theorem mul_le' {a b v : UInt64} (e : FP.dmul a b = v) (fa : Fin64 a) (fb : Fin64 b) (k : Int) (hk : k.natAbs < 2 ^ 53) (h : dz a * dz b ≤ k * U * U) : dz v ≤ k * U := by
  obtain ⟨V, fV, hV⟩ := repU k 0 hk (by decide)
  rw [Int.pow_zero, Int.mul_one] at hV
  rw [← hV, ← e]
  exact dmul_le fa fb fV.noNaN (by rw [hV]; exact h)
theorem mul_ge' {a b v : UInt64} (e : FP.dmul a b = v) (fa : Fin64 a) (fb : Fin64 b) (k : Int) (hk : k.natAbs < 2 ^ 53) (h : k * U * U ≤ dz a * dz b) : k * U ≤ dz v := by
  obtain ⟨V, fV, hV⟩ := repU k 0 hk (by decide)
  rw [Int.pow_zero, Int.mul_one] at hV
  rw [← hV, ← e]
  exact dmul_ge fa fb fV.noNaN (by rw [hV]; exact h)
theorem abs_mul_le {x y A B : Int} (h1 : -A ≤ x) (h2 : x ≤ A) (h3 : -B ≤ y) (h4 : y ≤ B) : -(A * B) ≤ x * y ∧ x * y ≤ A * B := by
  have e : (x * y).natAbs = x.natAbs * y.natAbs := Int.natAbs_mul x y
  have e2 : x.natAbs * y.natAbs ≤ A.natAbs * B.natAbs := Nat.mul_le_mul (by omega) (by omega)
  have e3 : (A * B).natAbs = A.natAbs * B.natAbs := Int.natAbs_mul A B
  have e4 : 0 ≤ A * B := Int.mul_nonneg (by omega) (by omega)
  omega
theorem Bd.mul {a b v : UInt64} {A B : Int} (e : FP.dmul a b = v) (ha : Bd a A) (hb : Bd b B) (h : (A * B).natAbs < 2 ^ 53) : Bd v (A * B) := by
  obtain ⟨fa, a1, a2⟩ := ha
  obtain ⟨fb, b1, b2⟩ := hb
  obtain ⟨q1, q2⟩ := abs_mul_le a1 a2 b1 b2
  have r1 : A * U * (B * U) = A * B * U * U := by generalize U = u; ac_rfl
  rw [r1] at q1 q2
  have h1 := mul_le' e fa fb (A * B) h q2
  have h2 := mul_ge' e fa fb (-(A * B)) (by omega) (by rw [Int.neg_mul, Int.neg_mul]; exact q1)
  rw [Int.neg_mul] at h2
  have := big_U h
  exact ⟨fin_bd (e ▸ dmul_out fa fb) (by omega) (by omega), h2, h1⟩
end Jvm.Own

namespace Jvm.Pilot.@@N@@
open Jvm Jvm.ClassFile Sem Op Lib Jvm.Free Jvm.Stand Jvm.LawKit Jvm.RoadKit Bundle Jvm.Free.Fl Jvm.Pilot.@@N@@.Jvm.D
theorem pn_java_lang_Record : plainName "java/lang/Record" = true := by first | (simp [plainName, overriddenIn]; done) | decide +kernel
abbrev mn_0 : MethodName := (⟨"java/lang/Record", "<init>", "()V"⟩ : MethodName)
theorem pd_1 : parseMethodDescriptor "()V" = some ⟨[], none⟩ := by decide +kernel
theorem pn_com_example_pliant_pliant_ml_VectorShare_Plan : plainName "com/example/pliant/pliant/ml/VectorShare$Plan" = true := by first | (simp [plainName, overriddenIn]; done) | decide +kernel
abbrev mn_2 : MethodName := (⟨"com/example/pliant/pliant/ml/VectorShare$Plan", "<init>", "(IZIDZ[DZDIZZ)V"⟩ : MethodName)
abbrev mn_3 : MethodName := (⟨"com/example/pliant/pliant/ml/VectorShare$Plan", "writesNothing", "()Z"⟩ : MethodName)
theorem pd_4 : parseMethodDescriptor "(IZIDZ[DZDIZZ)V" = some ⟨[.int, .boolean, .int, .double, .boolean, (.array .double), .boolean, .double, .int, .boolean, .boolean], none⟩ := by decide +kernel
abbrev mn_5 : MethodName := (⟨"com/example/pliant/pliant/ml/VectorShare$Plan", "nothing", "(IDIZ)Lcom/example/pliant/pliant/ml/VectorShare$Plan;"⟩ : MethodName)
abbrev mn_6 : MethodName := (⟨"com/example/pliant/pliant/ml/VectorShare$Plan", "scaling", "(IDI)Lcom/example/pliant/pliant/ml/VectorShare$Plan;"⟩ : MethodName)
theorem pd_7 : parseMethodDescriptor "()Z" = some ⟨[], some .boolean⟩ := by decide +kernel
theorem pd_8 : parseMethodDescriptor "(IDIZ)Lcom/example/pliant/pliant/ml/VectorShare$Plan;" = some ⟨[.int, .double, .int, .boolean], some (.object "com/example/pliant/pliant/ml/VectorShare$Plan")⟩ := by decide +kernel
theorem pd_9 : parseMethodDescriptor "(IDI)Lcom/example/pliant/pliant/ml/VectorShare$Plan;" = some ⟨[.int, .double, .int], some (.object "com/example/pliant/pliant/ml/VectorShare$Plan")⟩ := by decide +kernel
theorem pn_com_example_pliant_pliant_ml_PlanWritesNothingPinLaw : plainName "com/example/pliant/pliant/ml/PlanWritesNothingPinLaw" = true := by first | (simp [plainName, overriddenIn]; done) | decide +kernel
theorem d2_0 : decode jdk_30_method_1_code 0 = .ok (.aload_n 0, 1) := by decide +kernel
theorem d2_1 : decode jdk_30_method_1_code 1 = .ok (.invokespecial 1, 3) := by decide +kernel
theorem d2_4 : decode jdk_30_method_1_code 4 = .ok (.return_, 1) := by decide +kernel
theorem d1_0 : decode prog_125_method_1_code 0 = .ok (.aload_n 0, 1) := by decide +kernel
theorem d1_1 : decode prog_125_method_1_code 1 = .ok (.invokespecial 1, 3) := by decide +kernel
theorem d1_4 : decode prog_125_method_1_code 4 = .ok (.aload_n 0, 1) := by decide +kernel
theorem d1_5 : decode prog_125_method_1_code 5 = .ok (.iload_n 1, 1) := by decide +kernel
theorem d1_6 : decode prog_125_method_1_code 6 = .ok (.putfield 7, 3) := by decide +kernel
theorem d1_9 : decode prog_125_method_1_code 9 = .ok (.aload_n 0, 1) := by decide +kernel
theorem d1_10 : decode prog_125_method_1_code 10 = .ok (.iload_n 2, 1) := by decide +kernel
theorem d1_11 : decode prog_125_method_1_code 11 = .ok (.putfield 13, 3) := by decide +kernel
theorem d1_14 : decode prog_125_method_1_code 14 = .ok (.aload_n 0, 1) := by decide +kernel
theorem d1_15 : decode prog_125_method_1_code 15 = .ok (.iload_n 3, 1) := by decide +kernel
theorem d1_16 : decode prog_125_method_1_code 16 = .ok (.putfield 17, 3) := by decide +kernel
theorem d1_19 : decode prog_125_method_1_code 19 = .ok (.aload_n 0, 1) := by decide +kernel
theorem d1_20 : decode prog_125_method_1_code 20 = .ok (.dload 4, 2) := by decide +kernel
theorem d1_22 : decode prog_125_method_1_code 22 = .ok (.putfield 20, 3) := by decide +kernel
theorem d1_25 : decode prog_125_method_1_code 25 = .ok (.aload_n 0, 1) := by decide +kernel
theorem d1_26 : decode prog_125_method_1_code 26 = .ok (.iload 6, 2) := by decide +kernel
theorem d1_28 : decode prog_125_method_1_code 28 = .ok (.putfield 24, 3) := by decide +kernel
theorem d1_31 : decode prog_125_method_1_code 31 = .ok (.aload_n 0, 1) := by decide +kernel
theorem d1_32 : decode prog_125_method_1_code 32 = .ok (.aload 7, 2) := by decide +kernel
theorem d1_34 : decode prog_125_method_1_code 34 = .ok (.putfield 27, 3) := by decide +kernel
theorem d1_37 : decode prog_125_method_1_code 37 = .ok (.aload_n 0, 1) := by decide +kernel
theorem d1_38 : decode prog_125_method_1_code 38 = .ok (.iload 8, 2) := by decide +kernel
theorem d1_40 : decode prog_125_method_1_code 40 = .ok (.putfield 31, 3) := by decide +kernel
theorem d1_43 : decode prog_125_method_1_code 43 = .ok (.aload_n 0, 1) := by decide +kernel
theorem d1_44 : decode prog_125_method_1_code 44 = .ok (.dload 9, 2) := by decide +kernel
theorem d1_46 : decode prog_125_method_1_code 46 = .ok (.putfield 34, 3) := by decide +kernel
theorem d1_49 : decode prog_125_method_1_code 49 = .ok (.aload_n 0, 1) := by decide +kernel
theorem d1_50 : decode prog_125_method_1_code 50 = .ok (.iload 11, 2) := by decide +kernel
theorem d1_52 : decode prog_125_method_1_code 52 = .ok (.putfield 37, 3) := by decide +kernel
theorem d1_55 : decode prog_125_method_1_code 55 = .ok (.aload_n 0, 1) := by decide +kernel
theorem d1_56 : decode prog_125_method_1_code 56 = .ok (.iload 12, 2) := by decide +kernel
theorem d1_58 : decode prog_125_method_1_code 58 = .ok (.putfield 40, 3) := by decide +kernel
theorem d1_61 : decode prog_125_method_1_code 61 = .ok (.aload_n 0, 1) := by decide +kernel
theorem d1_62 : decode prog_125_method_1_code 62 = .ok (.iload 13, 2) := by decide +kernel
theorem d1_64 : decode prog_125_method_1_code 64 = .ok (.putfield 43, 3) := by decide +kernel
theorem d1_67 : decode prog_125_method_1_code 67 = .ok (.return_, 1) := by decide +kernel
theorem d4_0 : decode prog_125_method_5_code 0 = .ok (.aload_n 0, 1) := by decide +kernel
theorem d4_1 : decode prog_125_method_5_code 1 = .ok (.getfield 13, 3) := by decide +kernel
theorem d4_4 : decode prog_125_method_5_code 4 = .ok (.ifCond .ne 35, 3) := by decide +kernel
theorem d4_39 : decode prog_125_method_5_code 39 = .ok (.iconst 0, 1) := by decide +kernel
theorem d4_40 : decode prog_125_method_5_code 40 = .ok (.ireturn, 1) := by decide +kernel
theorem d4_7 : decode prog_125_method_5_code 7 = .ok (.aload_n 0, 1) := by decide +kernel
theorem d4_8 : decode prog_125_method_5_code 8 = .ok (.getfield 24, 3) := by decide +kernel
theorem d4_11 : decode prog_125_method_5_code 11 = .ok (.ifCond .ne 28, 3) := by decide +kernel
theorem d4_14 : decode prog_125_method_5_code 14 = .ok (.aload_n 0, 1) := by decide +kernel
theorem d4_15 : decode prog_125_method_5_code 15 = .ok (.getfield 27, 3) := by decide +kernel
theorem d4_18 : decode prog_125_method_5_code 18 = .ok (.ifnonnull 21, 3) := by decide +kernel
theorem d4_21 : decode prog_125_method_5_code 21 = .ok (.aload_n 0, 1) := by decide +kernel
theorem d4_22 : decode prog_125_method_5_code 22 = .ok (.getfield 31, 3) := by decide +kernel
theorem d4_25 : decode prog_125_method_5_code 25 = .ok (.ifCond .ne 14, 3) := by decide +kernel
theorem d4_28 : decode prog_125_method_5_code 28 = .ok (.aload_n 0, 1) := by decide +kernel
theorem d4_29 : decode prog_125_method_5_code 29 = .ok (.getfield 40, 3) := by decide +kernel
theorem d4_32 : decode prog_125_method_5_code 32 = .ok (.ifCond .ne 7, 3) := by decide +kernel
theorem d4_35 : decode prog_125_method_5_code 35 = .ok (.iconst 1, 1) := by decide +kernel
theorem d4_36 : decode prog_125_method_5_code 36 = .ok (.goto 4, 3) := by decide +kernel
theorem d5_0 : decode prog_125_method_3_code 0 = .ok (.new 8, 3) := by decide +kernel
theorem d5_3 : decode prog_125_method_3_code 3 = .ok (.dup, 1) := by decide +kernel
theorem d5_4 : decode prog_125_method_3_code 4 = .ok (.iload_n 0, 1) := by decide +kernel
theorem d5_5 : decode prog_125_method_3_code 5 = .ok (.iconst 0, 1) := by decide +kernel
theorem d5_6 : decode prog_125_method_3_code 6 = .ok (.iload_n 3, 1) := by decide +kernel
theorem d5_7 : decode prog_125_method_3_code 7 = .ok (.dload_n 1, 1) := by decide +kernel
theorem d5_8 : decode prog_125_method_3_code 8 = .ok (.iconst 0, 1) := by decide +kernel
theorem d5_9 : decode prog_125_method_3_code 9 = .ok (.aconst_null, 1) := by decide +kernel
theorem d5_10 : decode prog_125_method_3_code 10 = .ok (.iconst 0, 1) := by decide +kernel
theorem d5_11 : decode prog_125_method_3_code 11 = .ok (.dload_n 1, 1) := by decide +kernel
theorem d5_12 : decode prog_125_method_3_code 12 = .ok (.iload_n 3, 1) := by decide +kernel
theorem d5_13 : decode prog_125_method_3_code 13 = .ok (.iconst 0, 1) := by decide +kernel
theorem d5_14 : decode prog_125_method_3_code 14 = .ok (.iload 4, 2) := by decide +kernel
theorem d5_16 : decode prog_125_method_3_code 16 = .ok (.invokespecial 46, 3) := by decide +kernel
theorem d5_19 : decode prog_125_method_3_code 19 = .ok (.areturn, 1) := by decide +kernel
theorem d6_0 : decode prog_125_method_4_code 0 = .ok (.new 8, 3) := by decide +kernel
theorem d6_3 : decode prog_125_method_4_code 3 = .ok (.dup, 1) := by decide +kernel
theorem d6_4 : decode prog_125_method_4_code 4 = .ok (.iload_n 0, 1) := by decide +kernel
theorem d6_5 : decode prog_125_method_4_code 5 = .ok (.iconst 0, 1) := by decide +kernel
theorem d6_6 : decode prog_125_method_4_code 6 = .ok (.iload_n 3, 1) := by decide +kernel
theorem d6_7 : decode prog_125_method_4_code 7 = .ok (.dload_n 1, 1) := by decide +kernel
theorem d6_8 : decode prog_125_method_4_code 8 = .ok (.iconst 0, 1) := by decide +kernel
theorem d6_9 : decode prog_125_method_4_code 9 = .ok (.aconst_null, 1) := by decide +kernel
theorem d6_10 : decode prog_125_method_4_code 10 = .ok (.iconst 0, 1) := by decide +kernel
theorem d6_11 : decode prog_125_method_4_code 11 = .ok (.dload_n 1, 1) := by decide +kernel
theorem d6_12 : decode prog_125_method_4_code 12 = .ok (.iload_n 3, 1) := by decide +kernel
theorem d6_13 : decode prog_125_method_4_code 13 = .ok (.iconst 1, 1) := by decide +kernel
theorem d6_14 : decode prog_125_method_4_code 14 = .ok (.iconst 1, 1) := by decide +kernel
theorem d6_15 : decode prog_125_method_4_code 15 = .ok (.invokespecial 46, 3) := by decide +kernel
theorem d6_18 : decode prog_125_method_4_code 18 = .ok (.areturn, 1) := by decide +kernel

theorem own_or (x a b : Int32) (ha : x &&& a = 0) (hb : x &&& b = 0) : x &&& (a ||| b) = 0 := by
  have h1 : x.toBitVec &&& a.toBitVec = 0#32 := congrArg Int32.toBitVec ha
  have h2 : x.toBitVec &&& b.toBitVec = 0#32 := congrArg Int32.toBitVec hb
  apply Int32.toBitVec_inj.mp
  show x.toBitVec &&& (a.toBitVec ||| b.toBitVec) = 0#32
  rw [BitVec.and_or_distrib_left, h1, h2]; decide
theorem own_bits (x : Int32) : (x &&& 31).toInt = 0 ↔ (x &&& 1).toInt = 0 ∧ (x &&& 2).toInt = 0 ∧ (x &&& 4).toInt = 0 ∧ (x &&& 8).toInt = 0 ∧ (x &&& 16).toInt = 0 := by
  have Z : ∀ y : Int32, y.toInt = 0 ↔ y = 0 := fun y => ⟨fun h => Int32.toInt_inj.mp h, fun h => by rw [h]; rfl⟩
  simp only [Z]
  constructor
  · intro h
    have K : ∀ m : Int32, 31 &&& m = m → x &&& m = 0 := fun m hm => by rw [← hm, ← Int32.and_assoc, h, Int32.zero_and]
    exact ⟨K 1 (by decide), K 2 (by decide), K 4 (by decide), K 8 (by decide), K 16 (by decide)⟩
  · intro ⟨a, b, c, d, e⟩
    rw [show (31 : Int32) = 1 ||| 2 ||| 4 ||| 8 ||| 16 by decide]
    exact own_or _ _ _ (own_or _ _ _ (own_or _ _ _ (own_or _ _ _ a b) c) d) e
theorem own_cnt (x v : Int32) (e : x &&& (3 : Int32) = v) : ¬ v < 0 ∧ v.toNatClampNeg ≤ 3 := by
  have h1 := c_mask x 3 2 (by decide) (by decide)
  have h2 : 0 ≤ v.toInt ∧ v.toInt ≤ 3 := by rw [← e, h1]; omega
  refine ⟨fun q => ?_, ?_⟩
  · rw [Int32.lt_iff_toInt_lt] at q; have : (0 : Int32).toInt = 0 := by decide
    omega
  · have : v.toNatClampNeg = v.toInt.toNat := rfl
    omega

theorem ef_2 (m : MethodId) (x0 : Addr) : entryFrame m #[.ref x0] 1 = mkF m 0 #[.val (.ref x0)] [] := by first | (simp [entryFrame, mkF, argsToLocals, Value.category, maxLocals]; done) | rfl
set_option maxRecDepth 65536 in
set_option maxHeartbeats 40000000 in
theorem rm2 (l : Launch) (Z : State) (a0 : Array Value) (hw : ∀ d ∈ tables_1, d.before a0 Z = true) (a : Addr) (h0 : Heap) (n0 : Nat) (Z0 : n0 ≤ h0.size)  :
    Own.Con l Z mn_0 [] jdk_30_method_1_code 1 none ({ frames := 1, cells := 0, slots := 0, locals := 12 } : Room) #[.ref a] h0 n0 (fun v h => v = none ∧ h0 = h) := by
  refine Own.enter (own := "java/lang/Record") (nm := "<init>") (plainFor_of_name pn_java_lang_Record) rfl rfl (fun m => ef_2 m a) fun p e s m below meth c T X => ?_
  refine Own.aloadN X d2_0 rfl rfl ?_
  refine Own.initO_ X d2_1 (Own.wd hw 11 rfl) (Own.wd hw 12 rfl) (Own.wd hw 13 rfl) rfl (W := 0) (by decide) (Nat.le_of_eq rfl) (by decide) fun T1 X1 => ?_
  exact Own.retV X1 d2_4 ⟨rfl, rfl⟩ (by decide) (by decide)
theorem ef_1r (m : MethodId) (x0 : Addr) (x1 : Int32) (x2 : Int32) (x3 : Int32) (x4 : UInt64) (x5 : Int32) (x6 : Addr) (x7 : Int32) (x8 : UInt64) (x9 : Int32) (x10 : Int32) (x11 : Int32) : entryFrame m #[.ref x0, .int x1, .int x2, .int x3, .double x4, .int x5, .ref x6, .int x7, .double x8, .int x9, .int x10, .int x11] 14 = mkF m 0 #[.val (.ref x0), .val (.int x1), .val (.int x2), .val (.int x3), .val (.double x4), .second, .val (.int x5), .val (.ref x6), .val (.int x7), .val (.double x8), .second, .val (.int x9), .val (.int x10), .val (.int x11)] [] := by first | (simp [entryFrame, mkF, argsToLocals, Value.category, maxLocals]; done) | rfl
set_option maxRecDepth 65536 in
set_option maxHeartbeats 40000000 in
theorem rm1r (l : Launch) (Z : State) (a0 : Array Value) (hw : ∀ d ∈ tables_1, d.before a0 Z = true) (a : Addr) (p1 : Int32) (p2 : Int32) (p3 : Int32) (p4 : UInt64) (p5 : Int32) (p6 : Addr) (p7 : Int32) (p8 : UInt64) (p9 : Int32) (p10 : Int32) (p11 : Int32)  (h0 : Heap) (n0 : Nat) (Z0 : n0 ≤ h0.size) (ga : n0 ≤ a) (Ea : Exa Z h0 a "com/example/pliant/pliant/ml/VectorShare$Plan") (F0_pass : Fld Z h0 a "com/example/pliant/pliant/ml/VectorShare$Plan" "pass" "I" (.int (0 : Int32))) (F0_paired : Fld Z h0 a "com/example/pliant/pliant/ml/VectorShare$Plan" "paired" "Z" (.int (0 : Int32))) (F0_slot : Fld Z h0 a "com/example/pliant/pliant/ml/VectorShare$Plan" "slot" "I" (.int (0 : Int32))) (F0_step : Fld Z h0 a "com/example/pliant/pliant/ml/VectorShare$Plan" "step" "D" (.double 0)) (F0_fromPass : Fld Z h0 a "com/example/pliant/pliant/ml/VectorShare$Plan" "fromPass" "Z" (.int (0 : Int32))) (F0_direction : Fld Z h0 a "com/example/pliant/pliant/ml/VectorShare$Plan" "direction" "[D" (.null)) (F0_move : Fld Z h0 a "com/example/pliant/pliant/ml/VectorShare$Plan" "move" "Z" (.int (0 : Int32))) (F0_ahead : Fld Z h0 a "com/example/pliant/pliant/ml/VectorShare$Plan" "ahead" "D" (.double 0)) (F0_nextSlot : Fld Z h0 a "com/example/pliant/pliant/ml/VectorShare$Plan" "nextSlot" "I" (.int (0 : Int32))) (F0_scale : Fld Z h0 a "com/example/pliant/pliant/ml/VectorShare$Plan" "scale" "Z" (.int (0 : Int32))) (F0_scaled : Fld Z h0 a "com/example/pliant/pliant/ml/VectorShare$Plan" "scaled" "Z" (.int (0 : Int32))) (b_p2 : p2 &&& 1 = p2) (b_p5 : p5 &&& 1 = p5) (b_p7 : p7 &&& 1 = p7) (b_p10 : p10 &&& 1 = p10) (b_p11 : p11 &&& 1 = p11) :
    Own.Con l Z mn_2 [] prog_125_method_1_code 14 none ({ frames := 2, cells := 0, slots := 0, locals := 24 } : Room) #[.ref a, .int p1, .int p2, .int p3, .double p4, .int p5, .ref p6, .int p7, .double p8, .int p9, .int p10, .int p11] h0 n0 (fun v h => v = none ∧ Keep h0 h [a] ∧ Fld Z h a "com/example/pliant/pliant/ml/VectorShare$Plan" "pass" "I" (.int p1) ∧ Fld Z h a "com/example/pliant/pliant/ml/VectorShare$Plan" "paired" "Z" (.int p2) ∧ Fld Z h a "com/example/pliant/pliant/ml/VectorShare$Plan" "slot" "I" (.int p3) ∧ Fld Z h a "com/example/pliant/pliant/ml/VectorShare$Plan" "step" "D" (.double p4) ∧ Fld Z h a "com/example/pliant/pliant/ml/VectorShare$Plan" "fromPass" "Z" (.int p5) ∧ Fld Z h a "com/example/pliant/pliant/ml/VectorShare$Plan" "direction" "[D" (.ref p6) ∧ Fld Z h a "com/example/pliant/pliant/ml/VectorShare$Plan" "move" "Z" (.int p7) ∧ Fld Z h a "com/example/pliant/pliant/ml/VectorShare$Plan" "ahead" "D" (.double p8) ∧ Fld Z h a "com/example/pliant/pliant/ml/VectorShare$Plan" "nextSlot" "I" (.int p9) ∧ Fld Z h a "com/example/pliant/pliant/ml/VectorShare$Plan" "scale" "Z" (.int p10) ∧ Fld Z h a "com/example/pliant/pliant/ml/VectorShare$Plan" "scaled" "Z" (.int p11)) := by
  refine Own.enter (own := "com/example/pliant/pliant/ml/VectorShare$Plan") (nm := "<init>") (plainFor_of_name pn_com_example_pliant_pliant_ml_VectorShare_Plan) rfl rfl (fun m => ef_1r m a p1 p2 p3 p4 p5 p6 p7 p8 p9 p10 p11) fun p e s m below meth c T X => ?_
  refine Own.aloadN X d1_0 rfl rfl ?_
  refine Own.callI_ (y := mn_0) (a := a) X d1_1 rfl (Own.wd hw 6 rfl) (Own.wd hw 7 rfl) (Own.wd hw 9 rfl) (Own.wd hw 10 rfl) (by decide) (rm2 l Z a0 hw a h0 n0 Z0) (lenOf pd_1 rfl) rfl (argsL := []) (rest := []) rfl (W := 0) (Nat.le_of_eq rfl) (by decide) (by decide) (by decide) (by decide) fun T1 h1 v1 X1 q1 => ?_
  obtain ⟨rfl, rfl⟩ := q1
  show Own.Go p e below s n0 _ _ _ (T1.setTop (mkF m 4 _ []))
  refine Own.aloadN X1 d1_4 rfl rfl ?_
  refine Own.iloadN X1 d1_5 rfl ?_
  refine Own.putF_ X1 d1_6 (host := "") (Or.inl (Own.wd hw 14 rfl)) Via.refl F0_pass Ea (Or.inr ⟨(Own.wd hw 15 rfl), rfl, rfl⟩) (Own.wd hw 1 rfl) (ty := .int) (by decide) rfl rfl ga fun T2 h2 X2 W2 => ?_
  have F3 := Ea.wr W2
  have F4 := (Keep.refl h0 [a]).wr W2 (Or.inl (List.mem_of_getElem? (i := 0) rfl))
  have F5 := F0_paired.other W2 (Or.inr (slot_ne (Or.inr (Own.wd hw 17 rfl)) (Or.inr (Own.wd hw 15 rfl)) (by decide) (t := .boolean) (t' := .int) (by decide) (by decide)))
  have F6 := F0_slot.other W2 (Or.inr (slot_ne (Or.inr (Own.wd hw 19 rfl)) (Or.inr (Own.wd hw 15 rfl)) (by decide) (t := .int) (t' := .int) (by decide) (by decide)))
  have F7 := F0_step.other W2 (Or.inr (slot_ne (Or.inr (Own.wd hw 21 rfl)) (Or.inr (Own.wd hw 15 rfl)) (by decide) (t := .double) (t' := .int) (by decide) (by decide)))
  have F8 := F0_fromPass.other W2 (Or.inr (slot_ne (Or.inr (Own.wd hw 23 rfl)) (Or.inr (Own.wd hw 15 rfl)) (by decide) (t := .boolean) (t' := .int) (by decide) (by decide)))
  have F9 := F0_direction.other W2 (Or.inr (slot_ne (Or.inr (Own.wd hw 25 rfl)) (Or.inr (Own.wd hw 15 rfl)) (by decide) (t := (.array .double)) (t' := .int) (by decide) (by decide)))
  have F10 := F0_move.other W2 (Or.inr (slot_ne (Or.inr (Own.wd hw 27 rfl)) (Or.inr (Own.wd hw 15 rfl)) (by decide) (t := .boolean) (t' := .int) (by decide) (by decide)))
  have F11 := F0_ahead.other W2 (Or.inr (slot_ne (Or.inr (Own.wd hw 29 rfl)) (Or.inr (Own.wd hw 15 rfl)) (by decide) (t := .double) (t' := .int) (by decide) (by decide)))
  have F12 := F0_nextSlot.other W2 (Or.inr (slot_ne (Or.inr (Own.wd hw 31 rfl)) (Or.inr (Own.wd hw 15 rfl)) (by decide) (t := .int) (t' := .int) (by decide) (by decide)))
  have F13 := F0_scale.other W2 (Or.inr (slot_ne (Or.inr (Own.wd hw 33 rfl)) (Or.inr (Own.wd hw 15 rfl)) (by decide) (t := .boolean) (t' := .int) (by decide) (by decide)))
  have F14 := F0_scaled.other W2 (Or.inr (slot_ne (Or.inr (Own.wd hw 35 rfl)) (Or.inr (Own.wd hw 15 rfl)) (by decide) (t := .boolean) (t' := .int) (by decide) (by decide)))
  have F15 : Fld Z h2 a "com/example/pliant/pliant/ml/VectorShare$Plan" "pass" "I" (.int p1) := Fld.same W2 F0_pass
  have Z16 : n0 ≤ h2.size := by rw [W2.size]; exact Z0
  refine Own.aloadN X2 d1_9 rfl rfl ?_
  refine Own.iloadN X2 d1_10 rfl ?_
  refine Own.putF_ X2 d1_11 (host := "") (Or.inl (Own.wd hw 16 rfl)) Via.refl F5 F3 (Or.inr ⟨(Own.wd hw 17 rfl), rfl, rfl⟩) (Own.wd hw 1 rfl) (ty := .boolean) (by decide) (Own.nar_z b_p2) (Own.fits_z b_p2) ga fun T17 h17 X17 W17 => ?_
  have F18 := F3.wr W17
  have F19 := F4.wr W17 (Or.inl (List.mem_of_getElem? (i := 0) rfl))
  have F20 := F6.other W17 (Or.inr (slot_ne (Or.inr (Own.wd hw 19 rfl)) (Or.inr (Own.wd hw 17 rfl)) (by decide) (t := .int) (t' := .boolean) (by decide) (by decide)))
  have F21 := F7.other W17 (Or.inr (slot_ne (Or.inr (Own.wd hw 21 rfl)) (Or.inr (Own.wd hw 17 rfl)) (by decide) (t := .double) (t' := .boolean) (by decide) (by decide)))
  have F22 := F8.other W17 (Or.inr (slot_ne (Or.inr (Own.wd hw 23 rfl)) (Or.inr (Own.wd hw 17 rfl)) (by decide) (t := .boolean) (t' := .boolean) (by decide) (by decide)))
  have F23 := F9.other W17 (Or.inr (slot_ne (Or.inr (Own.wd hw 25 rfl)) (Or.inr (Own.wd hw 17 rfl)) (by decide) (t := (.array .double)) (t' := .boolean) (by decide) (by decide)))
  have F24 := F10.other W17 (Or.inr (slot_ne (Or.inr (Own.wd hw 27 rfl)) (Or.inr (Own.wd hw 17 rfl)) (by decide) (t := .boolean) (t' := .boolean) (by decide) (by decide)))
  have F25 := F11.other W17 (Or.inr (slot_ne (Or.inr (Own.wd hw 29 rfl)) (Or.inr (Own.wd hw 17 rfl)) (by decide) (t := .double) (t' := .boolean) (by decide) (by decide)))
  have F26 := F12.other W17 (Or.inr (slot_ne (Or.inr (Own.wd hw 31 rfl)) (Or.inr (Own.wd hw 17 rfl)) (by decide) (t := .int) (t' := .boolean) (by decide) (by decide)))
  have F27 := F13.other W17 (Or.inr (slot_ne (Or.inr (Own.wd hw 33 rfl)) (Or.inr (Own.wd hw 17 rfl)) (by decide) (t := .boolean) (t' := .boolean) (by decide) (by decide)))
  have F28 := F14.other W17 (Or.inr (slot_ne (Or.inr (Own.wd hw 35 rfl)) (Or.inr (Own.wd hw 17 rfl)) (by decide) (t := .boolean) (t' := .boolean) (by decide) (by decide)))
  have F29 := F15.other W17 (Or.inr (slot_ne (Or.inr (Own.wd hw 15 rfl)) (Or.inr (Own.wd hw 17 rfl)) (by decide) (t := .int) (t' := .boolean) (by decide) (by decide)))
  have F30 : Fld Z h17 a "com/example/pliant/pliant/ml/VectorShare$Plan" "paired" "Z" (.int p2) := Fld.same W17 F5
  have Z31 : n0 ≤ h17.size := by rw [W17.size]; exact Z16
  refine Own.aloadN X17 d1_14 rfl rfl ?_
  refine Own.iloadN X17 d1_15 rfl ?_
  refine Own.putF_ X17 d1_16 (host := "") (Or.inl (Own.wd hw 18 rfl)) Via.refl F20 F18 (Or.inr ⟨(Own.wd hw 19 rfl), rfl, rfl⟩) (Own.wd hw 1 rfl) (ty := .int) (by decide) rfl rfl ga fun T32 h32 X32 W32 => ?_
  have F33 := F18.wr W32
  have F34 := F19.wr W32 (Or.inl (List.mem_of_getElem? (i := 0) rfl))
  have F35 := F21.other W32 (Or.inr (slot_ne (Or.inr (Own.wd hw 21 rfl)) (Or.inr (Own.wd hw 19 rfl)) (by decide) (t := .double) (t' := .int) (by decide) (by decide)))
  have F36 := F22.other W32 (Or.inr (slot_ne (Or.inr (Own.wd hw 23 rfl)) (Or.inr (Own.wd hw 19 rfl)) (by decide) (t := .boolean) (t' := .int) (by decide) (by decide)))
  have F37 := F23.other W32 (Or.inr (slot_ne (Or.inr (Own.wd hw 25 rfl)) (Or.inr (Own.wd hw 19 rfl)) (by decide) (t := (.array .double)) (t' := .int) (by decide) (by decide)))
  have F38 := F24.other W32 (Or.inr (slot_ne (Or.inr (Own.wd hw 27 rfl)) (Or.inr (Own.wd hw 19 rfl)) (by decide) (t := .boolean) (t' := .int) (by decide) (by decide)))
  have F39 := F25.other W32 (Or.inr (slot_ne (Or.inr (Own.wd hw 29 rfl)) (Or.inr (Own.wd hw 19 rfl)) (by decide) (t := .double) (t' := .int) (by decide) (by decide)))
  have F40 := F26.other W32 (Or.inr (slot_ne (Or.inr (Own.wd hw 31 rfl)) (Or.inr (Own.wd hw 19 rfl)) (by decide) (t := .int) (t' := .int) (by decide) (by decide)))
  have F41 := F27.other W32 (Or.inr (slot_ne (Or.inr (Own.wd hw 33 rfl)) (Or.inr (Own.wd hw 19 rfl)) (by decide) (t := .boolean) (t' := .int) (by decide) (by decide)))
  have F42 := F28.other W32 (Or.inr (slot_ne (Or.inr (Own.wd hw 35 rfl)) (Or.inr (Own.wd hw 19 rfl)) (by decide) (t := .boolean) (t' := .int) (by decide) (by decide)))
  have F43 := F29.other W32 (Or.inr (slot_ne (Or.inr (Own.wd hw 15 rfl)) (Or.inr (Own.wd hw 19 rfl)) (by decide) (t := .int) (t' := .int) (by decide) (by decide)))
  have F44 := F30.other W32 (Or.inr (slot_ne (Or.inr (Own.wd hw 17 rfl)) (Or.inr (Own.wd hw 19 rfl)) (by decide) (t := .boolean) (t' := .int) (by decide) (by decide)))
  have F45 : Fld Z h32 a "com/example/pliant/pliant/ml/VectorShare$Plan" "slot" "I" (.int p3) := Fld.same W32 F20
  have Z46 : n0 ≤ h32.size := by rw [W32.size]; exact Z31
  refine Own.aloadN X32 d1_19 rfl rfl ?_
  refine Own.dload X32 d1_20 rfl ?_
  refine Own.putF_ X32 d1_22 (host := "") (Or.inl (Own.wd hw 20 rfl)) Via.refl F35 F33 (Or.inr ⟨(Own.wd hw 21 rfl), rfl, rfl⟩) (Own.wd hw 1 rfl) (ty := .double) (by decide) rfl rfl ga fun T47 h47 X47 W47 => ?_
  have F48 := F33.wr W47
  have F49 := F34.wr W47 (Or.inl (List.mem_of_getElem? (i := 0) rfl))
  have F50 := F36.other W47 (Or.inr (slot_ne (Or.inr (Own.wd hw 23 rfl)) (Or.inr (Own.wd hw 21 rfl)) (by decide) (t := .boolean) (t' := .double) (by decide) (by decide)))
  have F51 := F37.other W47 (Or.inr (slot_ne (Or.inr (Own.wd hw 25 rfl)) (Or.inr (Own.wd hw 21 rfl)) (by decide) (t := (.array .double)) (t' := .double) (by decide) (by decide)))
  have F52 := F38.other W47 (Or.inr (slot_ne (Or.inr (Own.wd hw 27 rfl)) (Or.inr (Own.wd hw 21 rfl)) (by decide) (t := .boolean) (t' := .double) (by decide) (by decide)))
  have F53 := F39.other W47 (Or.inr (slot_ne (Or.inr (Own.wd hw 29 rfl)) (Or.inr (Own.wd hw 21 rfl)) (by decide) (t := .double) (t' := .double) (by decide) (by decide)))
  have F54 := F40.other W47 (Or.inr (slot_ne (Or.inr (Own.wd hw 31 rfl)) (Or.inr (Own.wd hw 21 rfl)) (by decide) (t := .int) (t' := .double) (by decide) (by decide)))
  have F55 := F41.other W47 (Or.inr (slot_ne (Or.inr (Own.wd hw 33 rfl)) (Or.inr (Own.wd hw 21 rfl)) (by decide) (t := .boolean) (t' := .double) (by decide) (by decide)))
  have F56 := F42.other W47 (Or.inr (slot_ne (Or.inr (Own.wd hw 35 rfl)) (Or.inr (Own.wd hw 21 rfl)) (by decide) (t := .boolean) (t' := .double) (by decide) (by decide)))
  have F57 := F43.other W47 (Or.inr (slot_ne (Or.inr (Own.wd hw 15 rfl)) (Or.inr (Own.wd hw 21 rfl)) (by decide) (t := .int) (t' := .double) (by decide) (by decide)))
  have F58 := F44.other W47 (Or.inr (slot_ne (Or.inr (Own.wd hw 17 rfl)) (Or.inr (Own.wd hw 21 rfl)) (by decide) (t := .boolean) (t' := .double) (by decide) (by decide)))
  have F59 := F45.other W47 (Or.inr (slot_ne (Or.inr (Own.wd hw 19 rfl)) (Or.inr (Own.wd hw 21 rfl)) (by decide) (t := .int) (t' := .double) (by decide) (by decide)))
  have F60 : Fld Z h47 a "com/example/pliant/pliant/ml/VectorShare$Plan" "step" "D" (.double p4) := Fld.same W47 F35
  have Z61 : n0 ≤ h47.size := by rw [W47.size]; exact Z46
  refine Own.aloadN X47 d1_25 rfl rfl ?_
  refine Own.iload X47 d1_26 rfl ?_
  refine Own.putF_ X47 d1_28 (host := "") (Or.inl (Own.wd hw 22 rfl)) Via.refl F50 F48 (Or.inr ⟨(Own.wd hw 23 rfl), rfl, rfl⟩) (Own.wd hw 1 rfl) (ty := .boolean) (by decide) (Own.nar_z b_p5) (Own.fits_z b_p5) ga fun T62 h62 X62 W62 => ?_
  have F63 := F48.wr W62
  have F64 := F49.wr W62 (Or.inl (List.mem_of_getElem? (i := 0) rfl))
  have F65 := F51.other W62 (Or.inr (slot_ne (Or.inr (Own.wd hw 25 rfl)) (Or.inr (Own.wd hw 23 rfl)) (by decide) (t := (.array .double)) (t' := .boolean) (by decide) (by decide)))
  have F66 := F52.other W62 (Or.inr (slot_ne (Or.inr (Own.wd hw 27 rfl)) (Or.inr (Own.wd hw 23 rfl)) (by decide) (t := .boolean) (t' := .boolean) (by decide) (by decide)))
  have F67 := F53.other W62 (Or.inr (slot_ne (Or.inr (Own.wd hw 29 rfl)) (Or.inr (Own.wd hw 23 rfl)) (by decide) (t := .double) (t' := .boolean) (by decide) (by decide)))
  have F68 := F54.other W62 (Or.inr (slot_ne (Or.inr (Own.wd hw 31 rfl)) (Or.inr (Own.wd hw 23 rfl)) (by decide) (t := .int) (t' := .boolean) (by decide) (by decide)))
  have F69 := F55.other W62 (Or.inr (slot_ne (Or.inr (Own.wd hw 33 rfl)) (Or.inr (Own.wd hw 23 rfl)) (by decide) (t := .boolean) (t' := .boolean) (by decide) (by decide)))
  have F70 := F56.other W62 (Or.inr (slot_ne (Or.inr (Own.wd hw 35 rfl)) (Or.inr (Own.wd hw 23 rfl)) (by decide) (t := .boolean) (t' := .boolean) (by decide) (by decide)))
  have F71 := F57.other W62 (Or.inr (slot_ne (Or.inr (Own.wd hw 15 rfl)) (Or.inr (Own.wd hw 23 rfl)) (by decide) (t := .int) (t' := .boolean) (by decide) (by decide)))
  have F72 := F58.other W62 (Or.inr (slot_ne (Or.inr (Own.wd hw 17 rfl)) (Or.inr (Own.wd hw 23 rfl)) (by decide) (t := .boolean) (t' := .boolean) (by decide) (by decide)))
  have F73 := F59.other W62 (Or.inr (slot_ne (Or.inr (Own.wd hw 19 rfl)) (Or.inr (Own.wd hw 23 rfl)) (by decide) (t := .int) (t' := .boolean) (by decide) (by decide)))
  have F74 := F60.other W62 (Or.inr (slot_ne (Or.inr (Own.wd hw 21 rfl)) (Or.inr (Own.wd hw 23 rfl)) (by decide) (t := .double) (t' := .boolean) (by decide) (by decide)))
  have F75 : Fld Z h62 a "com/example/pliant/pliant/ml/VectorShare$Plan" "fromPass" "Z" (.int p5) := Fld.same W62 F50
  have Z76 : n0 ≤ h62.size := by rw [W62.size]; exact Z61
  refine Own.aloadN X62 d1_31 rfl rfl ?_
  refine Own.aload X62 d1_32 rfl rfl ?_
  refine Own.putF_ X62 d1_34 (host := "") (Or.inl (Own.wd hw 24 rfl)) Via.refl F65 F63 (Or.inr ⟨(Own.wd hw 25 rfl), rfl, rfl⟩) (Own.wd hw 1 rfl) (ty := (.array .double)) (by decide) rfl rfl ga fun T77 h77 X77 W77 => ?_
  have F78 := F63.wr W77
  have F79 := F64.wr W77 (Or.inl (List.mem_of_getElem? (i := 0) rfl))
  have F80 := F66.other W77 (Or.inr (slot_ne (Or.inr (Own.wd hw 27 rfl)) (Or.inr (Own.wd hw 25 rfl)) (by decide) (t := .boolean) (t' := (.array .double)) (by decide) (by decide)))
  have F81 := F67.other W77 (Or.inr (slot_ne (Or.inr (Own.wd hw 29 rfl)) (Or.inr (Own.wd hw 25 rfl)) (by decide) (t := .double) (t' := (.array .double)) (by decide) (by decide)))
  have F82 := F68.other W77 (Or.inr (slot_ne (Or.inr (Own.wd hw 31 rfl)) (Or.inr (Own.wd hw 25 rfl)) (by decide) (t := .int) (t' := (.array .double)) (by decide) (by decide)))
  have F83 := F69.other W77 (Or.inr (slot_ne (Or.inr (Own.wd hw 33 rfl)) (Or.inr (Own.wd hw 25 rfl)) (by decide) (t := .boolean) (t' := (.array .double)) (by decide) (by decide)))
  have F84 := F70.other W77 (Or.inr (slot_ne (Or.inr (Own.wd hw 35 rfl)) (Or.inr (Own.wd hw 25 rfl)) (by decide) (t := .boolean) (t' := (.array .double)) (by decide) (by decide)))
  have F85 := F71.other W77 (Or.inr (slot_ne (Or.inr (Own.wd hw 15 rfl)) (Or.inr (Own.wd hw 25 rfl)) (by decide) (t := .int) (t' := (.array .double)) (by decide) (by decide)))
  have F86 := F72.other W77 (Or.inr (slot_ne (Or.inr (Own.wd hw 17 rfl)) (Or.inr (Own.wd hw 25 rfl)) (by decide) (t := .boolean) (t' := (.array .double)) (by decide) (by decide)))
  have F87 := F73.other W77 (Or.inr (slot_ne (Or.inr (Own.wd hw 19 rfl)) (Or.inr (Own.wd hw 25 rfl)) (by decide) (t := .int) (t' := (.array .double)) (by decide) (by decide)))
  have F88 := F74.other W77 (Or.inr (slot_ne (Or.inr (Own.wd hw 21 rfl)) (Or.inr (Own.wd hw 25 rfl)) (by decide) (t := .double) (t' := (.array .double)) (by decide) (by decide)))
  have F89 := F75.other W77 (Or.inr (slot_ne (Or.inr (Own.wd hw 23 rfl)) (Or.inr (Own.wd hw 25 rfl)) (by decide) (t := .boolean) (t' := (.array .double)) (by decide) (by decide)))
  have F90 : Fld Z h77 a "com/example/pliant/pliant/ml/VectorShare$Plan" "direction" "[D" (.ref p6) := Fld.same W77 F65
  have Z91 : n0 ≤ h77.size := by rw [W77.size]; exact Z76
  refine Own.aloadN X77 d1_37 rfl rfl ?_
  refine Own.iload X77 d1_38 rfl ?_
  refine Own.putF_ X77 d1_40 (host := "") (Or.inl (Own.wd hw 26 rfl)) Via.refl F80 F78 (Or.inr ⟨(Own.wd hw 27 rfl), rfl, rfl⟩) (Own.wd hw 1 rfl) (ty := .boolean) (by decide) (Own.nar_z b_p7) (Own.fits_z b_p7) ga fun T92 h92 X92 W92 => ?_
  have F93 := F78.wr W92
  have F94 := F79.wr W92 (Or.inl (List.mem_of_getElem? (i := 0) rfl))
  have F95 := F81.other W92 (Or.inr (slot_ne (Or.inr (Own.wd hw 29 rfl)) (Or.inr (Own.wd hw 27 rfl)) (by decide) (t := .double) (t' := .boolean) (by decide) (by decide)))
  have F96 := F82.other W92 (Or.inr (slot_ne (Or.inr (Own.wd hw 31 rfl)) (Or.inr (Own.wd hw 27 rfl)) (by decide) (t := .int) (t' := .boolean) (by decide) (by decide)))
  have F97 := F83.other W92 (Or.inr (slot_ne (Or.inr (Own.wd hw 33 rfl)) (Or.inr (Own.wd hw 27 rfl)) (by decide) (t := .boolean) (t' := .boolean) (by decide) (by decide)))
  have F98 := F84.other W92 (Or.inr (slot_ne (Or.inr (Own.wd hw 35 rfl)) (Or.inr (Own.wd hw 27 rfl)) (by decide) (t := .boolean) (t' := .boolean) (by decide) (by decide)))
  have F99 := F85.other W92 (Or.inr (slot_ne (Or.inr (Own.wd hw 15 rfl)) (Or.inr (Own.wd hw 27 rfl)) (by decide) (t := .int) (t' := .boolean) (by decide) (by decide)))
  have F100 := F86.other W92 (Or.inr (slot_ne (Or.inr (Own.wd hw 17 rfl)) (Or.inr (Own.wd hw 27 rfl)) (by decide) (t := .boolean) (t' := .boolean) (by decide) (by decide)))
  have F101 := F87.other W92 (Or.inr (slot_ne (Or.inr (Own.wd hw 19 rfl)) (Or.inr (Own.wd hw 27 rfl)) (by decide) (t := .int) (t' := .boolean) (by decide) (by decide)))
  have F102 := F88.other W92 (Or.inr (slot_ne (Or.inr (Own.wd hw 21 rfl)) (Or.inr (Own.wd hw 27 rfl)) (by decide) (t := .double) (t' := .boolean) (by decide) (by decide)))
  have F103 := F89.other W92 (Or.inr (slot_ne (Or.inr (Own.wd hw 23 rfl)) (Or.inr (Own.wd hw 27 rfl)) (by decide) (t := .boolean) (t' := .boolean) (by decide) (by decide)))
  have F104 := F90.other W92 (Or.inr (slot_ne (Or.inr (Own.wd hw 25 rfl)) (Or.inr (Own.wd hw 27 rfl)) (by decide) (t := (.array .double)) (t' := .boolean) (by decide) (by decide)))
  have F105 : Fld Z h92 a "com/example/pliant/pliant/ml/VectorShare$Plan" "move" "Z" (.int p7) := Fld.same W92 F80
  have Z106 : n0 ≤ h92.size := by rw [W92.size]; exact Z91
  refine Own.aloadN X92 d1_43 rfl rfl ?_
  refine Own.dload X92 d1_44 rfl ?_
  refine Own.putF_ X92 d1_46 (host := "") (Or.inl (Own.wd hw 28 rfl)) Via.refl F95 F93 (Or.inr ⟨(Own.wd hw 29 rfl), rfl, rfl⟩) (Own.wd hw 1 rfl) (ty := .double) (by decide) rfl rfl ga fun T107 h107 X107 W107 => ?_
  have F108 := F93.wr W107
  have F109 := F94.wr W107 (Or.inl (List.mem_of_getElem? (i := 0) rfl))
  have F110 := F96.other W107 (Or.inr (slot_ne (Or.inr (Own.wd hw 31 rfl)) (Or.inr (Own.wd hw 29 rfl)) (by decide) (t := .int) (t' := .double) (by decide) (by decide)))
  have F111 := F97.other W107 (Or.inr (slot_ne (Or.inr (Own.wd hw 33 rfl)) (Or.inr (Own.wd hw 29 rfl)) (by decide) (t := .boolean) (t' := .double) (by decide) (by decide)))
  have F112 := F98.other W107 (Or.inr (slot_ne (Or.inr (Own.wd hw 35 rfl)) (Or.inr (Own.wd hw 29 rfl)) (by decide) (t := .boolean) (t' := .double) (by decide) (by decide)))
  have F113 := F99.other W107 (Or.inr (slot_ne (Or.inr (Own.wd hw 15 rfl)) (Or.inr (Own.wd hw 29 rfl)) (by decide) (t := .int) (t' := .double) (by decide) (by decide)))
  have F114 := F100.other W107 (Or.inr (slot_ne (Or.inr (Own.wd hw 17 rfl)) (Or.inr (Own.wd hw 29 rfl)) (by decide) (t := .boolean) (t' := .double) (by decide) (by decide)))
  have F115 := F101.other W107 (Or.inr (slot_ne (Or.inr (Own.wd hw 19 rfl)) (Or.inr (Own.wd hw 29 rfl)) (by decide) (t := .int) (t' := .double) (by decide) (by decide)))
  have F116 := F102.other W107 (Or.inr (slot_ne (Or.inr (Own.wd hw 21 rfl)) (Or.inr (Own.wd hw 29 rfl)) (by decide) (t := .double) (t' := .double) (by decide) (by decide)))
  have F117 := F103.other W107 (Or.inr (slot_ne (Or.inr (Own.wd hw 23 rfl)) (Or.inr (Own.wd hw 29 rfl)) (by decide) (t := .boolean) (t' := .double) (by decide) (by decide)))
  have F118 := F104.other W107 (Or.inr (slot_ne (Or.inr (Own.wd hw 25 rfl)) (Or.inr (Own.wd hw 29 rfl)) (by decide) (t := (.array .double)) (t' := .double) (by decide) (by decide)))
  have F119 := F105.other W107 (Or.inr (slot_ne (Or.inr (Own.wd hw 27 rfl)) (Or.inr (Own.wd hw 29 rfl)) (by decide) (t := .boolean) (t' := .double) (by decide) (by decide)))
  have F120 : Fld Z h107 a "com/example/pliant/pliant/ml/VectorShare$Plan" "ahead" "D" (.double p8) := Fld.same W107 F95
  have Z121 : n0 ≤ h107.size := by rw [W107.size]; exact Z106
  refine Own.aloadN X107 d1_49 rfl rfl ?_
  refine Own.iload X107 d1_50 rfl ?_
  refine Own.putF_ X107 d1_52 (host := "") (Or.inl (Own.wd hw 30 rfl)) Via.refl F110 F108 (Or.inr ⟨(Own.wd hw 31 rfl), rfl, rfl⟩) (Own.wd hw 1 rfl) (ty := .int) (by decide) rfl rfl ga fun T122 h122 X122 W122 => ?_
  have F123 := F108.wr W122
  have F124 := F109.wr W122 (Or.inl (List.mem_of_getElem? (i := 0) rfl))
  have F125 := F111.other W122 (Or.inr (slot_ne (Or.inr (Own.wd hw 33 rfl)) (Or.inr (Own.wd hw 31 rfl)) (by decide) (t := .boolean) (t' := .int) (by decide) (by decide)))
  have F126 := F112.other W122 (Or.inr (slot_ne (Or.inr (Own.wd hw 35 rfl)) (Or.inr (Own.wd hw 31 rfl)) (by decide) (t := .boolean) (t' := .int) (by decide) (by decide)))
  have F127 := F113.other W122 (Or.inr (slot_ne (Or.inr (Own.wd hw 15 rfl)) (Or.inr (Own.wd hw 31 rfl)) (by decide) (t := .int) (t' := .int) (by decide) (by decide)))
  have F128 := F114.other W122 (Or.inr (slot_ne (Or.inr (Own.wd hw 17 rfl)) (Or.inr (Own.wd hw 31 rfl)) (by decide) (t := .boolean) (t' := .int) (by decide) (by decide)))
  have F129 := F115.other W122 (Or.inr (slot_ne (Or.inr (Own.wd hw 19 rfl)) (Or.inr (Own.wd hw 31 rfl)) (by decide) (t := .int) (t' := .int) (by decide) (by decide)))
  have F130 := F116.other W122 (Or.inr (slot_ne (Or.inr (Own.wd hw 21 rfl)) (Or.inr (Own.wd hw 31 rfl)) (by decide) (t := .double) (t' := .int) (by decide) (by decide)))
  have F131 := F117.other W122 (Or.inr (slot_ne (Or.inr (Own.wd hw 23 rfl)) (Or.inr (Own.wd hw 31 rfl)) (by decide) (t := .boolean) (t' := .int) (by decide) (by decide)))
  have F132 := F118.other W122 (Or.inr (slot_ne (Or.inr (Own.wd hw 25 rfl)) (Or.inr (Own.wd hw 31 rfl)) (by decide) (t := (.array .double)) (t' := .int) (by decide) (by decide)))
  have F133 := F119.other W122 (Or.inr (slot_ne (Or.inr (Own.wd hw 27 rfl)) (Or.inr (Own.wd hw 31 rfl)) (by decide) (t := .boolean) (t' := .int) (by decide) (by decide)))
  have F134 := F120.other W122 (Or.inr (slot_ne (Or.inr (Own.wd hw 29 rfl)) (Or.inr (Own.wd hw 31 rfl)) (by decide) (t := .double) (t' := .int) (by decide) (by decide)))
  have F135 : Fld Z h122 a "com/example/pliant/pliant/ml/VectorShare$Plan" "nextSlot" "I" (.int p9) := Fld.same W122 F110
  have Z136 : n0 ≤ h122.size := by rw [W122.size]; exact Z121
  refine Own.aloadN X122 d1_55 rfl rfl ?_
  refine Own.iload X122 d1_56 rfl ?_
  refine Own.putF_ X122 d1_58 (host := "") (Or.inl (Own.wd hw 32 rfl)) Via.refl F125 F123 (Or.inr ⟨(Own.wd hw 33 rfl), rfl, rfl⟩) (Own.wd hw 1 rfl) (ty := .boolean) (by decide) (Own.nar_z b_p10) (Own.fits_z b_p10) ga fun T137 h137 X137 W137 => ?_
  have F138 := F123.wr W137
  have F139 := F124.wr W137 (Or.inl (List.mem_of_getElem? (i := 0) rfl))
  have F140 := F126.other W137 (Or.inr (slot_ne (Or.inr (Own.wd hw 35 rfl)) (Or.inr (Own.wd hw 33 rfl)) (by decide) (t := .boolean) (t' := .boolean) (by decide) (by decide)))
  have F141 := F127.other W137 (Or.inr (slot_ne (Or.inr (Own.wd hw 15 rfl)) (Or.inr (Own.wd hw 33 rfl)) (by decide) (t := .int) (t' := .boolean) (by decide) (by decide)))
  have F142 := F128.other W137 (Or.inr (slot_ne (Or.inr (Own.wd hw 17 rfl)) (Or.inr (Own.wd hw 33 rfl)) (by decide) (t := .boolean) (t' := .boolean) (by decide) (by decide)))
  have F143 := F129.other W137 (Or.inr (slot_ne (Or.inr (Own.wd hw 19 rfl)) (Or.inr (Own.wd hw 33 rfl)) (by decide) (t := .int) (t' := .boolean) (by decide) (by decide)))
  have F144 := F130.other W137 (Or.inr (slot_ne (Or.inr (Own.wd hw 21 rfl)) (Or.inr (Own.wd hw 33 rfl)) (by decide) (t := .double) (t' := .boolean) (by decide) (by decide)))
  have F145 := F131.other W137 (Or.inr (slot_ne (Or.inr (Own.wd hw 23 rfl)) (Or.inr (Own.wd hw 33 rfl)) (by decide) (t := .boolean) (t' := .boolean) (by decide) (by decide)))
  have F146 := F132.other W137 (Or.inr (slot_ne (Or.inr (Own.wd hw 25 rfl)) (Or.inr (Own.wd hw 33 rfl)) (by decide) (t := (.array .double)) (t' := .boolean) (by decide) (by decide)))
  have F147 := F133.other W137 (Or.inr (slot_ne (Or.inr (Own.wd hw 27 rfl)) (Or.inr (Own.wd hw 33 rfl)) (by decide) (t := .boolean) (t' := .boolean) (by decide) (by decide)))
  have F148 := F134.other W137 (Or.inr (slot_ne (Or.inr (Own.wd hw 29 rfl)) (Or.inr (Own.wd hw 33 rfl)) (by decide) (t := .double) (t' := .boolean) (by decide) (by decide)))
  have F149 := F135.other W137 (Or.inr (slot_ne (Or.inr (Own.wd hw 31 rfl)) (Or.inr (Own.wd hw 33 rfl)) (by decide) (t := .int) (t' := .boolean) (by decide) (by decide)))
  have F150 : Fld Z h137 a "com/example/pliant/pliant/ml/VectorShare$Plan" "scale" "Z" (.int p10) := Fld.same W137 F125
  have Z151 : n0 ≤ h137.size := by rw [W137.size]; exact Z136
  refine Own.aloadN X137 d1_61 rfl rfl ?_
  refine Own.iload X137 d1_62 rfl ?_
  refine Own.putF_ X137 d1_64 (host := "") (Or.inl (Own.wd hw 34 rfl)) Via.refl F140 F138 (Or.inr ⟨(Own.wd hw 35 rfl), rfl, rfl⟩) (Own.wd hw 1 rfl) (ty := .boolean) (by decide) (Own.nar_z b_p11) (Own.fits_z b_p11) ga fun T152 h152 X152 W152 => ?_
  have F153 := F138.wr W152
  have F154 := F139.wr W152 (Or.inl (List.mem_of_getElem? (i := 0) rfl))
  have F155 := F141.other W152 (Or.inr (slot_ne (Or.inr (Own.wd hw 15 rfl)) (Or.inr (Own.wd hw 35 rfl)) (by decide) (t := .int) (t' := .boolean) (by decide) (by decide)))
  have F156 := F142.other W152 (Or.inr (slot_ne (Or.inr (Own.wd hw 17 rfl)) (Or.inr (Own.wd hw 35 rfl)) (by decide) (t := .boolean) (t' := .boolean) (by decide) (by decide)))
  have F157 := F143.other W152 (Or.inr (slot_ne (Or.inr (Own.wd hw 19 rfl)) (Or.inr (Own.wd hw 35 rfl)) (by decide) (t := .int) (t' := .boolean) (by decide) (by decide)))
  have F158 := F144.other W152 (Or.inr (slot_ne (Or.inr (Own.wd hw 21 rfl)) (Or.inr (Own.wd hw 35 rfl)) (by decide) (t := .double) (t' := .boolean) (by decide) (by decide)))
  have F159 := F145.other W152 (Or.inr (slot_ne (Or.inr (Own.wd hw 23 rfl)) (Or.inr (Own.wd hw 35 rfl)) (by decide) (t := .boolean) (t' := .boolean) (by decide) (by decide)))
  have F160 := F146.other W152 (Or.inr (slot_ne (Or.inr (Own.wd hw 25 rfl)) (Or.inr (Own.wd hw 35 rfl)) (by decide) (t := (.array .double)) (t' := .boolean) (by decide) (by decide)))
  have F161 := F147.other W152 (Or.inr (slot_ne (Or.inr (Own.wd hw 27 rfl)) (Or.inr (Own.wd hw 35 rfl)) (by decide) (t := .boolean) (t' := .boolean) (by decide) (by decide)))
  have F162 := F148.other W152 (Or.inr (slot_ne (Or.inr (Own.wd hw 29 rfl)) (Or.inr (Own.wd hw 35 rfl)) (by decide) (t := .double) (t' := .boolean) (by decide) (by decide)))
  have F163 := F149.other W152 (Or.inr (slot_ne (Or.inr (Own.wd hw 31 rfl)) (Or.inr (Own.wd hw 35 rfl)) (by decide) (t := .int) (t' := .boolean) (by decide) (by decide)))
  have F164 := F150.other W152 (Or.inr (slot_ne (Or.inr (Own.wd hw 33 rfl)) (Or.inr (Own.wd hw 35 rfl)) (by decide) (t := .boolean) (t' := .boolean) (by decide) (by decide)))
  have F165 : Fld Z h152 a "com/example/pliant/pliant/ml/VectorShare$Plan" "scaled" "Z" (.int p11) := Fld.same W152 F140
  have Z166 : n0 ≤ h152.size := by rw [W152.size]; exact Z151
  exact Own.retV X152 d1_67 ⟨rfl, F154, F155, F156, F157, F158, F159, F160, F161, F162, F163, F164, F165⟩ (by decide) (by decide)
theorem ef_1n (m : MethodId) (x0 : Addr) (x1 : Int32) (x2 : Int32) (x3 : Int32) (x4 : UInt64) (x5 : Int32) (x7 : Int32) (x8 : UInt64) (x9 : Int32) (x10 : Int32) (x11 : Int32) : entryFrame m #[.ref x0, .int x1, .int x2, .int x3, .double x4, .int x5, .null, .int x7, .double x8, .int x9, .int x10, .int x11] 14 = mkF m 0 #[.val (.ref x0), .val (.int x1), .val (.int x2), .val (.int x3), .val (.double x4), .second, .val (.int x5), .val (.null), .val (.int x7), .val (.double x8), .second, .val (.int x9), .val (.int x10), .val (.int x11)] [] := by first | (simp [entryFrame, mkF, argsToLocals, Value.category, maxLocals]; done) | rfl
set_option maxRecDepth 65536 in
set_option maxHeartbeats 40000000 in
theorem rm1n (l : Launch) (Z : State) (a0 : Array Value) (hw : ∀ d ∈ tables_1, d.before a0 Z = true) (a : Addr) (p1 p2 p3 : Int32) (p4 : UInt64) (p5 p7 : Int32) (p8 : UInt64) (p9 p10 p11 : Int32)  (h0 : Heap) (n0 : Nat) (Z0 : n0 ≤ h0.size) (ga : n0 ≤ a) (Ea : Exa Z h0 a "com/example/pliant/pliant/ml/VectorShare$Plan") (F0_pass : Fld Z h0 a "com/example/pliant/pliant/ml/VectorShare$Plan" "pass" "I" (.int (0 : Int32))) (F0_paired : Fld Z h0 a "com/example/pliant/pliant/ml/VectorShare$Plan" "paired" "Z" (.int (0 : Int32))) (F0_slot : Fld Z h0 a "com/example/pliant/pliant/ml/VectorShare$Plan" "slot" "I" (.int (0 : Int32))) (F0_step : Fld Z h0 a "com/example/pliant/pliant/ml/VectorShare$Plan" "step" "D" (.double 0)) (F0_fromPass : Fld Z h0 a "com/example/pliant/pliant/ml/VectorShare$Plan" "fromPass" "Z" (.int (0 : Int32))) (F0_direction : Fld Z h0 a "com/example/pliant/pliant/ml/VectorShare$Plan" "direction" "[D" (.null)) (F0_move : Fld Z h0 a "com/example/pliant/pliant/ml/VectorShare$Plan" "move" "Z" (.int (0 : Int32))) (F0_ahead : Fld Z h0 a "com/example/pliant/pliant/ml/VectorShare$Plan" "ahead" "D" (.double 0)) (F0_nextSlot : Fld Z h0 a "com/example/pliant/pliant/ml/VectorShare$Plan" "nextSlot" "I" (.int (0 : Int32))) (F0_scale : Fld Z h0 a "com/example/pliant/pliant/ml/VectorShare$Plan" "scale" "Z" (.int (0 : Int32))) (F0_scaled : Fld Z h0 a "com/example/pliant/pliant/ml/VectorShare$Plan" "scaled" "Z" (.int (0 : Int32))) (b_p2 : p2 &&& 1 = p2) (b_p5 : p5 &&& 1 = p5) (b_p7 : p7 &&& 1 = p7) (b_p10 : p10 &&& 1 = p10) (b_p11 : p11 &&& 1 = p11) :
    Own.Con l Z mn_2 [] prog_125_method_1_code 14 none ({ frames := 2, cells := 0, slots := 0, locals := 24 } : Room) #[.ref a, .int p1, .int p2, .int p3, .double p4, .int p5, .null, .int p7, .double p8, .int p9, .int p10, .int p11] h0 n0 (fun v h => v = none ∧ Keep h0 h [a] ∧ Fld Z h a "com/example/pliant/pliant/ml/VectorShare$Plan" "pass" "I" (.int p1) ∧ Fld Z h a "com/example/pliant/pliant/ml/VectorShare$Plan" "paired" "Z" (.int p2) ∧ Fld Z h a "com/example/pliant/pliant/ml/VectorShare$Plan" "slot" "I" (.int p3) ∧ Fld Z h a "com/example/pliant/pliant/ml/VectorShare$Plan" "step" "D" (.double p4) ∧ Fld Z h a "com/example/pliant/pliant/ml/VectorShare$Plan" "fromPass" "Z" (.int p5) ∧ Fld Z h a "com/example/pliant/pliant/ml/VectorShare$Plan" "direction" "[D" (.null) ∧ Fld Z h a "com/example/pliant/pliant/ml/VectorShare$Plan" "move" "Z" (.int p7) ∧ Fld Z h a "com/example/pliant/pliant/ml/VectorShare$Plan" "ahead" "D" (.double p8) ∧ Fld Z h a "com/example/pliant/pliant/ml/VectorShare$Plan" "nextSlot" "I" (.int p9) ∧ Fld Z h a "com/example/pliant/pliant/ml/VectorShare$Plan" "scale" "Z" (.int p10) ∧ Fld Z h a "com/example/pliant/pliant/ml/VectorShare$Plan" "scaled" "Z" (.int p11)) := by
  refine Own.enter (own := "com/example/pliant/pliant/ml/VectorShare$Plan") (nm := "<init>") (plainFor_of_name pn_com_example_pliant_pliant_ml_VectorShare_Plan) rfl rfl (fun m => ef_1n m a p1 p2 p3 p4 p5 p7 p8 p9 p10 p11) fun p e s m below meth c T X => ?_
  refine Own.aloadN X d1_0 rfl rfl ?_
  refine Own.callI_ (y := mn_0) (a := a) X d1_1 rfl (Own.wd hw 6 rfl) (Own.wd hw 7 rfl) (Own.wd hw 9 rfl) (Own.wd hw 10 rfl) (by decide) (rm2 l Z a0 hw a h0 n0 Z0) (lenOf pd_1 rfl) rfl (argsL := []) (rest := []) rfl (W := 0) (Nat.le_of_eq rfl) (by decide) (by decide) (by decide) (by decide) fun T1 h1 v1 X1 q1 => ?_
  obtain ⟨rfl, rfl⟩ := q1
  show Own.Go p e below s n0 _ _ _ (T1.setTop (mkF m 4 _ []))
  refine Own.aloadN X1 d1_4 rfl rfl ?_
  refine Own.iloadN X1 d1_5 rfl ?_
  refine Own.putF_ X1 d1_6 (host := "") (Or.inl (Own.wd hw 14 rfl)) Via.refl F0_pass Ea (Or.inr ⟨(Own.wd hw 15 rfl), rfl, rfl⟩) (Own.wd hw 1 rfl) (ty := .int) (by decide) rfl rfl ga fun T2 h2 X2 W2 => ?_
  have F3 := Ea.wr W2
  have F4 := (Keep.refl h0 [a]).wr W2 (Or.inl (List.mem_of_getElem? (i := 0) rfl))
  have F5 := F0_paired.other W2 (Or.inr (slot_ne (Or.inr (Own.wd hw 17 rfl)) (Or.inr (Own.wd hw 15 rfl)) (by decide) (t := .boolean) (t' := .int) (by decide) (by decide)))
  have F6 := F0_slot.other W2 (Or.inr (slot_ne (Or.inr (Own.wd hw 19 rfl)) (Or.inr (Own.wd hw 15 rfl)) (by decide) (t := .int) (t' := .int) (by decide) (by decide)))
  have F7 := F0_step.other W2 (Or.inr (slot_ne (Or.inr (Own.wd hw 21 rfl)) (Or.inr (Own.wd hw 15 rfl)) (by decide) (t := .double) (t' := .int) (by decide) (by decide)))
  have F8 := F0_fromPass.other W2 (Or.inr (slot_ne (Or.inr (Own.wd hw 23 rfl)) (Or.inr (Own.wd hw 15 rfl)) (by decide) (t := .boolean) (t' := .int) (by decide) (by decide)))
  have F9 := F0_direction.other W2 (Or.inr (slot_ne (Or.inr (Own.wd hw 25 rfl)) (Or.inr (Own.wd hw 15 rfl)) (by decide) (t := (.array .double)) (t' := .int) (by decide) (by decide)))
  have F10 := F0_move.other W2 (Or.inr (slot_ne (Or.inr (Own.wd hw 27 rfl)) (Or.inr (Own.wd hw 15 rfl)) (by decide) (t := .boolean) (t' := .int) (by decide) (by decide)))
  have F11 := F0_ahead.other W2 (Or.inr (slot_ne (Or.inr (Own.wd hw 29 rfl)) (Or.inr (Own.wd hw 15 rfl)) (by decide) (t := .double) (t' := .int) (by decide) (by decide)))
  have F12 := F0_nextSlot.other W2 (Or.inr (slot_ne (Or.inr (Own.wd hw 31 rfl)) (Or.inr (Own.wd hw 15 rfl)) (by decide) (t := .int) (t' := .int) (by decide) (by decide)))
  have F13 := F0_scale.other W2 (Or.inr (slot_ne (Or.inr (Own.wd hw 33 rfl)) (Or.inr (Own.wd hw 15 rfl)) (by decide) (t := .boolean) (t' := .int) (by decide) (by decide)))
  have F14 := F0_scaled.other W2 (Or.inr (slot_ne (Or.inr (Own.wd hw 35 rfl)) (Or.inr (Own.wd hw 15 rfl)) (by decide) (t := .boolean) (t' := .int) (by decide) (by decide)))
  have F15 : Fld Z h2 a "com/example/pliant/pliant/ml/VectorShare$Plan" "pass" "I" (.int p1) := Fld.same W2 F0_pass
  have Z16 : n0 ≤ h2.size := by rw [W2.size]; exact Z0
  refine Own.aloadN X2 d1_9 rfl rfl ?_
  refine Own.iloadN X2 d1_10 rfl ?_
  refine Own.putF_ X2 d1_11 (host := "") (Or.inl (Own.wd hw 16 rfl)) Via.refl F5 F3 (Or.inr ⟨(Own.wd hw 17 rfl), rfl, rfl⟩) (Own.wd hw 1 rfl) (ty := .boolean) (by decide) (Own.nar_z b_p2) (Own.fits_z b_p2) ga fun T17 h17 X17 W17 => ?_
  have F18 := F3.wr W17
  have F19 := F4.wr W17 (Or.inl (List.mem_of_getElem? (i := 0) rfl))
  have F20 := F6.other W17 (Or.inr (slot_ne (Or.inr (Own.wd hw 19 rfl)) (Or.inr (Own.wd hw 17 rfl)) (by decide) (t := .int) (t' := .boolean) (by decide) (by decide)))
  have F21 := F7.other W17 (Or.inr (slot_ne (Or.inr (Own.wd hw 21 rfl)) (Or.inr (Own.wd hw 17 rfl)) (by decide) (t := .double) (t' := .boolean) (by decide) (by decide)))
  have F22 := F8.other W17 (Or.inr (slot_ne (Or.inr (Own.wd hw 23 rfl)) (Or.inr (Own.wd hw 17 rfl)) (by decide) (t := .boolean) (t' := .boolean) (by decide) (by decide)))
  have F23 := F9.other W17 (Or.inr (slot_ne (Or.inr (Own.wd hw 25 rfl)) (Or.inr (Own.wd hw 17 rfl)) (by decide) (t := (.array .double)) (t' := .boolean) (by decide) (by decide)))
  have F24 := F10.other W17 (Or.inr (slot_ne (Or.inr (Own.wd hw 27 rfl)) (Or.inr (Own.wd hw 17 rfl)) (by decide) (t := .boolean) (t' := .boolean) (by decide) (by decide)))
  have F25 := F11.other W17 (Or.inr (slot_ne (Or.inr (Own.wd hw 29 rfl)) (Or.inr (Own.wd hw 17 rfl)) (by decide) (t := .double) (t' := .boolean) (by decide) (by decide)))
  have F26 := F12.other W17 (Or.inr (slot_ne (Or.inr (Own.wd hw 31 rfl)) (Or.inr (Own.wd hw 17 rfl)) (by decide) (t := .int) (t' := .boolean) (by decide) (by decide)))
  have F27 := F13.other W17 (Or.inr (slot_ne (Or.inr (Own.wd hw 33 rfl)) (Or.inr (Own.wd hw 17 rfl)) (by decide) (t := .boolean) (t' := .boolean) (by decide) (by decide)))
  have F28 := F14.other W17 (Or.inr (slot_ne (Or.inr (Own.wd hw 35 rfl)) (Or.inr (Own.wd hw 17 rfl)) (by decide) (t := .boolean) (t' := .boolean) (by decide) (by decide)))
  have F29 := F15.other W17 (Or.inr (slot_ne (Or.inr (Own.wd hw 15 rfl)) (Or.inr (Own.wd hw 17 rfl)) (by decide) (t := .int) (t' := .boolean) (by decide) (by decide)))
  have F30 : Fld Z h17 a "com/example/pliant/pliant/ml/VectorShare$Plan" "paired" "Z" (.int p2) := Fld.same W17 F5
  have Z31 : n0 ≤ h17.size := by rw [W17.size]; exact Z16
  refine Own.aloadN X17 d1_14 rfl rfl ?_
  refine Own.iloadN X17 d1_15 rfl ?_
  refine Own.putF_ X17 d1_16 (host := "") (Or.inl (Own.wd hw 18 rfl)) Via.refl F20 F18 (Or.inr ⟨(Own.wd hw 19 rfl), rfl, rfl⟩) (Own.wd hw 1 rfl) (ty := .int) (by decide) rfl rfl ga fun T32 h32 X32 W32 => ?_
  have F33 := F18.wr W32
  have F34 := F19.wr W32 (Or.inl (List.mem_of_getElem? (i := 0) rfl))
  have F35 := F21.other W32 (Or.inr (slot_ne (Or.inr (Own.wd hw 21 rfl)) (Or.inr (Own.wd hw 19 rfl)) (by decide) (t := .double) (t' := .int) (by decide) (by decide)))
  have F36 := F22.other W32 (Or.inr (slot_ne (Or.inr (Own.wd hw 23 rfl)) (Or.inr (Own.wd hw 19 rfl)) (by decide) (t := .boolean) (t' := .int) (by decide) (by decide)))
  have F37 := F23.other W32 (Or.inr (slot_ne (Or.inr (Own.wd hw 25 rfl)) (Or.inr (Own.wd hw 19 rfl)) (by decide) (t := (.array .double)) (t' := .int) (by decide) (by decide)))
  have F38 := F24.other W32 (Or.inr (slot_ne (Or.inr (Own.wd hw 27 rfl)) (Or.inr (Own.wd hw 19 rfl)) (by decide) (t := .boolean) (t' := .int) (by decide) (by decide)))
  have F39 := F25.other W32 (Or.inr (slot_ne (Or.inr (Own.wd hw 29 rfl)) (Or.inr (Own.wd hw 19 rfl)) (by decide) (t := .double) (t' := .int) (by decide) (by decide)))
  have F40 := F26.other W32 (Or.inr (slot_ne (Or.inr (Own.wd hw 31 rfl)) (Or.inr (Own.wd hw 19 rfl)) (by decide) (t := .int) (t' := .int) (by decide) (by decide)))
  have F41 := F27.other W32 (Or.inr (slot_ne (Or.inr (Own.wd hw 33 rfl)) (Or.inr (Own.wd hw 19 rfl)) (by decide) (t := .boolean) (t' := .int) (by decide) (by decide)))
  have F42 := F28.other W32 (Or.inr (slot_ne (Or.inr (Own.wd hw 35 rfl)) (Or.inr (Own.wd hw 19 rfl)) (by decide) (t := .boolean) (t' := .int) (by decide) (by decide)))
  have F43 := F29.other W32 (Or.inr (slot_ne (Or.inr (Own.wd hw 15 rfl)) (Or.inr (Own.wd hw 19 rfl)) (by decide) (t := .int) (t' := .int) (by decide) (by decide)))
  have F44 := F30.other W32 (Or.inr (slot_ne (Or.inr (Own.wd hw 17 rfl)) (Or.inr (Own.wd hw 19 rfl)) (by decide) (t := .boolean) (t' := .int) (by decide) (by decide)))
  have F45 : Fld Z h32 a "com/example/pliant/pliant/ml/VectorShare$Plan" "slot" "I" (.int p3) := Fld.same W32 F20
  have Z46 : n0 ≤ h32.size := by rw [W32.size]; exact Z31
  refine Own.aloadN X32 d1_19 rfl rfl ?_
  refine Own.dload X32 d1_20 rfl ?_
  refine Own.putF_ X32 d1_22 (host := "") (Or.inl (Own.wd hw 20 rfl)) Via.refl F35 F33 (Or.inr ⟨(Own.wd hw 21 rfl), rfl, rfl⟩) (Own.wd hw 1 rfl) (ty := .double) (by decide) rfl rfl ga fun T47 h47 X47 W47 => ?_
  have F48 := F33.wr W47
  have F49 := F34.wr W47 (Or.inl (List.mem_of_getElem? (i := 0) rfl))
  have F50 := F36.other W47 (Or.inr (slot_ne (Or.inr (Own.wd hw 23 rfl)) (Or.inr (Own.wd hw 21 rfl)) (by decide) (t := .boolean) (t' := .double) (by decide) (by decide)))
  have F51 := F37.other W47 (Or.inr (slot_ne (Or.inr (Own.wd hw 25 rfl)) (Or.inr (Own.wd hw 21 rfl)) (by decide) (t := (.array .double)) (t' := .double) (by decide) (by decide)))
  have F52 := F38.other W47 (Or.inr (slot_ne (Or.inr (Own.wd hw 27 rfl)) (Or.inr (Own.wd hw 21 rfl)) (by decide) (t := .boolean) (t' := .double) (by decide) (by decide)))
  have F53 := F39.other W47 (Or.inr (slot_ne (Or.inr (Own.wd hw 29 rfl)) (Or.inr (Own.wd hw 21 rfl)) (by decide) (t := .double) (t' := .double) (by decide) (by decide)))
  have F54 := F40.other W47 (Or.inr (slot_ne (Or.inr (Own.wd hw 31 rfl)) (Or.inr (Own.wd hw 21 rfl)) (by decide) (t := .int) (t' := .double) (by decide) (by decide)))
  have F55 := F41.other W47 (Or.inr (slot_ne (Or.inr (Own.wd hw 33 rfl)) (Or.inr (Own.wd hw 21 rfl)) (by decide) (t := .boolean) (t' := .double) (by decide) (by decide)))
  have F56 := F42.other W47 (Or.inr (slot_ne (Or.inr (Own.wd hw 35 rfl)) (Or.inr (Own.wd hw 21 rfl)) (by decide) (t := .boolean) (t' := .double) (by decide) (by decide)))
  have F57 := F43.other W47 (Or.inr (slot_ne (Or.inr (Own.wd hw 15 rfl)) (Or.inr (Own.wd hw 21 rfl)) (by decide) (t := .int) (t' := .double) (by decide) (by decide)))
  have F58 := F44.other W47 (Or.inr (slot_ne (Or.inr (Own.wd hw 17 rfl)) (Or.inr (Own.wd hw 21 rfl)) (by decide) (t := .boolean) (t' := .double) (by decide) (by decide)))
  have F59 := F45.other W47 (Or.inr (slot_ne (Or.inr (Own.wd hw 19 rfl)) (Or.inr (Own.wd hw 21 rfl)) (by decide) (t := .int) (t' := .double) (by decide) (by decide)))
  have F60 : Fld Z h47 a "com/example/pliant/pliant/ml/VectorShare$Plan" "step" "D" (.double p4) := Fld.same W47 F35
  have Z61 : n0 ≤ h47.size := by rw [W47.size]; exact Z46
  refine Own.aloadN X47 d1_25 rfl rfl ?_
  refine Own.iload X47 d1_26 rfl ?_
  refine Own.putF_ X47 d1_28 (host := "") (Or.inl (Own.wd hw 22 rfl)) Via.refl F50 F48 (Or.inr ⟨(Own.wd hw 23 rfl), rfl, rfl⟩) (Own.wd hw 1 rfl) (ty := .boolean) (by decide) (Own.nar_z b_p5) (Own.fits_z b_p5) ga fun T62 h62 X62 W62 => ?_
  have F63 := F48.wr W62
  have F64 := F49.wr W62 (Or.inl (List.mem_of_getElem? (i := 0) rfl))
  have F65 := F51.other W62 (Or.inr (slot_ne (Or.inr (Own.wd hw 25 rfl)) (Or.inr (Own.wd hw 23 rfl)) (by decide) (t := (.array .double)) (t' := .boolean) (by decide) (by decide)))
  have F66 := F52.other W62 (Or.inr (slot_ne (Or.inr (Own.wd hw 27 rfl)) (Or.inr (Own.wd hw 23 rfl)) (by decide) (t := .boolean) (t' := .boolean) (by decide) (by decide)))
  have F67 := F53.other W62 (Or.inr (slot_ne (Or.inr (Own.wd hw 29 rfl)) (Or.inr (Own.wd hw 23 rfl)) (by decide) (t := .double) (t' := .boolean) (by decide) (by decide)))
  have F68 := F54.other W62 (Or.inr (slot_ne (Or.inr (Own.wd hw 31 rfl)) (Or.inr (Own.wd hw 23 rfl)) (by decide) (t := .int) (t' := .boolean) (by decide) (by decide)))
  have F69 := F55.other W62 (Or.inr (slot_ne (Or.inr (Own.wd hw 33 rfl)) (Or.inr (Own.wd hw 23 rfl)) (by decide) (t := .boolean) (t' := .boolean) (by decide) (by decide)))
  have F70 := F56.other W62 (Or.inr (slot_ne (Or.inr (Own.wd hw 35 rfl)) (Or.inr (Own.wd hw 23 rfl)) (by decide) (t := .boolean) (t' := .boolean) (by decide) (by decide)))
  have F71 := F57.other W62 (Or.inr (slot_ne (Or.inr (Own.wd hw 15 rfl)) (Or.inr (Own.wd hw 23 rfl)) (by decide) (t := .int) (t' := .boolean) (by decide) (by decide)))
  have F72 := F58.other W62 (Or.inr (slot_ne (Or.inr (Own.wd hw 17 rfl)) (Or.inr (Own.wd hw 23 rfl)) (by decide) (t := .boolean) (t' := .boolean) (by decide) (by decide)))
  have F73 := F59.other W62 (Or.inr (slot_ne (Or.inr (Own.wd hw 19 rfl)) (Or.inr (Own.wd hw 23 rfl)) (by decide) (t := .int) (t' := .boolean) (by decide) (by decide)))
  have F74 := F60.other W62 (Or.inr (slot_ne (Or.inr (Own.wd hw 21 rfl)) (Or.inr (Own.wd hw 23 rfl)) (by decide) (t := .double) (t' := .boolean) (by decide) (by decide)))
  have F75 : Fld Z h62 a "com/example/pliant/pliant/ml/VectorShare$Plan" "fromPass" "Z" (.int p5) := Fld.same W62 F50
  have Z76 : n0 ≤ h62.size := by rw [W62.size]; exact Z61
  refine Own.aloadN X62 d1_31 rfl rfl ?_
  refine Own.aload X62 d1_32 rfl rfl ?_
  refine Own.putF_ X62 d1_34 (host := "") (Or.inl (Own.wd hw 24 rfl)) Via.refl F65 F63 (Or.inr ⟨(Own.wd hw 25 rfl), rfl, rfl⟩) (Own.wd hw 1 rfl) (ty := (.array .double)) (by decide) rfl rfl ga fun T77 h77 X77 W77 => ?_
  have F78 := F63.wr W77
  have F79 := F64.wr W77 (Or.inl (List.mem_of_getElem? (i := 0) rfl))
  have F80 := F66.other W77 (Or.inr (slot_ne (Or.inr (Own.wd hw 27 rfl)) (Or.inr (Own.wd hw 25 rfl)) (by decide) (t := .boolean) (t' := (.array .double)) (by decide) (by decide)))
  have F81 := F67.other W77 (Or.inr (slot_ne (Or.inr (Own.wd hw 29 rfl)) (Or.inr (Own.wd hw 25 rfl)) (by decide) (t := .double) (t' := (.array .double)) (by decide) (by decide)))
  have F82 := F68.other W77 (Or.inr (slot_ne (Or.inr (Own.wd hw 31 rfl)) (Or.inr (Own.wd hw 25 rfl)) (by decide) (t := .int) (t' := (.array .double)) (by decide) (by decide)))
  have F83 := F69.other W77 (Or.inr (slot_ne (Or.inr (Own.wd hw 33 rfl)) (Or.inr (Own.wd hw 25 rfl)) (by decide) (t := .boolean) (t' := (.array .double)) (by decide) (by decide)))
  have F84 := F70.other W77 (Or.inr (slot_ne (Or.inr (Own.wd hw 35 rfl)) (Or.inr (Own.wd hw 25 rfl)) (by decide) (t := .boolean) (t' := (.array .double)) (by decide) (by decide)))
  have F85 := F71.other W77 (Or.inr (slot_ne (Or.inr (Own.wd hw 15 rfl)) (Or.inr (Own.wd hw 25 rfl)) (by decide) (t := .int) (t' := (.array .double)) (by decide) (by decide)))
  have F86 := F72.other W77 (Or.inr (slot_ne (Or.inr (Own.wd hw 17 rfl)) (Or.inr (Own.wd hw 25 rfl)) (by decide) (t := .boolean) (t' := (.array .double)) (by decide) (by decide)))
  have F87 := F73.other W77 (Or.inr (slot_ne (Or.inr (Own.wd hw 19 rfl)) (Or.inr (Own.wd hw 25 rfl)) (by decide) (t := .int) (t' := (.array .double)) (by decide) (by decide)))
  have F88 := F74.other W77 (Or.inr (slot_ne (Or.inr (Own.wd hw 21 rfl)) (Or.inr (Own.wd hw 25 rfl)) (by decide) (t := .double) (t' := (.array .double)) (by decide) (by decide)))
  have F89 := F75.other W77 (Or.inr (slot_ne (Or.inr (Own.wd hw 23 rfl)) (Or.inr (Own.wd hw 25 rfl)) (by decide) (t := .boolean) (t' := (.array .double)) (by decide) (by decide)))
  have F90 : Fld Z h77 a "com/example/pliant/pliant/ml/VectorShare$Plan" "direction" "[D" (.null) := Fld.same W77 F65
  have Z91 : n0 ≤ h77.size := by rw [W77.size]; exact Z76
  refine Own.aloadN X77 d1_37 rfl rfl ?_
  refine Own.iload X77 d1_38 rfl ?_
  refine Own.putF_ X77 d1_40 (host := "") (Or.inl (Own.wd hw 26 rfl)) Via.refl F80 F78 (Or.inr ⟨(Own.wd hw 27 rfl), rfl, rfl⟩) (Own.wd hw 1 rfl) (ty := .boolean) (by decide) (Own.nar_z b_p7) (Own.fits_z b_p7) ga fun T92 h92 X92 W92 => ?_
  have F93 := F78.wr W92
  have F94 := F79.wr W92 (Or.inl (List.mem_of_getElem? (i := 0) rfl))
  have F95 := F81.other W92 (Or.inr (slot_ne (Or.inr (Own.wd hw 29 rfl)) (Or.inr (Own.wd hw 27 rfl)) (by decide) (t := .double) (t' := .boolean) (by decide) (by decide)))
  have F96 := F82.other W92 (Or.inr (slot_ne (Or.inr (Own.wd hw 31 rfl)) (Or.inr (Own.wd hw 27 rfl)) (by decide) (t := .int) (t' := .boolean) (by decide) (by decide)))
  have F97 := F83.other W92 (Or.inr (slot_ne (Or.inr (Own.wd hw 33 rfl)) (Or.inr (Own.wd hw 27 rfl)) (by decide) (t := .boolean) (t' := .boolean) (by decide) (by decide)))
  have F98 := F84.other W92 (Or.inr (slot_ne (Or.inr (Own.wd hw 35 rfl)) (Or.inr (Own.wd hw 27 rfl)) (by decide) (t := .boolean) (t' := .boolean) (by decide) (by decide)))
  have F99 := F85.other W92 (Or.inr (slot_ne (Or.inr (Own.wd hw 15 rfl)) (Or.inr (Own.wd hw 27 rfl)) (by decide) (t := .int) (t' := .boolean) (by decide) (by decide)))
  have F100 := F86.other W92 (Or.inr (slot_ne (Or.inr (Own.wd hw 17 rfl)) (Or.inr (Own.wd hw 27 rfl)) (by decide) (t := .boolean) (t' := .boolean) (by decide) (by decide)))
  have F101 := F87.other W92 (Or.inr (slot_ne (Or.inr (Own.wd hw 19 rfl)) (Or.inr (Own.wd hw 27 rfl)) (by decide) (t := .int) (t' := .boolean) (by decide) (by decide)))
  have F102 := F88.other W92 (Or.inr (slot_ne (Or.inr (Own.wd hw 21 rfl)) (Or.inr (Own.wd hw 27 rfl)) (by decide) (t := .double) (t' := .boolean) (by decide) (by decide)))
  have F103 := F89.other W92 (Or.inr (slot_ne (Or.inr (Own.wd hw 23 rfl)) (Or.inr (Own.wd hw 27 rfl)) (by decide) (t := .boolean) (t' := .boolean) (by decide) (by decide)))
  have F104 := F90.other W92 (Or.inr (slot_ne (Or.inr (Own.wd hw 25 rfl)) (Or.inr (Own.wd hw 27 rfl)) (by decide) (t := (.array .double)) (t' := .boolean) (by decide) (by decide)))
  have F105 : Fld Z h92 a "com/example/pliant/pliant/ml/VectorShare$Plan" "move" "Z" (.int p7) := Fld.same W92 F80
  have Z106 : n0 ≤ h92.size := by rw [W92.size]; exact Z91
  refine Own.aloadN X92 d1_43 rfl rfl ?_
  refine Own.dload X92 d1_44 rfl ?_
  refine Own.putF_ X92 d1_46 (host := "") (Or.inl (Own.wd hw 28 rfl)) Via.refl F95 F93 (Or.inr ⟨(Own.wd hw 29 rfl), rfl, rfl⟩) (Own.wd hw 1 rfl) (ty := .double) (by decide) rfl rfl ga fun T107 h107 X107 W107 => ?_
  have F108 := F93.wr W107
  have F109 := F94.wr W107 (Or.inl (List.mem_of_getElem? (i := 0) rfl))
  have F110 := F96.other W107 (Or.inr (slot_ne (Or.inr (Own.wd hw 31 rfl)) (Or.inr (Own.wd hw 29 rfl)) (by decide) (t := .int) (t' := .double) (by decide) (by decide)))
  have F111 := F97.other W107 (Or.inr (slot_ne (Or.inr (Own.wd hw 33 rfl)) (Or.inr (Own.wd hw 29 rfl)) (by decide) (t := .boolean) (t' := .double) (by decide) (by decide)))
  have F112 := F98.other W107 (Or.inr (slot_ne (Or.inr (Own.wd hw 35 rfl)) (Or.inr (Own.wd hw 29 rfl)) (by decide) (t := .boolean) (t' := .double) (by decide) (by decide)))
  have F113 := F99.other W107 (Or.inr (slot_ne (Or.inr (Own.wd hw 15 rfl)) (Or.inr (Own.wd hw 29 rfl)) (by decide) (t := .int) (t' := .double) (by decide) (by decide)))
  have F114 := F100.other W107 (Or.inr (slot_ne (Or.inr (Own.wd hw 17 rfl)) (Or.inr (Own.wd hw 29 rfl)) (by decide) (t := .boolean) (t' := .double) (by decide) (by decide)))
  have F115 := F101.other W107 (Or.inr (slot_ne (Or.inr (Own.wd hw 19 rfl)) (Or.inr (Own.wd hw 29 rfl)) (by decide) (t := .int) (t' := .double) (by decide) (by decide)))
  have F116 := F102.other W107 (Or.inr (slot_ne (Or.inr (Own.wd hw 21 rfl)) (Or.inr (Own.wd hw 29 rfl)) (by decide) (t := .double) (t' := .double) (by decide) (by decide)))
  have F117 := F103.other W107 (Or.inr (slot_ne (Or.inr (Own.wd hw 23 rfl)) (Or.inr (Own.wd hw 29 rfl)) (by decide) (t := .boolean) (t' := .double) (by decide) (by decide)))
  have F118 := F104.other W107 (Or.inr (slot_ne (Or.inr (Own.wd hw 25 rfl)) (Or.inr (Own.wd hw 29 rfl)) (by decide) (t := (.array .double)) (t' := .double) (by decide) (by decide)))
  have F119 := F105.other W107 (Or.inr (slot_ne (Or.inr (Own.wd hw 27 rfl)) (Or.inr (Own.wd hw 29 rfl)) (by decide) (t := .boolean) (t' := .double) (by decide) (by decide)))
  have F120 : Fld Z h107 a "com/example/pliant/pliant/ml/VectorShare$Plan" "ahead" "D" (.double p8) := Fld.same W107 F95
  have Z121 : n0 ≤ h107.size := by rw [W107.size]; exact Z106
  refine Own.aloadN X107 d1_49 rfl rfl ?_
  refine Own.iload X107 d1_50 rfl ?_
  refine Own.putF_ X107 d1_52 (host := "") (Or.inl (Own.wd hw 30 rfl)) Via.refl F110 F108 (Or.inr ⟨(Own.wd hw 31 rfl), rfl, rfl⟩) (Own.wd hw 1 rfl) (ty := .int) (by decide) rfl rfl ga fun T122 h122 X122 W122 => ?_
  have F123 := F108.wr W122
  have F124 := F109.wr W122 (Or.inl (List.mem_of_getElem? (i := 0) rfl))
  have F125 := F111.other W122 (Or.inr (slot_ne (Or.inr (Own.wd hw 33 rfl)) (Or.inr (Own.wd hw 31 rfl)) (by decide) (t := .boolean) (t' := .int) (by decide) (by decide)))
  have F126 := F112.other W122 (Or.inr (slot_ne (Or.inr (Own.wd hw 35 rfl)) (Or.inr (Own.wd hw 31 rfl)) (by decide) (t := .boolean) (t' := .int) (by decide) (by decide)))
  have F127 := F113.other W122 (Or.inr (slot_ne (Or.inr (Own.wd hw 15 rfl)) (Or.inr (Own.wd hw 31 rfl)) (by decide) (t := .int) (t' := .int) (by decide) (by decide)))
  have F128 := F114.other W122 (Or.inr (slot_ne (Or.inr (Own.wd hw 17 rfl)) (Or.inr (Own.wd hw 31 rfl)) (by decide) (t := .boolean) (t' := .int) (by decide) (by decide)))
  have F129 := F115.other W122 (Or.inr (slot_ne (Or.inr (Own.wd hw 19 rfl)) (Or.inr (Own.wd hw 31 rfl)) (by decide) (t := .int) (t' := .int) (by decide) (by decide)))
  have F130 := F116.other W122 (Or.inr (slot_ne (Or.inr (Own.wd hw 21 rfl)) (Or.inr (Own.wd hw 31 rfl)) (by decide) (t := .double) (t' := .int) (by decide) (by decide)))
  have F131 := F117.other W122 (Or.inr (slot_ne (Or.inr (Own.wd hw 23 rfl)) (Or.inr (Own.wd hw 31 rfl)) (by decide) (t := .boolean) (t' := .int) (by decide) (by decide)))
  have F132 := F118.other W122 (Or.inr (slot_ne (Or.inr (Own.wd hw 25 rfl)) (Or.inr (Own.wd hw 31 rfl)) (by decide) (t := (.array .double)) (t' := .int) (by decide) (by decide)))
  have F133 := F119.other W122 (Or.inr (slot_ne (Or.inr (Own.wd hw 27 rfl)) (Or.inr (Own.wd hw 31 rfl)) (by decide) (t := .boolean) (t' := .int) (by decide) (by decide)))
  have F134 := F120.other W122 (Or.inr (slot_ne (Or.inr (Own.wd hw 29 rfl)) (Or.inr (Own.wd hw 31 rfl)) (by decide) (t := .double) (t' := .int) (by decide) (by decide)))
  have F135 : Fld Z h122 a "com/example/pliant/pliant/ml/VectorShare$Plan" "nextSlot" "I" (.int p9) := Fld.same W122 F110
  have Z136 : n0 ≤ h122.size := by rw [W122.size]; exact Z121
  refine Own.aloadN X122 d1_55 rfl rfl ?_
  refine Own.iload X122 d1_56 rfl ?_
  refine Own.putF_ X122 d1_58 (host := "") (Or.inl (Own.wd hw 32 rfl)) Via.refl F125 F123 (Or.inr ⟨(Own.wd hw 33 rfl), rfl, rfl⟩) (Own.wd hw 1 rfl) (ty := .boolean) (by decide) (Own.nar_z b_p10) (Own.fits_z b_p10) ga fun T137 h137 X137 W137 => ?_
  have F138 := F123.wr W137
  have F139 := F124.wr W137 (Or.inl (List.mem_of_getElem? (i := 0) rfl))
  have F140 := F126.other W137 (Or.inr (slot_ne (Or.inr (Own.wd hw 35 rfl)) (Or.inr (Own.wd hw 33 rfl)) (by decide) (t := .boolean) (t' := .boolean) (by decide) (by decide)))
  have F141 := F127.other W137 (Or.inr (slot_ne (Or.inr (Own.wd hw 15 rfl)) (Or.inr (Own.wd hw 33 rfl)) (by decide) (t := .int) (t' := .boolean) (by decide) (by decide)))
  have F142 := F128.other W137 (Or.inr (slot_ne (Or.inr (Own.wd hw 17 rfl)) (Or.inr (Own.wd hw 33 rfl)) (by decide) (t := .boolean) (t' := .boolean) (by decide) (by decide)))
  have F143 := F129.other W137 (Or.inr (slot_ne (Or.inr (Own.wd hw 19 rfl)) (Or.inr (Own.wd hw 33 rfl)) (by decide) (t := .int) (t' := .boolean) (by decide) (by decide)))
  have F144 := F130.other W137 (Or.inr (slot_ne (Or.inr (Own.wd hw 21 rfl)) (Or.inr (Own.wd hw 33 rfl)) (by decide) (t := .double) (t' := .boolean) (by decide) (by decide)))
  have F145 := F131.other W137 (Or.inr (slot_ne (Or.inr (Own.wd hw 23 rfl)) (Or.inr (Own.wd hw 33 rfl)) (by decide) (t := .boolean) (t' := .boolean) (by decide) (by decide)))
  have F146 := F132.other W137 (Or.inr (slot_ne (Or.inr (Own.wd hw 25 rfl)) (Or.inr (Own.wd hw 33 rfl)) (by decide) (t := (.array .double)) (t' := .boolean) (by decide) (by decide)))
  have F147 := F133.other W137 (Or.inr (slot_ne (Or.inr (Own.wd hw 27 rfl)) (Or.inr (Own.wd hw 33 rfl)) (by decide) (t := .boolean) (t' := .boolean) (by decide) (by decide)))
  have F148 := F134.other W137 (Or.inr (slot_ne (Or.inr (Own.wd hw 29 rfl)) (Or.inr (Own.wd hw 33 rfl)) (by decide) (t := .double) (t' := .boolean) (by decide) (by decide)))
  have F149 := F135.other W137 (Or.inr (slot_ne (Or.inr (Own.wd hw 31 rfl)) (Or.inr (Own.wd hw 33 rfl)) (by decide) (t := .int) (t' := .boolean) (by decide) (by decide)))
  have F150 : Fld Z h137 a "com/example/pliant/pliant/ml/VectorShare$Plan" "scale" "Z" (.int p10) := Fld.same W137 F125
  have Z151 : n0 ≤ h137.size := by rw [W137.size]; exact Z136
  refine Own.aloadN X137 d1_61 rfl rfl ?_
  refine Own.iload X137 d1_62 rfl ?_
  refine Own.putF_ X137 d1_64 (host := "") (Or.inl (Own.wd hw 34 rfl)) Via.refl F140 F138 (Or.inr ⟨(Own.wd hw 35 rfl), rfl, rfl⟩) (Own.wd hw 1 rfl) (ty := .boolean) (by decide) (Own.nar_z b_p11) (Own.fits_z b_p11) ga fun T152 h152 X152 W152 => ?_
  have F153 := F138.wr W152
  have F154 := F139.wr W152 (Or.inl (List.mem_of_getElem? (i := 0) rfl))
  have F155 := F141.other W152 (Or.inr (slot_ne (Or.inr (Own.wd hw 15 rfl)) (Or.inr (Own.wd hw 35 rfl)) (by decide) (t := .int) (t' := .boolean) (by decide) (by decide)))
  have F156 := F142.other W152 (Or.inr (slot_ne (Or.inr (Own.wd hw 17 rfl)) (Or.inr (Own.wd hw 35 rfl)) (by decide) (t := .boolean) (t' := .boolean) (by decide) (by decide)))
  have F157 := F143.other W152 (Or.inr (slot_ne (Or.inr (Own.wd hw 19 rfl)) (Or.inr (Own.wd hw 35 rfl)) (by decide) (t := .int) (t' := .boolean) (by decide) (by decide)))
  have F158 := F144.other W152 (Or.inr (slot_ne (Or.inr (Own.wd hw 21 rfl)) (Or.inr (Own.wd hw 35 rfl)) (by decide) (t := .double) (t' := .boolean) (by decide) (by decide)))
  have F159 := F145.other W152 (Or.inr (slot_ne (Or.inr (Own.wd hw 23 rfl)) (Or.inr (Own.wd hw 35 rfl)) (by decide) (t := .boolean) (t' := .boolean) (by decide) (by decide)))
  have F160 := F146.other W152 (Or.inr (slot_ne (Or.inr (Own.wd hw 25 rfl)) (Or.inr (Own.wd hw 35 rfl)) (by decide) (t := (.array .double)) (t' := .boolean) (by decide) (by decide)))
  have F161 := F147.other W152 (Or.inr (slot_ne (Or.inr (Own.wd hw 27 rfl)) (Or.inr (Own.wd hw 35 rfl)) (by decide) (t := .boolean) (t' := .boolean) (by decide) (by decide)))
  have F162 := F148.other W152 (Or.inr (slot_ne (Or.inr (Own.wd hw 29 rfl)) (Or.inr (Own.wd hw 35 rfl)) (by decide) (t := .double) (t' := .boolean) (by decide) (by decide)))
  have F163 := F149.other W152 (Or.inr (slot_ne (Or.inr (Own.wd hw 31 rfl)) (Or.inr (Own.wd hw 35 rfl)) (by decide) (t := .int) (t' := .boolean) (by decide) (by decide)))
  have F164 := F150.other W152 (Or.inr (slot_ne (Or.inr (Own.wd hw 33 rfl)) (Or.inr (Own.wd hw 35 rfl)) (by decide) (t := .boolean) (t' := .boolean) (by decide) (by decide)))
  have F165 : Fld Z h152 a "com/example/pliant/pliant/ml/VectorShare$Plan" "scaled" "Z" (.int p11) := Fld.same W152 F140
  have Z166 : n0 ≤ h152.size := by rw [W152.size]; exact Z151
  exact Own.retV X152 d1_67 ⟨rfl, F154, F155, F156, F157, F158, F159, F160, F161, F162, F163, F164, F165⟩ (by decide) (by decide)
theorem ef_4n (m : MethodId) (x0 : Addr) : entryFrame m #[.ref x0] 1 = mkF m 0 #[.val (.ref x0)] [] := by first | (simp [entryFrame, mkF, argsToLocals, Value.category, maxLocals]; done) | rfl
set_option maxRecDepth 65536 in
set_option maxHeartbeats 40000000 in
theorem rm4n (l : Launch) (Z : State) (a0 : Array Value) (hw : ∀ d ∈ tables_1, d.before a0 Z = true) (a : Addr) (u1 : Int32) (u2 : Int32) (u3 : Int32) (u4 : Int32)  (h0 : Heap) (n0 : Nat) (Z0 : n0 ≤ h0.size) (F0_a_paired : Fld Z h0 a "com/example/pliant/pliant/ml/VectorShare$Plan" "paired" "Z" (.int u1)) (F0_a_fromPass : Fld Z h0 a "com/example/pliant/pliant/ml/VectorShare$Plan" "fromPass" "Z" (.int u2)) (F0_a_direction : Fld Z h0 a "com/example/pliant/pliant/ml/VectorShare$Plan" "direction" "[D" (.null)) (F0_a_move : Fld Z h0 a "com/example/pliant/pliant/ml/VectorShare$Plan" "move" "Z" (.int u3)) (F0_a_scale : Fld Z h0 a "com/example/pliant/pliant/ml/VectorShare$Plan" "scale" "Z" (.int u4))  :
    Own.Con l Z mn_3 [] prog_125_method_5_code 1 (some .boolean) ({ frames := 0, cells := 0, slots := 0, locals := 0 } : Room) #[.ref a] h0 n0 (fun v h => v = some (.int (Own.bo (u1.toInt = 0 ∧ u2.toInt = 0 ∧ u3.toInt = 0 ∧ u4.toInt = 0))) ∧ h0 = h) := by
  refine Own.enter (own := "com/example/pliant/pliant/ml/VectorShare$Plan") (nm := "writesNothing") (plainFor_of_name pn_com_example_pliant_pliant_ml_VectorShare_Plan) rfl rfl (fun m => ef_4n m a) fun p e s m below meth c T X => ?_
  refine Own.aloadN X d4_0 rfl rfl ?_
  refine Own.getF_ X d4_1 (host := "") (Or.inl (Own.wd hw 16 rfl)) Via.refl F0_a_paired fun T1 X1 => ?_
  refine Own.iff_ X1 (pc' := 39) d4_4 (by decide) (fun (h4 : ¬ (u1.toInt = (0 : Int))) => ?_) (fun h4' => ?_)
  · refine Own.iconst X1 (v := 0) d4_39 rfl ?_
    exact Own.retB X1 d4_40 (by decide) ⟨congrArg (fun z => some (Value.int z)) (Own.bo_f (by omega)), rfl⟩ (by decide) (by decide)
  · have h4 : u1.toInt = (0 : Int) := Classical.not_not.mp h4'
    refine Own.aloadN X1 d4_7 rfl rfl ?_
    refine Own.getF_ X1 d4_8 (host := "") (Or.inl (Own.wd hw 22 rfl)) Via.refl F0_a_fromPass fun T2 X2 => ?_
    refine Own.iff_ X2 (pc' := 39) d4_11 (by decide) (fun (h11 : ¬ (u2.toInt = (0 : Int))) => ?_) (fun h11' => ?_)
    · refine Own.iconst X2 (v := 0) d4_39 rfl ?_
      exact Own.retB X2 d4_40 (by decide) ⟨congrArg (fun z => some (Value.int z)) (Own.bo_f (by omega)), rfl⟩ (by decide) (by decide)
    · have h11 : u2.toInt = (0 : Int) := Classical.not_not.mp h11'
      refine Own.aloadN X2 d4_14 rfl rfl ?_
      refine Own.getF_ X2 d4_15 (host := "") (Or.inl (Own.wd hw 24 rfl)) Via.refl F0_a_direction fun T3 X3 => ?_
      refine Own.ifnonnullN X3 d4_18 ?_
      refine Own.aloadN X3 d4_21 rfl rfl ?_
      refine Own.getF_ X3 d4_22 (host := "") (Or.inl (Own.wd hw 26 rfl)) Via.refl F0_a_move fun T4 X4 => ?_
      refine Own.iff_ X4 (pc' := 39) d4_25 (by decide) (fun (h25 : ¬ (u3.toInt = (0 : Int))) => ?_) (fun h25' => ?_)
      · refine Own.iconst X4 (v := 0) d4_39 rfl ?_
        exact Own.retB X4 d4_40 (by decide) ⟨congrArg (fun z => some (Value.int z)) (Own.bo_f (by omega)), rfl⟩ (by decide) (by decide)
      · have h25 : u3.toInt = (0 : Int) := Classical.not_not.mp h25'
        refine Own.aloadN X4 d4_28 rfl rfl ?_
        refine Own.getF_ X4 d4_29 (host := "") (Or.inl (Own.wd hw 32 rfl)) Via.refl F0_a_scale fun T5 X5 => ?_
        suffices J32_6 : ∀ (z40_6 : Int32), z40_6 = Own.bo (u4.toInt = (0 : Int)) → Own.Go p e below s n0 (fun v h => v = some (.int (Own.bo (u1.toInt = 0 ∧ u2.toInt = 0 ∧ u3.toInt = 0 ∧ u4.toInt = 0))) ∧ h0 = h) 0 0 (T5.setTop (mkF m 40 #[.val (.ref a)] [.int z40_6])) by
          refine Own.iff_ X5 (pc' := 39) d4_32 (by decide) (fun (h32 : ¬ (u4.toInt = (0 : Int))) => ?_) (fun h32' => ?_)
          · refine Own.iconst X5 (v := 0) d4_39 rfl ?_
            exact J32_6 _ (Own.bo_f (h32))
          · have h32 : u4.toInt = (0 : Int) := Classical.not_not.mp h32'
            refine Own.iconst X5 (v := 1) d4_35 rfl ?_
            refine Own.goto_ X5 (pc' := 40) d4_36 (by decide) ?_
            exact J32_6 _ (Own.bo_t (h32))
        intro z40_6 e_z40_6
        subst e_z40_6
        exact Own.retB X5 d4_40 (Own.bo_and _) ⟨congrArg (fun z => some (Value.int z)) (Own.bo_c (by omega)), rfl⟩ (by decide) (by decide)
theorem ef_4r (m : MethodId) (x0 : Addr) : entryFrame m #[.ref x0] 1 = mkF m 0 #[.val (.ref x0)] [] := by first | (simp [entryFrame, mkF, argsToLocals, Value.category, maxLocals]; done) | rfl
set_option maxRecDepth 65536 in
set_option maxHeartbeats 40000000 in
theorem rm4r (l : Launch) (Z : State) (a0 : Array Value) (hw : ∀ d ∈ tables_1, d.before a0 Z = true) (a : Addr) (u1 : Int32) (u2 : Int32) (dr : Addr)  (h0 : Heap) (n0 : Nat) (Z0 : n0 ≤ h0.size) (F0_a_paired : Fld Z h0 a "com/example/pliant/pliant/ml/VectorShare$Plan" "paired" "Z" (.int u1)) (F0_a_fromPass : Fld Z h0 a "com/example/pliant/pliant/ml/VectorShare$Plan" "fromPass" "Z" (.int u2)) (F0_a_direction : Fld Z h0 a "com/example/pliant/pliant/ml/VectorShare$Plan" "direction" "[D" (.ref dr))  :
    Own.Con l Z mn_3 [] prog_125_method_5_code 1 (some .boolean) ({ frames := 0, cells := 0, slots := 0, locals := 0 } : Room) #[.ref a] h0 n0 (fun v h => v = some (.int 0) ∧ h0 = h) := by
  refine Own.enter (own := "com/example/pliant/pliant/ml/VectorShare$Plan") (nm := "writesNothing") (plainFor_of_name pn_com_example_pliant_pliant_ml_VectorShare_Plan) rfl rfl (fun m => ef_4r m a) fun p e s m below meth c T X => ?_
  refine Own.aloadN X d4_0 rfl rfl ?_
  refine Own.getF_ X d4_1 (host := "") (Or.inl (Own.wd hw 16 rfl)) Via.refl F0_a_paired fun T1 X1 => ?_
  refine Own.iff_ X1 (pc' := 39) d4_4 (by decide) (fun (h4 : ¬ (u1.toInt = (0 : Int))) => ?_) (fun h4' => ?_)
  · refine Own.iconst X1 (v := 0) d4_39 rfl ?_
    exact Own.retB X1 d4_40 (by decide) ⟨rfl, rfl⟩ (by decide) (by decide)
  · have h4 : u1.toInt = (0 : Int) := Classical.not_not.mp h4'
    refine Own.aloadN X1 d4_7 rfl rfl ?_
    refine Own.getF_ X1 d4_8 (host := "") (Or.inl (Own.wd hw 22 rfl)) Via.refl F0_a_fromPass fun T2 X2 => ?_
    refine Own.iff_ X2 (pc' := 39) d4_11 (by decide) (fun (h11 : ¬ (u2.toInt = (0 : Int))) => ?_) (fun h11' => ?_)
    · refine Own.iconst X2 (v := 0) d4_39 rfl ?_
      exact Own.retB X2 d4_40 (by decide) ⟨rfl, rfl⟩ (by decide) (by decide)
    · have h11 : u2.toInt = (0 : Int) := Classical.not_not.mp h11'
      refine Own.aloadN X2 d4_14 rfl rfl ?_
      refine Own.getF_ X2 d4_15 (host := "") (Or.inl (Own.wd hw 24 rfl)) Via.refl F0_a_direction fun T3 X3 => ?_
      refine Own.ifnonnullY X3 (pc' := 39) d4_18 (by decide) ?_
      refine Own.iconst X3 (v := 0) d4_39 rfl ?_
      exact Own.retB X3 d4_40 (by decide) ⟨rfl, rfl⟩ (by decide) (by decide)
theorem ef_5 (m : MethodId) (x0 : Int32) (x1 : UInt64) (x2 : Int32) (x3 : Int32) : entryFrame m #[.int x0, .double x1, .int x2, .int x3] 5 = mkF m 0 #[.val (.int x0), .val (.double x1), .second, .val (.int x2), .val (.int x3)] [] := by first | (simp [entryFrame, mkF, argsToLocals, Value.category, maxLocals]; done) | rfl
set_option maxRecDepth 65536 in
set_option maxHeartbeats 40000000 in
theorem rm5 (l : Launch) (Z : State) (a0 : Array Value) (hw : ∀ d ∈ tables_1, d.before a0 Z = true) (p1 : Int32) (p2 : UInt64) (p3 : Int32) (p4 : Int32) (h0 : Heap) (n0 : Nat) (Z0 : n0 ≤ h0.size) (b_p4 : p4 &&& 1 = p4) :
    Own.Con l Z mn_5 [] prog_125_method_3_code 5 (some (.object "com/example/pliant/pliant/ml/VectorShare$Plan")) ({ frames := 3, cells := 1, slots := 11, locals := 50 } : Room) #[.int p1, .double p2, .int p3, .int p4] h0 n0 (fun v h => ∃ a : Addr, v = some (.ref a) ∧ h0.size ≤ a ∧ Keep h0 h [] ∧ Exa Z h a "com/example/pliant/pliant/ml/VectorShare$Plan" ∧ Fld Z h a "com/example/pliant/pliant/ml/VectorShare$Plan" "pass" "I" (.int p1) ∧ Fld Z h a "com/example/pliant/pliant/ml/VectorShare$Plan" "paired" "Z" (.int (0 : Int32)) ∧ Fld Z h a "com/example/pliant/pliant/ml/VectorShare$Plan" "slot" "I" (.int p3) ∧ Fld Z h a "com/example/pliant/pliant/ml/VectorShare$Plan" "step" "D" (.double p2) ∧ Fld Z h a "com/example/pliant/pliant/ml/VectorShare$Plan" "fromPass" "Z" (.int (0 : Int32)) ∧ Fld Z h a "com/example/pliant/pliant/ml/VectorShare$Plan" "direction" "[D" (.null) ∧ Fld Z h a "com/example/pliant/pliant/ml/VectorShare$Plan" "move" "Z" (.int (0 : Int32)) ∧ Fld Z h a "com/example/pliant/pliant/ml/VectorShare$Plan" "ahead" "D" (.double p2) ∧ Fld Z h a "com/example/pliant/pliant/ml/VectorShare$Plan" "nextSlot" "I" (.int p3) ∧ Fld Z h a "com/example/pliant/pliant/ml/VectorShare$Plan" "scale" "Z" (.int (0 : Int32)) ∧ Fld Z h a "com/example/pliant/pliant/ml/VectorShare$Plan" "scaled" "Z" (.int p4)) := by
  refine Own.enter (own := "com/example/pliant/pliant/ml/VectorShare$Plan") (nm := "nothing") (plainFor_of_name pn_com_example_pliant_pliant_ml_VectorShare_Plan) rfl rfl (fun m => ef_5 m p1 p2 p3 p4) fun p e s m below meth c T X => ?_
  refine Own.newO_ X d5_0 (Own.wd hw 44 rfl) (Own.wd hw 1 rfl) (Own.wd hw 2 rfl) (by decide) (by decide) fun T1 h1 o0 g_o0 X1 E1 A1 D1 => ?_
  have fr2 : n0 ≤ o0 := Nat.le_trans Z0 (Nat.le_of_eq g_o0.symm)
  have bn3 : h0.size ≤ o0 := Nat.le_trans (Keep.refl h0 []).1 (Nat.le_of_eq g_o0.symm)
  have F4 := (Keep.refl h0 []).ext E1
  have Z5 : n0 ≤ h1.size := Nat.le_trans Z0 E1.1
  have F6 : Fld Z h1 o0 "com/example/pliant/pliant/ml/VectorShare$Plan" "pass" "I" (.int (0 : Int32)) := D1 (Or.inr (Own.wd hw 15 rfl)) (ty := .int) (by decide)
  have F7 : Fld Z h1 o0 "com/example/pliant/pliant/ml/VectorShare$Plan" "paired" "Z" (.int (0 : Int32)) := D1 (Or.inr (Own.wd hw 17 rfl)) (ty := .boolean) (by decide)
  have F8 : Fld Z h1 o0 "com/example/pliant/pliant/ml/VectorShare$Plan" "slot" "I" (.int (0 : Int32)) := D1 (Or.inr (Own.wd hw 19 rfl)) (ty := .int) (by decide)
  have F9 : Fld Z h1 o0 "com/example/pliant/pliant/ml/VectorShare$Plan" "step" "D" (.double 0) := D1 (Or.inr (Own.wd hw 21 rfl)) (ty := .double) (by decide)
  have F10 : Fld Z h1 o0 "com/example/pliant/pliant/ml/VectorShare$Plan" "fromPass" "Z" (.int (0 : Int32)) := D1 (Or.inr (Own.wd hw 23 rfl)) (ty := .boolean) (by decide)
  have F11 : Fld Z h1 o0 "com/example/pliant/pliant/ml/VectorShare$Plan" "direction" "[D" (.null) := D1 (Or.inr (Own.wd hw 25 rfl)) (ty := (.array .double)) (by decide)
  have F12 : Fld Z h1 o0 "com/example/pliant/pliant/ml/VectorShare$Plan" "move" "Z" (.int (0 : Int32)) := D1 (Or.inr (Own.wd hw 27 rfl)) (ty := .boolean) (by decide)
  have F13 : Fld Z h1 o0 "com/example/pliant/pliant/ml/VectorShare$Plan" "ahead" "D" (.double 0) := D1 (Or.inr (Own.wd hw 29 rfl)) (ty := .double) (by decide)
  have F14 : Fld Z h1 o0 "com/example/pliant/pliant/ml/VectorShare$Plan" "nextSlot" "I" (.int (0 : Int32)) := D1 (Or.inr (Own.wd hw 31 rfl)) (ty := .int) (by decide)
  have F15 : Fld Z h1 o0 "com/example/pliant/pliant/ml/VectorShare$Plan" "scale" "Z" (.int (0 : Int32)) := D1 (Or.inr (Own.wd hw 33 rfl)) (ty := .boolean) (by decide)
  have F16 : Fld Z h1 o0 "com/example/pliant/pliant/ml/VectorShare$Plan" "scaled" "Z" (.int (0 : Int32)) := D1 (Or.inr (Own.wd hw 35 rfl)) (ty := .boolean) (by decide)
  refine Own.dup X1 d5_3 rfl ?_
  refine Own.iloadN X1 d5_4 rfl ?_
  refine Own.iconst X1 (v := 0) d5_5 rfl ?_
  refine Own.iloadN X1 d5_6 rfl ?_
  refine Own.dloadN X1 d5_7 rfl ?_
  refine Own.iconst X1 (v := 0) d5_8 rfl ?_
  refine Own.aconstNull X1 d5_9 ?_
  refine Own.iconst X1 (v := 0) d5_10 rfl ?_
  refine Own.dloadN X1 d5_11 rfl ?_
  refine Own.iloadN X1 d5_12 rfl ?_
  refine Own.iconst X1 (v := 0) d5_13 rfl ?_
  refine Own.iload X1 d5_14 rfl ?_
  refine Own.callI_ (y := mn_2) (a := o0) X1 d5_16 rfl (Own.wd hw 45 rfl) (Own.wd hw 4 rfl) (Own.wd hw 2 rfl) (Own.wd hw 5 rfl) (by decide) (rm1n l Z a0 hw o0 p1 (0 : Int32) p3 p2 (0 : Int32) (0 : Int32) p2 p3 (0 : Int32) p4 h1 n0 Z5 fr2 A1 F6 F7 F8 F9 F10 F11 F12 F13 F14 F15 F16 (by decide) (by decide) (by decide) (by decide) b_p4) (lenOf pd_4 rfl) rfl (argsL := [.int p1, .int (0 : Int32), .int p3, .double p2, .int (0 : Int32), .null, .int (0 : Int32), .double p2, .int p3, .int (0 : Int32), .int p4]) (rest := [.ref o0]) rfl (W := 1) (Nat.le_of_eq rfl) (by decide) (by decide) (by decide) (by decide) fun T17 h17 v17 X17 q17 => ?_
  obtain ⟨rfl, K17, G17_0, G17_1, G17_2, G17_3, G17_4, G17_5, G17_6, G17_7, G17_8, G17_9, G17_10⟩ := q17
  have F18 := F4.trans K17 (allS (Or.inr bn3) all0)
  have F19 := A1.keep K17
  have Z20 : n0 ≤ h17.size := Nat.le_trans Z5 K17.1
  show Own.Go p e below s n0 _ _ _ (T17.setTop (mkF m 19 _ [.ref o0]))
  exact Own.retA X17 d5_19 rfl rfl rfl ⟨o0, rfl, bn3, F18, F19, G17_0, G17_1, G17_2, G17_3, G17_4, G17_5, G17_6, G17_7, G17_8, G17_9, G17_10⟩ (by decide) (by decide)
theorem ef_6 (m : MethodId) (x0 : Int32) (x1 : UInt64) (x2 : Int32) : entryFrame m #[.int x0, .double x1, .int x2] 4 = mkF m 0 #[.val (.int x0), .val (.double x1), .second, .val (.int x2)] [] := by first | (simp [entryFrame, mkF, argsToLocals, Value.category, maxLocals]; done) | rfl
set_option maxRecDepth 65536 in
set_option maxHeartbeats 40000000 in
theorem rm6 (l : Launch) (Z : State) (a0 : Array Value) (hw : ∀ d ∈ tables_1, d.before a0 Z = true) (p1 : Int32) (p2 : UInt64) (p3 : Int32) (h0 : Heap) (n0 : Nat) (Z0 : n0 ≤ h0.size)  :
    Own.Con l Z mn_6 [] prog_125_method_4_code 4 (some (.object "com/example/pliant/pliant/ml/VectorShare$Plan")) ({ frames := 3, cells := 1, slots := 11, locals := 50 } : Room) #[.int p1, .double p2, .int p3] h0 n0 (fun v h => ∃ a : Addr, v = some (.ref a) ∧ h0.size ≤ a ∧ Keep h0 h [] ∧ Exa Z h a "com/example/pliant/pliant/ml/VectorShare$Plan" ∧ Fld Z h a "com/example/pliant/pliant/ml/VectorShare$Plan" "pass" "I" (.int p1) ∧ Fld Z h a "com/example/pliant/pliant/ml/VectorShare$Plan" "paired" "Z" (.int (0 : Int32)) ∧ Fld Z h a "com/example/pliant/pliant/ml/VectorShare$Plan" "slot" "I" (.int p3) ∧ Fld Z h a "com/example/pliant/pliant/ml/VectorShare$Plan" "step" "D" (.double p2) ∧ Fld Z h a "com/example/pliant/pliant/ml/VectorShare$Plan" "fromPass" "Z" (.int (0 : Int32)) ∧ Fld Z h a "com/example/pliant/pliant/ml/VectorShare$Plan" "direction" "[D" (.null) ∧ Fld Z h a "com/example/pliant/pliant/ml/VectorShare$Plan" "move" "Z" (.int (0 : Int32)) ∧ Fld Z h a "com/example/pliant/pliant/ml/VectorShare$Plan" "ahead" "D" (.double p2) ∧ Fld Z h a "com/example/pliant/pliant/ml/VectorShare$Plan" "nextSlot" "I" (.int p3) ∧ Fld Z h a "com/example/pliant/pliant/ml/VectorShare$Plan" "scale" "Z" (.int (1 : Int32)) ∧ Fld Z h a "com/example/pliant/pliant/ml/VectorShare$Plan" "scaled" "Z" (.int (1 : Int32))) := by
  refine Own.enter (own := "com/example/pliant/pliant/ml/VectorShare$Plan") (nm := "scaling") (plainFor_of_name pn_com_example_pliant_pliant_ml_VectorShare_Plan) rfl rfl (fun m => ef_6 m p1 p2 p3) fun p e s m below meth c T X => ?_
  refine Own.newO_ X d6_0 (Own.wd hw 44 rfl) (Own.wd hw 1 rfl) (Own.wd hw 2 rfl) (by decide) (by decide) fun T1 h1 o0 g_o0 X1 E1 A1 D1 => ?_
  have fr2 : n0 ≤ o0 := Nat.le_trans Z0 (Nat.le_of_eq g_o0.symm)
  have bn3 : h0.size ≤ o0 := Nat.le_trans (Keep.refl h0 []).1 (Nat.le_of_eq g_o0.symm)
  have F4 := (Keep.refl h0 []).ext E1
  have Z5 : n0 ≤ h1.size := Nat.le_trans Z0 E1.1
  have F6 : Fld Z h1 o0 "com/example/pliant/pliant/ml/VectorShare$Plan" "pass" "I" (.int (0 : Int32)) := D1 (Or.inr (Own.wd hw 15 rfl)) (ty := .int) (by decide)
  have F7 : Fld Z h1 o0 "com/example/pliant/pliant/ml/VectorShare$Plan" "paired" "Z" (.int (0 : Int32)) := D1 (Or.inr (Own.wd hw 17 rfl)) (ty := .boolean) (by decide)
  have F8 : Fld Z h1 o0 "com/example/pliant/pliant/ml/VectorShare$Plan" "slot" "I" (.int (0 : Int32)) := D1 (Or.inr (Own.wd hw 19 rfl)) (ty := .int) (by decide)
  have F9 : Fld Z h1 o0 "com/example/pliant/pliant/ml/VectorShare$Plan" "step" "D" (.double 0) := D1 (Or.inr (Own.wd hw 21 rfl)) (ty := .double) (by decide)
  have F10 : Fld Z h1 o0 "com/example/pliant/pliant/ml/VectorShare$Plan" "fromPass" "Z" (.int (0 : Int32)) := D1 (Or.inr (Own.wd hw 23 rfl)) (ty := .boolean) (by decide)
  have F11 : Fld Z h1 o0 "com/example/pliant/pliant/ml/VectorShare$Plan" "direction" "[D" (.null) := D1 (Or.inr (Own.wd hw 25 rfl)) (ty := (.array .double)) (by decide)
  have F12 : Fld Z h1 o0 "com/example/pliant/pliant/ml/VectorShare$Plan" "move" "Z" (.int (0 : Int32)) := D1 (Or.inr (Own.wd hw 27 rfl)) (ty := .boolean) (by decide)
  have F13 : Fld Z h1 o0 "com/example/pliant/pliant/ml/VectorShare$Plan" "ahead" "D" (.double 0) := D1 (Or.inr (Own.wd hw 29 rfl)) (ty := .double) (by decide)
  have F14 : Fld Z h1 o0 "com/example/pliant/pliant/ml/VectorShare$Plan" "nextSlot" "I" (.int (0 : Int32)) := D1 (Or.inr (Own.wd hw 31 rfl)) (ty := .int) (by decide)
  have F15 : Fld Z h1 o0 "com/example/pliant/pliant/ml/VectorShare$Plan" "scale" "Z" (.int (0 : Int32)) := D1 (Or.inr (Own.wd hw 33 rfl)) (ty := .boolean) (by decide)
  have F16 : Fld Z h1 o0 "com/example/pliant/pliant/ml/VectorShare$Plan" "scaled" "Z" (.int (0 : Int32)) := D1 (Or.inr (Own.wd hw 35 rfl)) (ty := .boolean) (by decide)
  refine Own.dup X1 d6_3 rfl ?_
  refine Own.iloadN X1 d6_4 rfl ?_
  refine Own.iconst X1 (v := 0) d6_5 rfl ?_
  refine Own.iloadN X1 d6_6 rfl ?_
  refine Own.dloadN X1 d6_7 rfl ?_
  refine Own.iconst X1 (v := 0) d6_8 rfl ?_
  refine Own.aconstNull X1 d6_9 ?_
  refine Own.iconst X1 (v := 0) d6_10 rfl ?_
  refine Own.dloadN X1 d6_11 rfl ?_
  refine Own.iloadN X1 d6_12 rfl ?_
  refine Own.iconst X1 (v := 1) d6_13 rfl ?_
  refine Own.iconst X1 (v := 1) d6_14 rfl ?_
  refine Own.callI_ (y := mn_2) (a := o0) X1 d6_15 rfl (Own.wd hw 45 rfl) (Own.wd hw 4 rfl) (Own.wd hw 2 rfl) (Own.wd hw 5 rfl) (by decide) (rm1n l Z a0 hw o0 p1 (0 : Int32) p3 p2 (0 : Int32) (0 : Int32) p2 p3 (1 : Int32) (1 : Int32) h1 n0 Z5 fr2 A1 F6 F7 F8 F9 F10 F11 F12 F13 F14 F15 F16 (by decide) (by decide) (by decide) (by decide) (by decide)) (lenOf pd_4 rfl) rfl (argsL := [.int p1, .int (0 : Int32), .int p3, .double p2, .int (0 : Int32), .null, .int (0 : Int32), .double p2, .int p3, .int (1 : Int32), .int (1 : Int32)]) (rest := [.ref o0]) rfl (W := 1) (Nat.le_of_eq rfl) (by decide) (by decide) (by decide) (by decide) fun T17 h17 v17 X17 q17 => ?_
  obtain ⟨rfl, K17, G17_0, G17_1, G17_2, G17_3, G17_4, G17_5, G17_6, G17_7, G17_8, G17_9, G17_10⟩ := q17
  have F18 := F4.trans K17 (allS (Or.inr bn3) all0)
  have F19 := A1.keep K17
  have Z20 : n0 ≤ h17.size := Nat.le_trans Z5 K17.1
  show Own.Go p e below s n0 _ _ _ (T17.setTop (mkF m 18 _ [.ref o0]))
  exact Own.retA X17 d6_18 rfl rfl rfl ⟨o0, rfl, bn3, F18, F19, G17_0, G17_1, G17_2, G17_3, G17_4, G17_5, G17_6, G17_7, G17_8, G17_9, G17_10⟩ (by decide) (by decide)
theorem ef_0 (m : MethodId) (x0 : Int32) (x1 : Int32) (x2 : Int32) (x3 : Int32) (x4 : Int32) (x5 : Int32) : entryFrame m #[.int x0, .int x1, .int x2, .int x3, .int x4, .int x5] maxLocals = mkF m 0 #[.val (.int x0), .val (.int x1), .val (.int x2), .val (.int x3), .val (.int x4), .val (.int x5), .unset, .unset, .unset, .unset, .unset, .unset, .unset, .unset, .unset, .unset, .unset, .unset, .unset, .unset, .unset, .unset] [] := by first | (simp [entryFrame, mkF, argsToLocals, Value.category, maxLocals]; done) | rfl
set_option maxRecDepth 65536 in
set_option maxHeartbeats 40000000 in
theorem rm0 (l : Launch) (Z : State) (a0 : Array Value) (hw : ∀ d ∈ tables_1, d.before a0 Z = true) (i0 i1 i2 i3 i4 i5 : Int32) (h0 : Heap) (n0 : Nat) (Z0 : n0 ≤ h0.size)  :
    Own.Con l Z x tables_1 code maxLocals ret room_1 #[.int i0, .int i1, .int i2, .int i3, .int i4, .int i5] h0 n0 (fun v _ => v = some (.int 1)) := by
  refine Own.enter (own := "com/example/pliant/pliant/ml/PlanWritesNothingPinLaw") (nm := "law") (plainFor_of_name pn_com_example_pliant_pliant_ml_PlanWritesNothingPinLaw) rfl rfl (fun m => ef_0 m i0 i1 i2 i3 i4 i5) fun p e s m below meth c T X => ?_
  refine Own.iloadN X at_0 rfl ?_
  refine Own.iconst X (v := 1) at_1 rfl ?_
  refine Own.iand X at_2 ?_
  suffices J3_1 : ∀ (z11_1 : Int32), z11_1 = Own.bo (¬ ((i0 &&& (1 : Int32)).toInt = (0 : Int))) → Own.Go p e below s n0 (fun v _ => v = some (.int 1)) 16 192 (T.setTop (mkF m 11 #[.val (.int i0), .val (.int i1), .val (.int i2), .val (.int i3), .val (.int i4), .val (.int i5), .unset, .unset, .unset, .unset, .unset, .unset, .unset, .unset, .unset, .unset, .unset, .unset, .unset, .unset, .unset, .unset] [.int z11_1])) by
    refine Own.iff_ X (pc' := 10) at_3 (by decide) (fun (h3 : (i0 &&& (1 : Int32)).toInt = (0 : Int)) => ?_) (fun (h3 : ¬ ((i0 &&& (1 : Int32)).toInt = (0 : Int))) => ?_)
    · refine Own.iconst X (v := 0) at_10 rfl ?_
      exact J3_1 _ (Own.bo_f (fun q => q h3))
    · refine Own.iconst X (v := 1) at_6 rfl ?_
      refine Own.goto_ X (pc' := 11) at_7 (by decide) ?_
      exact J3_1 _ (Own.bo_t (h3))
  intro z11_1 e_z11_1
  subst e_z11_1
  refine Own.istore X at_11 (l' := #[.val (.int i0), .val (.int i1), .val (.int i2), .val (.int i3), .val (.int i4), .val (.int i5), .val (.int (Own.bo (¬ ((i0 &&& (1 : Int32)).toInt = (0 : Int))))), .unset, .unset, .unset, .unset, .unset, .unset, .unset, .unset, .unset, .unset, .unset, .unset, .unset, .unset, .unset]) rfl ?_
  refine Own.iloadN X at_13 rfl ?_
  refine Own.iconst X (v := 2) at_14 rfl ?_
  refine Own.iand X at_15 ?_
  suffices J16_2 : ∀ (z24_2 : Int32), z24_2 = Own.bo (¬ ((i0 &&& (2 : Int32)).toInt = (0 : Int))) → Own.Go p e below s n0 (fun v _ => v = some (.int 1)) 16 192 (T.setTop (mkF m 24 #[.val (.int i0), .val (.int i1), .val (.int i2), .val (.int i3), .val (.int i4), .val (.int i5), .val (.int (Own.bo (¬ ((i0 &&& (1 : Int32)).toInt = (0 : Int))))), .unset, .unset, .unset, .unset, .unset, .unset, .unset, .unset, .unset, .unset, .unset, .unset, .unset, .unset, .unset] [.int z24_2])) by
    refine Own.iff_ X (pc' := 23) at_16 (by decide) (fun (h16 : (i0 &&& (2 : Int32)).toInt = (0 : Int)) => ?_) (fun (h16 : ¬ ((i0 &&& (2 : Int32)).toInt = (0 : Int))) => ?_)
    · refine Own.iconst X (v := 0) at_23 rfl ?_
      exact J16_2 _ (Own.bo_f (fun q => q h16))
    · refine Own.iconst X (v := 1) at_19 rfl ?_
      refine Own.goto_ X (pc' := 24) at_20 (by decide) ?_
      exact J16_2 _ (Own.bo_t (h16))
  intro z24_2 e_z24_2
  subst e_z24_2
  refine Own.istore X at_24 (l' := #[.val (.int i0), .val (.int i1), .val (.int i2), .val (.int i3), .val (.int i4), .val (.int i5), .val (.int (Own.bo (¬ ((i0 &&& (1 : Int32)).toInt = (0 : Int))))), .val (.int (Own.bo (¬ ((i0 &&& (2 : Int32)).toInt = (0 : Int))))), .unset, .unset, .unset, .unset, .unset, .unset, .unset, .unset, .unset, .unset, .unset, .unset, .unset, .unset]) rfl ?_
  refine Own.iloadN X at_26 rfl ?_
  refine Own.iconst X (v := 4) at_27 rfl ?_
  refine Own.iand X at_28 ?_
  suffices J29_3 : ∀ (z37_3 : Int32), z37_3 = Own.bo (¬ ((i0 &&& (4 : Int32)).toInt = (0 : Int))) → Own.Go p e below s n0 (fun v _ => v = some (.int 1)) 16 192 (T.setTop (mkF m 37 #[.val (.int i0), .val (.int i1), .val (.int i2), .val (.int i3), .val (.int i4), .val (.int i5), .val (.int (Own.bo (¬ ((i0 &&& (1 : Int32)).toInt = (0 : Int))))), .val (.int (Own.bo (¬ ((i0 &&& (2 : Int32)).toInt = (0 : Int))))), .unset, .unset, .unset, .unset, .unset, .unset, .unset, .unset, .unset, .unset, .unset, .unset, .unset, .unset] [.int z37_3])) by
    refine Own.iff_ X (pc' := 36) at_29 (by decide) (fun (h29 : (i0 &&& (4 : Int32)).toInt = (0 : Int)) => ?_) (fun (h29 : ¬ ((i0 &&& (4 : Int32)).toInt = (0 : Int))) => ?_)
    · refine Own.iconst X (v := 0) at_36 rfl ?_
      exact J29_3 _ (Own.bo_f (fun q => q h29))
    · refine Own.iconst X (v := 1) at_32 rfl ?_
      refine Own.goto_ X (pc' := 37) at_33 (by decide) ?_
      exact J29_3 _ (Own.bo_t (h29))
  intro z37_3 e_z37_3
  subst e_z37_3
  refine Own.istore X at_37 (l' := #[.val (.int i0), .val (.int i1), .val (.int i2), .val (.int i3), .val (.int i4), .val (.int i5), .val (.int (Own.bo (¬ ((i0 &&& (1 : Int32)).toInt = (0 : Int))))), .val (.int (Own.bo (¬ ((i0 &&& (2 : Int32)).toInt = (0 : Int))))), .val (.int (Own.bo (¬ ((i0 &&& (4 : Int32)).toInt = (0 : Int))))), .unset, .unset, .unset, .unset, .unset, .unset, .unset, .unset, .unset, .unset, .unset, .unset, .unset]) rfl ?_
  refine Own.iloadN X at_39 rfl ?_
  refine Own.bipush X (v := 8) at_40 rfl ?_
  refine Own.iand X at_42 ?_
  suffices J43_4 : ∀ (z51_4 : Int32), z51_4 = Own.bo (¬ ((i0 &&& (8 : Int32)).toInt = (0 : Int))) → Own.Go p e below s n0 (fun v _ => v = some (.int 1)) 16 192 (T.setTop (mkF m 51 #[.val (.int i0), .val (.int i1), .val (.int i2), .val (.int i3), .val (.int i4), .val (.int i5), .val (.int (Own.bo (¬ ((i0 &&& (1 : Int32)).toInt = (0 : Int))))), .val (.int (Own.bo (¬ ((i0 &&& (2 : Int32)).toInt = (0 : Int))))), .val (.int (Own.bo (¬ ((i0 &&& (4 : Int32)).toInt = (0 : Int))))), .unset, .unset, .unset, .unset, .unset, .unset, .unset, .unset, .unset, .unset, .unset, .unset, .unset] [.int z51_4])) by
    refine Own.iff_ X (pc' := 50) at_43 (by decide) (fun (h43 : (i0 &&& (8 : Int32)).toInt = (0 : Int)) => ?_) (fun (h43 : ¬ ((i0 &&& (8 : Int32)).toInt = (0 : Int))) => ?_)
    · refine Own.iconst X (v := 0) at_50 rfl ?_
      exact J43_4 _ (Own.bo_f (fun q => q h43))
    · refine Own.iconst X (v := 1) at_46 rfl ?_
      refine Own.goto_ X (pc' := 51) at_47 (by decide) ?_
      exact J43_4 _ (Own.bo_t (h43))
  intro z51_4 e_z51_4
  subst e_z51_4
  refine Own.istore X at_51 (l' := #[.val (.int i0), .val (.int i1), .val (.int i2), .val (.int i3), .val (.int i4), .val (.int i5), .val (.int (Own.bo (¬ ((i0 &&& (1 : Int32)).toInt = (0 : Int))))), .val (.int (Own.bo (¬ ((i0 &&& (2 : Int32)).toInt = (0 : Int))))), .val (.int (Own.bo (¬ ((i0 &&& (4 : Int32)).toInt = (0 : Int))))), .val (.int (Own.bo (¬ ((i0 &&& (8 : Int32)).toInt = (0 : Int))))), .unset, .unset, .unset, .unset, .unset, .unset, .unset, .unset, .unset, .unset, .unset, .unset]) rfl ?_
  refine Own.iloadN X at_53 rfl ?_
  refine Own.bipush X (v := 16) at_54 rfl ?_
  refine Own.iand X at_56 ?_
  suffices J57_5 : ∀ (z65_5 : Int32), z65_5 = Own.bo (¬ ((i0 &&& (16 : Int32)).toInt = (0 : Int))) → Own.Go p e below s n0 (fun v _ => v = some (.int 1)) 16 192 (T.setTop (mkF m 65 #[.val (.int i0), .val (.int i1), .val (.int i2), .val (.int i3), .val (.int i4), .val (.int i5), .val (.int (Own.bo (¬ ((i0 &&& (1 : Int32)).toInt = (0 : Int))))), .val (.int (Own.bo (¬ ((i0 &&& (2 : Int32)).toInt = (0 : Int))))), .val (.int (Own.bo (¬ ((i0 &&& (4 : Int32)).toInt = (0 : Int))))), .val (.int (Own.bo (¬ ((i0 &&& (8 : Int32)).toInt = (0 : Int))))), .unset, .unset, .unset, .unset, .unset, .unset, .unset, .unset, .unset, .unset, .unset, .unset] [.int z65_5])) by
    refine Own.iff_ X (pc' := 64) at_57 (by decide) (fun (h57 : (i0 &&& (16 : Int32)).toInt = (0 : Int)) => ?_) (fun (h57 : ¬ ((i0 &&& (16 : Int32)).toInt = (0 : Int))) => ?_)
    · refine Own.iconst X (v := 0) at_64 rfl ?_
      exact J57_5 _ (Own.bo_f (fun q => q h57))
    · refine Own.iconst X (v := 1) at_60 rfl ?_
      refine Own.goto_ X (pc' := 65) at_61 (by decide) ?_
      exact J57_5 _ (Own.bo_t (h57))
  intro z65_5 e_z65_5
  subst e_z65_5
  refine Own.istore X at_65 (l' := #[.val (.int i0), .val (.int i1), .val (.int i2), .val (.int i3), .val (.int i4), .val (.int i5), .val (.int (Own.bo (¬ ((i0 &&& (1 : Int32)).toInt = (0 : Int))))), .val (.int (Own.bo (¬ ((i0 &&& (2 : Int32)).toInt = (0 : Int))))), .val (.int (Own.bo (¬ ((i0 &&& (4 : Int32)).toInt = (0 : Int))))), .val (.int (Own.bo (¬ ((i0 &&& (8 : Int32)).toInt = (0 : Int))))), .val (.int (Own.bo (¬ ((i0 &&& (16 : Int32)).toInt = (0 : Int))))), .unset, .unset, .unset, .unset, .unset, .unset, .unset, .unset, .unset, .unset, .unset]) rfl ?_
  refine Own.iloadN X at_67 rfl ?_
  refine Own.bipush X (v := 32) at_68 rfl ?_
  refine Own.iand X at_70 ?_
  suffices J71_6 : ∀ (z79_6 : Int32), z79_6 = Own.bo (¬ ((i0 &&& (32 : Int32)).toInt = (0 : Int))) → Own.Go p e below s n0 (fun v _ => v = some (.int 1)) 16 192 (T.setTop (mkF m 79 #[.val (.int i0), .val (.int i1), .val (.int i2), .val (.int i3), .val (.int i4), .val (.int i5), .val (.int (Own.bo (¬ ((i0 &&& (1 : Int32)).toInt = (0 : Int))))), .val (.int (Own.bo (¬ ((i0 &&& (2 : Int32)).toInt = (0 : Int))))), .val (.int (Own.bo (¬ ((i0 &&& (4 : Int32)).toInt = (0 : Int))))), .val (.int (Own.bo (¬ ((i0 &&& (8 : Int32)).toInt = (0 : Int))))), .val (.int (Own.bo (¬ ((i0 &&& (16 : Int32)).toInt = (0 : Int))))), .unset, .unset, .unset, .unset, .unset, .unset, .unset, .unset, .unset, .unset, .unset] [.int z79_6])) by
    refine Own.iff_ X (pc' := 78) at_71 (by decide) (fun (h71 : (i0 &&& (32 : Int32)).toInt = (0 : Int)) => ?_) (fun (h71 : ¬ ((i0 &&& (32 : Int32)).toInt = (0 : Int))) => ?_)
    · refine Own.iconst X (v := 0) at_78 rfl ?_
      exact J71_6 _ (Own.bo_f (fun q => q h71))
    · refine Own.iconst X (v := 1) at_74 rfl ?_
      refine Own.goto_ X (pc' := 79) at_75 (by decide) ?_
      exact J71_6 _ (Own.bo_t (h71))
  intro z79_6 e_z79_6
  subst e_z79_6
  refine Own.istore X at_79 (l' := #[.val (.int i0), .val (.int i1), .val (.int i2), .val (.int i3), .val (.int i4), .val (.int i5), .val (.int (Own.bo (¬ ((i0 &&& (1 : Int32)).toInt = (0 : Int))))), .val (.int (Own.bo (¬ ((i0 &&& (2 : Int32)).toInt = (0 : Int))))), .val (.int (Own.bo (¬ ((i0 &&& (4 : Int32)).toInt = (0 : Int))))), .val (.int (Own.bo (¬ ((i0 &&& (8 : Int32)).toInt = (0 : Int))))), .val (.int (Own.bo (¬ ((i0 &&& (16 : Int32)).toInt = (0 : Int))))), .val (.int (Own.bo (¬ ((i0 &&& (32 : Int32)).toInt = (0 : Int))))), .unset, .unset, .unset, .unset, .unset, .unset, .unset, .unset, .unset, .unset]) rfl ?_
  refine Own.iload X at_81 rfl ?_
  refine Own.sipush X (v := 1000) at_83 rfl ?_
  refine Own.irem X at_86 (by decide) ?_
  obtain ⟨d87, e_d87⟩ : ∃ v, FP.i2d (i4 % (1000 : Int32)) = v := ⟨_, rfl⟩
  obtain ⟨f_d87, z_d87⟩ := Own.i2d_v e_d87
  have n_d87 := f_d87.noNaN
  refine Own.i2d X at_87 e_d87 ?_
  refine Own.dstore X at_88 (l' := #[.val (.int i0), .val (.int i1), .val (.int i2), .val (.int i3), .val (.int i4), .val (.int i5), .val (.int (Own.bo (¬ ((i0 &&& (1 : Int32)).toInt = (0 : Int))))), .val (.int (Own.bo (¬ ((i0 &&& (2 : Int32)).toInt = (0 : Int))))), .val (.int (Own.bo (¬ ((i0 &&& (4 : Int32)).toInt = (0 : Int))))), .val (.int (Own.bo (¬ ((i0 &&& (8 : Int32)).toInt = (0 : Int))))), .val (.int (Own.bo (¬ ((i0 &&& (16 : Int32)).toInt = (0 : Int))))), .val (.int (Own.bo (¬ ((i0 &&& (32 : Int32)).toInt = (0 : Int))))), .val (.double d87), .second, .unset, .unset, .unset, .unset, .unset, .unset, .unset, .unset]) rfl ?_
  refine Own.iload X at_90 rfl ?_
  refine Own.sipush X (v := 1000) at_92 rfl ?_
  refine Own.irem X at_95 (by decide) ?_
  obtain ⟨d96, e_d96⟩ : ∃ v, FP.i2d (i5 % (1000 : Int32)) = v := ⟨_, rfl⟩
  obtain ⟨f_d96, z_d96⟩ := Own.i2d_v e_d96
  have n_d96 := f_d96.noNaN
  refine Own.i2d X at_96 e_d96 ?_
  refine Own.dstore X at_97 (l' := #[.val (.int i0), .val (.int i1), .val (.int i2), .val (.int i3), .val (.int i4), .val (.int i5), .val (.int (Own.bo (¬ ((i0 &&& (1 : Int32)).toInt = (0 : Int))))), .val (.int (Own.bo (¬ ((i0 &&& (2 : Int32)).toInt = (0 : Int))))), .val (.int (Own.bo (¬ ((i0 &&& (4 : Int32)).toInt = (0 : Int))))), .val (.int (Own.bo (¬ ((i0 &&& (8 : Int32)).toInt = (0 : Int))))), .val (.int (Own.bo (¬ ((i0 &&& (16 : Int32)).toInt = (0 : Int))))), .val (.int (Own.bo (¬ ((i0 &&& (32 : Int32)).toInt = (0 : Int))))), .val (.double d87), .second, .val (.double d96), .second, .unset, .unset, .unset, .unset, .unset, .unset]) rfl ?_
  refine Own.iload X at_99 rfl ?_
  refine Own.ifeqB X (pc' := 115) at_101 (by decide) (fun (h101 : ¬ (¬ ((i0 &&& (4 : Int32)).toInt = (0 : Int)))) => ?_) (fun (h101 : ¬ ((i0 &&& (4 : Int32)).toInt = (0 : Int))) => ?_)
  · refine Own.aconstNull X at_115 ?_
    refine Own.astore X at_116 rfl (l' := #[.val (.int i0), .val (.int i1), .val (.int i2), .val (.int i3), .val (.int i4), .val (.int i5), .val (.int (Own.bo (¬ ((i0 &&& (1 : Int32)).toInt = (0 : Int))))), .val (.int (Own.bo (¬ ((i0 &&& (2 : Int32)).toInt = (0 : Int))))), .val (.int (Own.bo (¬ ((i0 &&& (4 : Int32)).toInt = (0 : Int))))), .val (.int (Own.bo (¬ ((i0 &&& (8 : Int32)).toInt = (0 : Int))))), .val (.int (Own.bo (¬ ((i0 &&& (16 : Int32)).toInt = (0 : Int))))), .val (.int (Own.bo (¬ ((i0 &&& (32 : Int32)).toInt = (0 : Int))))), .val (.double d87), .second, .val (.double d96), .second, .val (.null), .unset, .unset, .unset, .unset, .unset]) rfl ?_
    refine Own.newO_ X at_118 (Own.wd hw 0 rfl) (Own.wd hw 1 rfl) (Own.wd hw 2 rfl) (by decide) (by decide) fun T7 h7 o118 g_o118 X7 E7 A7 D7 => ?_
    have fr8 : n0 ≤ o118 := Nat.le_trans Z0 (Nat.le_of_eq g_o118.symm)
    have Z9 : n0 ≤ h7.size := Nat.le_trans Z0 E7.1
    have F10 : Fld Z h7 o118 "com/example/pliant/pliant/ml/VectorShare$Plan" "pass" "I" (.int (0 : Int32)) := D7 (Or.inr (Own.wd hw 15 rfl)) (ty := .int) (by decide)
    have F11 : Fld Z h7 o118 "com/example/pliant/pliant/ml/VectorShare$Plan" "paired" "Z" (.int (0 : Int32)) := D7 (Or.inr (Own.wd hw 17 rfl)) (ty := .boolean) (by decide)
    have F12 : Fld Z h7 o118 "com/example/pliant/pliant/ml/VectorShare$Plan" "slot" "I" (.int (0 : Int32)) := D7 (Or.inr (Own.wd hw 19 rfl)) (ty := .int) (by decide)
    have F13 : Fld Z h7 o118 "com/example/pliant/pliant/ml/VectorShare$Plan" "step" "D" (.double 0) := D7 (Or.inr (Own.wd hw 21 rfl)) (ty := .double) (by decide)
    have F14 : Fld Z h7 o118 "com/example/pliant/pliant/ml/VectorShare$Plan" "fromPass" "Z" (.int (0 : Int32)) := D7 (Or.inr (Own.wd hw 23 rfl)) (ty := .boolean) (by decide)
    have F15 : Fld Z h7 o118 "com/example/pliant/pliant/ml/VectorShare$Plan" "direction" "[D" (.null) := D7 (Or.inr (Own.wd hw 25 rfl)) (ty := (.array .double)) (by decide)
    have F16 : Fld Z h7 o118 "com/example/pliant/pliant/ml/VectorShare$Plan" "move" "Z" (.int (0 : Int32)) := D7 (Or.inr (Own.wd hw 27 rfl)) (ty := .boolean) (by decide)
    have F17 : Fld Z h7 o118 "com/example/pliant/pliant/ml/VectorShare$Plan" "ahead" "D" (.double 0) := D7 (Or.inr (Own.wd hw 29 rfl)) (ty := .double) (by decide)
    have F18 : Fld Z h7 o118 "com/example/pliant/pliant/ml/VectorShare$Plan" "nextSlot" "I" (.int (0 : Int32)) := D7 (Or.inr (Own.wd hw 31 rfl)) (ty := .int) (by decide)
    have F19 : Fld Z h7 o118 "com/example/pliant/pliant/ml/VectorShare$Plan" "scale" "Z" (.int (0 : Int32)) := D7 (Or.inr (Own.wd hw 33 rfl)) (ty := .boolean) (by decide)
    have F20 : Fld Z h7 o118 "com/example/pliant/pliant/ml/VectorShare$Plan" "scaled" "Z" (.int (0 : Int32)) := D7 (Or.inr (Own.wd hw 35 rfl)) (ty := .boolean) (by decide)
    refine Own.dup X7 at_121 rfl ?_
    refine Own.iloadN X7 at_122 rfl ?_
    refine Own.iload X7 at_123 rfl ?_
    refine Own.iloadN X7 at_125 rfl ?_
    refine Own.dload X7 at_126 rfl ?_
    refine Own.iload X7 at_128 rfl ?_
    refine Own.aload X7 at_130 rfl rfl ?_
    refine Own.iload X7 at_132 rfl ?_
    refine Own.dload X7 at_134 rfl ?_
    refine Own.iloadN X7 at_136 rfl ?_
    refine Own.iload X7 at_137 rfl ?_
    refine Own.iload X7 at_139 rfl ?_
    refine Own.callI_ (y := mn_2) (a := o118) X7 at_141 rfl (Own.wd hw 3 rfl) (Own.wd hw 4 rfl) (Own.wd hw 2 rfl) (Own.wd hw 5 rfl) (by decide) (rm1n l Z a0 hw o118 i1 (Own.bo (¬ ((i0 &&& (1 : Int32)).toInt = (0 : Int)))) i2 d87 (Own.bo (¬ ((i0 &&& (2 : Int32)).toInt = (0 : Int)))) (Own.bo (¬ ((i0 &&& (8 : Int32)).toInt = (0 : Int)))) d96 i3 (Own.bo (¬ ((i0 &&& (16 : Int32)).toInt = (0 : Int)))) (Own.bo (¬ ((i0 &&& (32 : Int32)).toInt = (0 : Int)))) h7 n0 Z9 fr8 A7 F10 F11 F12 F13 F14 F15 F16 F17 F18 F19 F20 (Own.bo_and _) (Own.bo_and _) (Own.bo_and _) (Own.bo_and _) (Own.bo_and _)) (lenOf pd_4 rfl) rfl (argsL := [.int i1, .int (Own.bo (¬ ((i0 &&& (1 : Int32)).toInt = (0 : Int)))), .int i2, .double d87, .int (Own.bo (¬ ((i0 &&& (2 : Int32)).toInt = (0 : Int)))), .null, .int (Own.bo (¬ ((i0 &&& (8 : Int32)).toInt = (0 : Int)))), .double d96, .int i3, .int (Own.bo (¬ ((i0 &&& (16 : Int32)).toInt = (0 : Int)))), .int (Own.bo (¬ ((i0 &&& (32 : Int32)).toInt = (0 : Int))))]) (rest := [.ref o118]) rfl (W := 1) (Nat.le_of_eq rfl) (by decide) (by decide) (by decide) (by decide) fun T21 h21 v21 X21 q21 => ?_
    obtain ⟨rfl, K21, G21_0, G21_1, G21_2, G21_3, G21_4, G21_5, G21_6, G21_7, G21_8, G21_9, G21_10⟩ := q21
    have F22 := A7.keep K21
    have Z23 : n0 ≤ h21.size := Nat.le_trans Z9 K21.1
    show Own.Go p e below s n0 _ _ _ (T21.setTop (mkF m 144 _ [.ref o118]))
    refine Own.astore X21 at_144 rfl (l' := #[.val (.int i0), .val (.int i1), .val (.int i2), .val (.int i3), .val (.int i4), .val (.int i5), .val (.int (Own.bo (¬ ((i0 &&& (1 : Int32)).toInt = (0 : Int))))), .val (.int (Own.bo (¬ ((i0 &&& (2 : Int32)).toInt = (0 : Int))))), .val (.int (Own.bo (¬ ((i0 &&& (4 : Int32)).toInt = (0 : Int))))), .val (.int (Own.bo (¬ ((i0 &&& (8 : Int32)).toInt = (0 : Int))))), .val (.int (Own.bo (¬ ((i0 &&& (16 : Int32)).toInt = (0 : Int))))), .val (.int (Own.bo (¬ ((i0 &&& (32 : Int32)).toInt = (0 : Int))))), .val (.double d87), .second, .val (.double d96), .second, .val (.null), .val (.ref o118), .unset, .unset, .unset, .unset]) rfl ?_
    refine Own.iloadN X21 at_146 rfl ?_
    refine Own.bipush X21 (v := 31) at_147 rfl ?_
    refine Own.iand X21 at_149 ?_
    suffices J150_24 : ∀ (z158_24 : Int32), z158_24 = Own.bo ((i0 &&& (31 : Int32)).toInt = (0 : Int)) → Own.Go p e below s n0 (fun v _ => v = some (.int 1)) 16 192 (T21.setTop (mkF m 158 #[.val (.int i0), .val (.int i1), .val (.int i2), .val (.int i3), .val (.int i4), .val (.int i5), .val (.int (Own.bo (¬ ((i0 &&& (1 : Int32)).toInt = (0 : Int))))), .val (.int (Own.bo (¬ ((i0 &&& (2 : Int32)).toInt = (0 : Int))))), .val (.int (Own.bo (¬ ((i0 &&& (4 : Int32)).toInt = (0 : Int))))), .val (.int (Own.bo (¬ ((i0 &&& (8 : Int32)).toInt = (0 : Int))))), .val (.int (Own.bo (¬ ((i0 &&& (16 : Int32)).toInt = (0 : Int))))), .val (.int (Own.bo (¬ ((i0 &&& (32 : Int32)).toInt = (0 : Int))))), .val (.double d87), .second, .val (.double d96), .second, .val (.null), .val (.ref o118), .unset, .unset, .unset, .unset] [.int z158_24])) by
      refine Own.iff_ X21 (pc' := 157) at_150 (by decide) (fun (h150 : ¬ ((i0 &&& (31 : Int32)).toInt = (0 : Int))) => ?_) (fun h150' => ?_)
      · refine Own.iconst X21 (v := 0) at_157 rfl ?_
        exact J150_24 _ (Own.bo_f (h150))
      · have h150 : (i0 &&& (31 : Int32)).toInt = (0 : Int) := Classical.not_not.mp h150'
        refine Own.iconst X21 (v := 1) at_153 rfl ?_
        refine Own.goto_ X21 (pc' := 158) at_154 (by decide) ?_
        exact J150_24 _ (Own.bo_t (h150))
    intro z158_24 e_z158_24
    subst e_z158_24
    refine Own.istore X21 at_158 (l' := #[.val (.int i0), .val (.int i1), .val (.int i2), .val (.int i3), .val (.int i4), .val (.int i5), .val (.int (Own.bo (¬ ((i0 &&& (1 : Int32)).toInt = (0 : Int))))), .val (.int (Own.bo (¬ ((i0 &&& (2 : Int32)).toInt = (0 : Int))))), .val (.int (Own.bo (¬ ((i0 &&& (4 : Int32)).toInt = (0 : Int))))), .val (.int (Own.bo (¬ ((i0 &&& (8 : Int32)).toInt = (0 : Int))))), .val (.int (Own.bo (¬ ((i0 &&& (16 : Int32)).toInt = (0 : Int))))), .val (.int (Own.bo (¬ ((i0 &&& (32 : Int32)).toInt = (0 : Int))))), .val (.double d87), .second, .val (.double d96), .second, .val (.null), .val (.ref o118), .val (.int (Own.bo ((i0 &&& (31 : Int32)).toInt = (0 : Int)))), .unset, .unset, .unset]) rfl ?_
    refine Own.aload X21 at_160 rfl rfl ?_
    refine Own.callV_ (y := mn_3) (z := mn_3) (a := o118) X21 at_162 (Own.wd hw 36 rfl) (Own.wd hw 37 rfl) (Own.wd hw 39 rfl) (Own.wd hw 38 rfl) rfl (Own.wd hw 2 rfl) (Own.wd hw 40 rfl) (by decide) F22 (rm4n l Z a0 hw o118 (Own.bo (¬ ((i0 &&& (1 : Int32)).toInt = (0 : Int)))) (Own.bo (¬ ((i0 &&& (2 : Int32)).toInt = (0 : Int)))) (Own.bo (¬ ((i0 &&& (8 : Int32)).toInt = (0 : Int)))) (Own.bo (¬ ((i0 &&& (16 : Int32)).toInt = (0 : Int)))) h21 n0 Z23 G21_1 G21_4 G21_5 G21_6 G21_9) (lenOf pd_7 rfl) rfl (argsL := []) (rest := []) rfl (W := 0) (Nat.le_of_eq rfl) (by decide) (by decide) (by decide) (by decide) fun T25 h25 v25 X25 q25 => ?_
    obtain ⟨rfl, rfl⟩ := q25
    show Own.Go p e below s n0 _ _ _ (T25.setTop (mkF m 165 _ [.int (Own.bo ((Own.bo (¬ ((i0 &&& (1 : Int32)).toInt = (0 : Int)))).toInt = 0 ∧ (Own.bo (¬ ((i0 &&& (2 : Int32)).toInt = (0 : Int)))).toInt = 0 ∧ (Own.bo (¬ ((i0 &&& (8 : Int32)).toInt = (0 : Int)))).toInt = 0 ∧ (Own.bo (¬ ((i0 &&& (16 : Int32)).toInt = (0 : Int)))).toInt = 0))]))
    refine Own.iload X25 at_165 rfl ?_
    suffices J167_26 : ∀ (z175_26 : Int32), z175_26 = Own.bo (((Own.bo (¬ ((i0 &&& (1 : Int32)).toInt = (0 : Int)))).toInt = 0 ∧ (Own.bo (¬ ((i0 &&& (2 : Int32)).toInt = (0 : Int)))).toInt = 0 ∧ (Own.bo (¬ ((i0 &&& (8 : Int32)).toInt = (0 : Int)))).toInt = 0 ∧ (Own.bo (¬ ((i0 &&& (16 : Int32)).toInt = (0 : Int)))).toInt = 0) ↔ ((i0 &&& (31 : Int32)).toInt = (0 : Int))) → Own.Go p e below s n0 (fun v _ => v = some (.int 1)) 16 192 (T25.setTop (mkF m 175 #[.val (.int i0), .val (.int i1), .val (.int i2), .val (.int i3), .val (.int i4), .val (.int i5), .val (.int (Own.bo (¬ ((i0 &&& (1 : Int32)).toInt = (0 : Int))))), .val (.int (Own.bo (¬ ((i0 &&& (2 : Int32)).toInt = (0 : Int))))), .val (.int (Own.bo (¬ ((i0 &&& (4 : Int32)).toInt = (0 : Int))))), .val (.int (Own.bo (¬ ((i0 &&& (8 : Int32)).toInt = (0 : Int))))), .val (.int (Own.bo (¬ ((i0 &&& (16 : Int32)).toInt = (0 : Int))))), .val (.int (Own.bo (¬ ((i0 &&& (32 : Int32)).toInt = (0 : Int))))), .val (.double d87), .second, .val (.double d96), .second, .val (.null), .val (.ref o118), .val (.int (Own.bo ((i0 &&& (31 : Int32)).toInt = (0 : Int)))), .unset, .unset, .unset] [.int z175_26])) by
      refine Own.icmpneB (P := (Own.bo (¬ ((i0 &&& (1 : Int32)).toInt = (0 : Int)))).toInt = 0 ∧ (Own.bo (¬ ((i0 &&& (2 : Int32)).toInt = (0 : Int)))).toInt = 0 ∧ (Own.bo (¬ ((i0 &&& (8 : Int32)).toInt = (0 : Int)))).toInt = 0 ∧ (Own.bo (¬ ((i0 &&& (16 : Int32)).toInt = (0 : Int)))).toInt = 0) (P' := (i0 &&& (31 : Int32)).toInt = (0 : Int)) X25 (pc' := 174) at_167 (by decide) (fun (h167 : ¬ (((Own.bo (¬ ((i0 &&& (1 : Int32)).toInt = (0 : Int)))).toInt = 0 ∧ (Own.bo (¬ ((i0 &&& (2 : Int32)).toInt = (0 : Int)))).toInt = 0 ∧ (Own.bo (¬ ((i0 &&& (8 : Int32)).toInt = (0 : Int)))).toInt = 0 ∧ (Own.bo (¬ ((i0 &&& (16 : Int32)).toInt = (0 : Int)))).toInt = 0) ↔ ((i0 &&& (31 : Int32)).toInt = (0 : Int)))) => ?_) (fun (h167 : ((Own.bo (¬ ((i0 &&& (1 : Int32)).toInt = (0 : Int)))).toInt = 0 ∧ (Own.bo (¬ ((i0 &&& (2 : Int32)).toInt = (0 : Int)))).toInt = 0 ∧ (Own.bo (¬ ((i0 &&& (8 : Int32)).toInt = (0 : Int)))).toInt = 0 ∧ (Own.bo (¬ ((i0 &&& (16 : Int32)).toInt = (0 : Int)))).toInt = 0) ↔ ((i0 &&& (31 : Int32)).toInt = (0 : Int))) => ?_)
      · refine Own.iconst X25 (v := 0) at_174 rfl ?_
        exact J167_26 _ (Own.bo_f (h167))
      · refine Own.iconst X25 (v := 1) at_170 rfl ?_
        refine Own.goto_ X25 (pc' := 175) at_171 (by decide) ?_
        exact J167_26 _ (Own.bo_t (h167))
    intro z175_26 e_z175_26
    subst e_z175_26
    refine Own.istore X25 at_175 (l' := #[.val (.int i0), .val (.int i1), .val (.int i2), .val (.int i3), .val (.int i4), .val (.int i5), .val (.int (Own.bo (¬ ((i0 &&& (1 : Int32)).toInt = (0 : Int))))), .val (.int (Own.bo (¬ ((i0 &&& (2 : Int32)).toInt = (0 : Int))))), .val (.int (Own.bo (¬ ((i0 &&& (4 : Int32)).toInt = (0 : Int))))), .val (.int (Own.bo (¬ ((i0 &&& (8 : Int32)).toInt = (0 : Int))))), .val (.int (Own.bo (¬ ((i0 &&& (16 : Int32)).toInt = (0 : Int))))), .val (.int (Own.bo (¬ ((i0 &&& (32 : Int32)).toInt = (0 : Int))))), .val (.double d87), .second, .val (.double d96), .second, .val (.null), .val (.ref o118), .val (.int (Own.bo ((i0 &&& (31 : Int32)).toInt = (0 : Int)))), .val (.int (Own.bo (((Own.bo (¬ ((i0 &&& (1 : Int32)).toInt = (0 : Int)))).toInt = 0 ∧ (Own.bo (¬ ((i0 &&& (2 : Int32)).toInt = (0 : Int)))).toInt = 0 ∧ (Own.bo (¬ ((i0 &&& (8 : Int32)).toInt = (0 : Int)))).toInt = 0 ∧ (Own.bo (¬ ((i0 &&& (16 : Int32)).toInt = (0 : Int)))).toInt = 0) ↔ ((i0 &&& (31 : Int32)).toInt = (0 : Int))))), .unset, .unset]) rfl ?_
    refine Own.iloadN X25 at_177 rfl ?_
    refine Own.dload X25 at_178 rfl ?_
    refine Own.iloadN X25 at_180 rfl ?_
    refine Own.iload X25 at_181 rfl ?_
    refine Own.callS_ (y := mn_5) X25 at_183 (Own.wd hw 41 rfl) (Own.wd hw 42 rfl) (Own.wd hw 2 rfl) (Own.wd hw 43 rfl) (by decide) (rm5 l Z a0 hw i1 d87 i2 (Own.bo (¬ ((i0 &&& (32 : Int32)).toInt = (0 : Int)))) h21 n0 Z23 (Own.bo_and _)) (lenOf pd_8 rfl) rfl (argsL := [.int i1, .double d87, .int i2, .int (Own.bo (¬ ((i0 &&& (32 : Int32)).toInt = (0 : Int))))]) (rest := []) rfl (W := 0) (Nat.le_of_eq rfl) (by decide) (by decide) (by decide) (by decide) fun T27 h27 v27 X27 q27 => ?_
    obtain ⟨o183, rfl, B27, K27, A27, G27_0, G27_1, G27_2, G27_3, G27_4, G27_5, G27_6, G27_7, G27_8, G27_9, G27_10⟩ := q27
    have F28 := F22.keep K27
    have F29 := G21_0.keep K27 nin0
    have F30 := G21_1.keep K27 nin0
    have F31 := G21_2.keep K27 nin0
    have F32 := G21_3.keep K27 nin0
    have F33 := G21_4.keep K27 nin0
    have F34 := G21_5.keep K27 nin0
    have F35 := G21_6.keep K27 nin0
    have F36 := G21_7.keep K27 nin0
    have F37 := G21_8.keep K27 nin0
    have F38 := G21_9.keep K27 nin0
    have F39 := G21_10.keep K27 nin0
    have Z40 : n0 ≤ h27.size := Nat.le_trans Z23 K27.1
    have ne41 : o118 ≠ o183 := Nat.ne_of_lt (Nat.lt_of_lt_of_le F22.lt B27)
    have fr42 : n0 ≤ o183 := Nat.le_trans Z23 B27
    show Own.Go p e below s n0 _ _ _ (T27.setTop (mkF m 186 _ [.ref o183]))
    refine Own.callV_ (y := mn_3) (z := mn_3) (a := o183) X27 at_186 (Own.wd hw 36 rfl) (Own.wd hw 37 rfl) (Own.wd hw 39 rfl) (Own.wd hw 38 rfl) rfl (Own.wd hw 2 rfl) (Own.wd hw 40 rfl) (by decide) A27 (rm4n l Z a0 hw o183 (0 : Int32) (0 : Int32) (0 : Int32) (0 : Int32) h27 n0 Z40 G27_1 G27_4 G27_5 G27_6 G27_9) (lenOf pd_7 rfl) rfl (argsL := []) (rest := []) rfl (W := 0) (Nat.le_of_eq rfl) (by decide) (by decide) (by decide) (by decide) fun T43 h43 v43 X43 q43 => ?_
    obtain ⟨rfl, rfl⟩ := q43
    show Own.Go p e below s n0 _ _ _ (T43.setTop (mkF m 189 _ [.int (Own.bo ((0 : Int) = 0 ∧ (0 : Int) = 0 ∧ (0 : Int) = 0 ∧ (0 : Int) = 0))]))
    refine Own.istore X43 at_189 (l' := #[.val (.int i0), .val (.int i1), .val (.int i2), .val (.int i3), .val (.int i4), .val (.int i5), .val (.int (Own.bo (¬ ((i0 &&& (1 : Int32)).toInt = (0 : Int))))), .val (.int (Own.bo (¬ ((i0 &&& (2 : Int32)).toInt = (0 : Int))))), .val (.int (Own.bo (¬ ((i0 &&& (4 : Int32)).toInt = (0 : Int))))), .val (.int (Own.bo (¬ ((i0 &&& (8 : Int32)).toInt = (0 : Int))))), .val (.int (Own.bo (¬ ((i0 &&& (16 : Int32)).toInt = (0 : Int))))), .val (.int (Own.bo (¬ ((i0 &&& (32 : Int32)).toInt = (0 : Int))))), .val (.double d87), .second, .val (.double d96), .second, .val (.null), .val (.ref o118), .val (.int (Own.bo ((i0 &&& (31 : Int32)).toInt = (0 : Int)))), .val (.int (Own.bo (((Own.bo (¬ ((i0 &&& (1 : Int32)).toInt = (0 : Int)))).toInt = 0 ∧ (Own.bo (¬ ((i0 &&& (2 : Int32)).toInt = (0 : Int)))).toInt = 0 ∧ (Own.bo (¬ ((i0 &&& (8 : Int32)).toInt = (0 : Int)))).toInt = 0 ∧ (Own.bo (¬ ((i0 &&& (16 : Int32)).toInt = (0 : Int)))).toInt = 0) ↔ ((i0 &&& (31 : Int32)).toInt = (0 : Int))))), .val (.int (Own.bo ((0 : Int) = 0 ∧ (0 : Int) = 0 ∧ (0 : Int) = 0 ∧ (0 : Int) = 0))), .unset]) rfl ?_
    refine Own.iloadN X43 at_191 rfl ?_
    refine Own.dload X43 at_192 rfl ?_
    refine Own.iloadN X43 at_194 rfl ?_
    refine Own.callS_ (y := mn_6) X43 at_195 (Own.wd hw 46 rfl) (Own.wd hw 47 rfl) (Own.wd hw 2 rfl) (Own.wd hw 48 rfl) (by decide) (rm6 l Z a0 hw i1 d87 i2 h27 n0 Z40 ) (lenOf pd_9 rfl) rfl (argsL := [.int i1, .double d87, .int i2]) (rest := []) rfl (W := 0) (Nat.le_of_eq rfl) (by decide) (by decide) (by decide) (by decide) fun T44 h44 v44 X44 q44 => ?_
    obtain ⟨o195, rfl, B44, K44, A44, G44_0, G44_1, G44_2, G44_3, G44_4, G44_5, G44_6, G44_7, G44_8, G44_9, G44_10⟩ := q44
    have F45 := F28.keep K44
    have F46 := F29.keep K44 nin0
    have F47 := F30.keep K44 nin0
    have F48 := F31.keep K44 nin0
    have F49 := F32.keep K44 nin0
    have F50 := F33.keep K44 nin0
    have F51 := F34.keep K44 nin0
    have F52 := F35.keep K44 nin0
    have F53 := F36.keep K44 nin0
    have F54 := F37.keep K44 nin0
    have F55 := F38.keep K44 nin0
    have F56 := F39.keep K44 nin0
    have F57 := A27.keep K44
    have F58 := G27_0.keep K44 nin0
    have F59 := G27_1.keep K44 nin0
    have F60 := G27_2.keep K44 nin0
    have F61 := G27_3.keep K44 nin0
    have F62 := G27_4.keep K44 nin0
    have F63 := G27_5.keep K44 nin0
    have F64 := G27_6.keep K44 nin0
    have F65 := G27_7.keep K44 nin0
    have F66 := G27_8.keep K44 nin0
    have F67 := G27_9.keep K44 nin0
    have F68 := G27_10.keep K44 nin0
    have Z69 : n0 ≤ h44.size := Nat.le_trans Z40 K44.1
    have ne70 : o118 ≠ o195 := Nat.ne_of_lt (Nat.lt_of_lt_of_le F28.lt B44)
    have ne71 : o183 ≠ o195 := Nat.ne_of_lt (Nat.lt_of_lt_of_le A27.lt B44)
    have fr72 : n0 ≤ o195 := Nat.le_trans Z40 B44
    show Own.Go p e below s n0 _ _ _ (T44.setTop (mkF m 198 _ [.ref o195]))
    refine Own.callV_ (y := mn_3) (z := mn_3) (a := o195) X44 at_198 (Own.wd hw 36 rfl) (Own.wd hw 37 rfl) (Own.wd hw 39 rfl) (Own.wd hw 38 rfl) rfl (Own.wd hw 2 rfl) (Own.wd hw 40 rfl) (by decide) A44 (rm4n l Z a0 hw o195 (0 : Int32) (0 : Int32) (0 : Int32) (1 : Int32) h44 n0 Z69 G44_1 G44_4 G44_5 G44_6 G44_9) (lenOf pd_7 rfl) rfl (argsL := []) (rest := []) rfl (W := 0) (Nat.le_of_eq rfl) (by decide) (by decide) (by decide) (by decide) fun T73 h73 v73 X73 q73 => ?_
    obtain ⟨rfl, rfl⟩ := q73
    show Own.Go p e below s n0 _ _ _ (T73.setTop (mkF m 201 _ [.int (Own.bo ((0 : Int) = 0 ∧ (0 : Int) = 0 ∧ (0 : Int) = 0 ∧ (1 : Int) = 0))]))
    suffices J201_74 : ∀ (z209_74 : Int32), z209_74 = Own.bo (¬ ((0 : Int) = 0 ∧ (0 : Int) = 0 ∧ (0 : Int) = 0 ∧ (1 : Int) = 0)) → Own.Go p e below s n0 (fun v _ => v = some (.int 1)) 16 192 (T73.setTop (mkF m 209 #[.val (.int i0), .val (.int i1), .val (.int i2), .val (.int i3), .val (.int i4), .val (.int i5), .val (.int (Own.bo (¬ ((i0 &&& (1 : Int32)).toInt = (0 : Int))))), .val (.int (Own.bo (¬ ((i0 &&& (2 : Int32)).toInt = (0 : Int))))), .val (.int (Own.bo (¬ ((i0 &&& (4 : Int32)).toInt = (0 : Int))))), .val (.int (Own.bo (¬ ((i0 &&& (8 : Int32)).toInt = (0 : Int))))), .val (.int (Own.bo (¬ ((i0 &&& (16 : Int32)).toInt = (0 : Int))))), .val (.int (Own.bo (¬ ((i0 &&& (32 : Int32)).toInt = (0 : Int))))), .val (.double d87), .second, .val (.double d96), .second, .val (.null), .val (.ref o118), .val (.int (Own.bo ((i0 &&& (31 : Int32)).toInt = (0 : Int)))), .val (.int (Own.bo (((Own.bo (¬ ((i0 &&& (1 : Int32)).toInt = (0 : Int)))).toInt = 0 ∧ (Own.bo (¬ ((i0 &&& (2 : Int32)).toInt = (0 : Int)))).toInt = 0 ∧ (Own.bo (¬ ((i0 &&& (8 : Int32)).toInt = (0 : Int)))).toInt = 0 ∧ (Own.bo (¬ ((i0 &&& (16 : Int32)).toInt = (0 : Int)))).toInt = 0) ↔ ((i0 &&& (31 : Int32)).toInt = (0 : Int))))), .val (.int (Own.bo ((0 : Int) = 0 ∧ (0 : Int) = 0 ∧ (0 : Int) = 0 ∧ (0 : Int) = 0))), .unset] [.int z209_74])) by
      refine Own.ifneB X73 (pc' := 208) at_201 (by decide) (fun (h201 : (0 : Int) = 0 ∧ (0 : Int) = 0 ∧ (0 : Int) = 0 ∧ (1 : Int) = 0) => ?_) (fun (h201 : ¬ ((0 : Int) = 0 ∧ (0 : Int) = 0 ∧ (0 : Int) = 0 ∧ (1 : Int) = 0)) => ?_)
      · refine Own.iconst X73 (v := 0) at_208 rfl ?_
        exact J201_74 _ (Own.bo_f (fun q => q h201))
      · refine Own.iconst X73 (v := 1) at_204 rfl ?_
        refine Own.goto_ X73 (pc' := 209) at_205 (by decide) ?_
        exact J201_74 _ (Own.bo_t (h201))
    intro z209_74 e_z209_74
    subst e_z209_74
    refine Own.istore X73 at_209 (l' := #[.val (.int i0), .val (.int i1), .val (.int i2), .val (.int i3), .val (.int i4), .val (.int i5), .val (.int (Own.bo (¬ ((i0 &&& (1 : Int32)).toInt = (0 : Int))))), .val (.int (Own.bo (¬ ((i0 &&& (2 : Int32)).toInt = (0 : Int))))), .val (.int (Own.bo (¬ ((i0 &&& (4 : Int32)).toInt = (0 : Int))))), .val (.int (Own.bo (¬ ((i0 &&& (8 : Int32)).toInt = (0 : Int))))), .val (.int (Own.bo (¬ ((i0 &&& (16 : Int32)).toInt = (0 : Int))))), .val (.int (Own.bo (¬ ((i0 &&& (32 : Int32)).toInt = (0 : Int))))), .val (.double d87), .second, .val (.double d96), .second, .val (.null), .val (.ref o118), .val (.int (Own.bo ((i0 &&& (31 : Int32)).toInt = (0 : Int)))), .val (.int (Own.bo (((Own.bo (¬ ((i0 &&& (1 : Int32)).toInt = (0 : Int)))).toInt = 0 ∧ (Own.bo (¬ ((i0 &&& (2 : Int32)).toInt = (0 : Int)))).toInt = 0 ∧ (Own.bo (¬ ((i0 &&& (8 : Int32)).toInt = (0 : Int)))).toInt = 0 ∧ (Own.bo (¬ ((i0 &&& (16 : Int32)).toInt = (0 : Int)))).toInt = 0) ↔ ((i0 &&& (31 : Int32)).toInt = (0 : Int))))), .val (.int (Own.bo ((0 : Int) = 0 ∧ (0 : Int) = 0 ∧ (0 : Int) = 0 ∧ (0 : Int) = 0))), .val (.int (Own.bo (¬ ((0 : Int) = 0 ∧ (0 : Int) = 0 ∧ (0 : Int) = 0 ∧ (1 : Int) = 0))))]) rfl ?_
    refine Own.iload X73 at_211 rfl ?_
    suffices J213_75 : ∀ (z231_75 : Int32), z231_75 = Own.bo ((((Own.bo (¬ ((i0 &&& (1 : Int32)).toInt = (0 : Int)))).toInt = 0 ∧ (Own.bo (¬ ((i0 &&& (2 : Int32)).toInt = (0 : Int)))).toInt = 0 ∧ (Own.bo (¬ ((i0 &&& (8 : Int32)).toInt = (0 : Int)))).toInt = 0 ∧ (Own.bo (¬ ((i0 &&& (16 : Int32)).toInt = (0 : Int)))).toInt = 0) ↔ ((i0 &&& (31 : Int32)).toInt = (0 : Int))) ∧ (((0 : Int) = 0 ∧ (0 : Int) = 0 ∧ (0 : Int) = 0 ∧ (0 : Int) = 0) ∧ (¬ ((0 : Int) = 0 ∧ (0 : Int) = 0 ∧ (0 : Int) = 0 ∧ (1 : Int) = 0)))) → Own.Go p e below s n0 (fun v _ => v = some (.int 1)) 16 192 (T73.setTop (mkF m 231 #[.val (.int i0), .val (.int i1), .val (.int i2), .val (.int i3), .val (.int i4), .val (.int i5), .val (.int (Own.bo (¬ ((i0 &&& (1 : Int32)).toInt = (0 : Int))))), .val (.int (Own.bo (¬ ((i0 &&& (2 : Int32)).toInt = (0 : Int))))), .val (.int (Own.bo (¬ ((i0 &&& (4 : Int32)).toInt = (0 : Int))))), .val (.int (Own.bo (¬ ((i0 &&& (8 : Int32)).toInt = (0 : Int))))), .val (.int (Own.bo (¬ ((i0 &&& (16 : Int32)).toInt = (0 : Int))))), .val (.int (Own.bo (¬ ((i0 &&& (32 : Int32)).toInt = (0 : Int))))), .val (.double d87), .second, .val (.double d96), .second, .val (.null), .val (.ref o118), .val (.int (Own.bo ((i0 &&& (31 : Int32)).toInt = (0 : Int)))), .val (.int (Own.bo (((Own.bo (¬ ((i0 &&& (1 : Int32)).toInt = (0 : Int)))).toInt = 0 ∧ (Own.bo (¬ ((i0 &&& (2 : Int32)).toInt = (0 : Int)))).toInt = 0 ∧ (Own.bo (¬ ((i0 &&& (8 : Int32)).toInt = (0 : Int)))).toInt = 0 ∧ (Own.bo (¬ ((i0 &&& (16 : Int32)).toInt = (0 : Int)))).toInt = 0) ↔ ((i0 &&& (31 : Int32)).toInt = (0 : Int))))), .val (.int (Own.bo ((0 : Int) = 0 ∧ (0 : Int) = 0 ∧ (0 : Int) = 0 ∧ (0 : Int) = 0))), .val (.int (Own.bo (¬ ((0 : Int) = 0 ∧ (0 : Int) = 0 ∧ (0 : Int) = 0 ∧ (1 : Int) = 0))))] [.int z231_75])) by
      refine Own.ifeqB X73 (pc' := 230) at_213 (by decide) (fun (h213 : ¬ (((Own.bo (¬ ((i0 &&& (1 : Int32)).toInt = (0 : Int)))).toInt = 0 ∧ (Own.bo (¬ ((i0 &&& (2 : Int32)).toInt = (0 : Int)))).toInt = 0 ∧ (Own.bo (¬ ((i0 &&& (8 : Int32)).toInt = (0 : Int)))).toInt = 0 ∧ (Own.bo (¬ ((i0 &&& (16 : Int32)).toInt = (0 : Int)))).toInt = 0) ↔ ((i0 &&& (31 : Int32)).toInt = (0 : Int)))) => ?_) (fun (h213 : ((Own.bo (¬ ((i0 &&& (1 : Int32)).toInt = (0 : Int)))).toInt = 0 ∧ (Own.bo (¬ ((i0 &&& (2 : Int32)).toInt = (0 : Int)))).toInt = 0 ∧ (Own.bo (¬ ((i0 &&& (8 : Int32)).toInt = (0 : Int)))).toInt = 0 ∧ (Own.bo (¬ ((i0 &&& (16 : Int32)).toInt = (0 : Int)))).toInt = 0) ↔ ((i0 &&& (31 : Int32)).toInt = (0 : Int))) => ?_)
      · refine Own.iconst X73 (v := 0) at_230 rfl ?_
        exact J213_75 _ (Own.bo_f (fun q => h213 q.1))
      · refine Own.iload X73 at_216 rfl ?_
        refine Own.ifeqB X73 (pc' := 230) at_218 (by decide) (fun (h218 : ¬ ((0 : Int) = 0 ∧ (0 : Int) = 0 ∧ (0 : Int) = 0 ∧ (0 : Int) = 0)) => ?_) (fun (h218 : (0 : Int) = 0 ∧ (0 : Int) = 0 ∧ (0 : Int) = 0 ∧ (0 : Int) = 0) => ?_)
        · refine Own.iconst X73 (v := 0) at_230 rfl ?_
          exact J213_75 _ (Own.bo_f (fun q => (fun q => h218 q.1) q.2))
        · refine Own.iload X73 at_221 rfl ?_
          refine Own.ifeqB X73 (pc' := 230) at_223 (by decide) (fun (h223 : ¬ (¬ ((0 : Int) = 0 ∧ (0 : Int) = 0 ∧ (0 : Int) = 0 ∧ (1 : Int) = 0))) => ?_) (fun (h223 : ¬ ((0 : Int) = 0 ∧ (0 : Int) = 0 ∧ (0 : Int) = 0 ∧ (1 : Int) = 0)) => ?_)
          · refine Own.iconst X73 (v := 0) at_230 rfl ?_
            exact J213_75 _ (Own.bo_f (fun q => (fun q => (h223) q.2) q.2))
          · refine Own.iconst X73 (v := 1) at_226 rfl ?_
            refine Own.goto_ X73 (pc' := 231) at_227 (by decide) ?_
            exact J213_75 _ (Own.bo_t (⟨h213, ⟨h218, h223⟩⟩))
    intro z231_75 e_z231_75
    subst e_z231_75
    exact Own.retB X73 at_231 (Own.bo_and _) (congrArg (fun z => some (Value.int z)) (Own.bo_t ⟨by have b_ := own_bits i0; first | (simp only [Own.bo0]; omega) | (simp only [false_iff]; omega) | omega, by decide, by decide⟩).symm) (by decide) (by decide)
  · refine Own.iloadN X at_104 rfl ?_
    refine Own.bipush X (v := 8) at_105 rfl ?_
    refine Own.iushr X at_107 ?_
    refine Own.iconst X (v := 3) at_108 rfl ?_
    refine Own.iand X at_109 ?_
    obtain ⟨cnt, e_cnt⟩ : ∃ v, ((Jvm.Free.XT.ushr i0 (8 : Int32)) &&& (3 : Int32)) = v := ⟨_, rfl⟩
    rw [e_cnt]
    have h_cnt := own_cnt _ cnt e_cnt
    refine Own.newP_ X (cap := 3) (ty := .double) (dv := .double 0) (ad := "[D") at_110 rfl rfl (by decide) (Own.wd hw 49 rfl) h_cnt.1 h_cnt.2 (by decide) (by decide) (by decide) fun T76 h76 a110 k_a110 g_a110 X76 E76 V76 A76 => ?_
    have fr77 : n0 ≤ a110 := Nat.le_trans Z0 (Nat.le_of_eq g_a110.symm)
    have Z78 : n0 ≤ h76.size := Nat.le_trans Z0 E76.1
    have V79 : Arv Z h76 a110 k_a110 .double cnt [.double 0, .double 0, .double 0] (.double 0) := V76.pad (pad_rep [] (.double 0) 3)
    refine Own.goto_ X76 (pc' := 116) at_112 (by decide) ?_
    refine Own.astore X76 at_116 rfl (l' := #[.val (.int i0), .val (.int i1), .val (.int i2), .val (.int i3), .val (.int i4), .val (.int i5), .val (.int (Own.bo (¬ ((i0 &&& (1 : Int32)).toInt = (0 : Int))))), .val (.int (Own.bo (¬ ((i0 &&& (2 : Int32)).toInt = (0 : Int))))), .val (.int (Own.bo (¬ ((i0 &&& (4 : Int32)).toInt = (0 : Int))))), .val (.int (Own.bo (¬ ((i0 &&& (8 : Int32)).toInt = (0 : Int))))), .val (.int (Own.bo (¬ ((i0 &&& (16 : Int32)).toInt = (0 : Int))))), .val (.int (Own.bo (¬ ((i0 &&& (32 : Int32)).toInt = (0 : Int))))), .val (.double d87), .second, .val (.double d96), .second, .val (.ref a110), .unset, .unset, .unset, .unset, .unset]) rfl ?_
    refine Own.newO_ X76 at_118 (Own.wd hw 0 rfl) (Own.wd hw 1 rfl) (Own.wd hw 2 rfl) (by decide) (by decide) fun T80 h80 o118 g_o118 X80 E80 A80 D80 => ?_
    have ne81 : a110 ≠ o118 := Nat.ne_of_lt (Nat.lt_of_lt_of_le A76.lt (Nat.le_of_eq g_o118.symm))
    have fr82 : n0 ≤ o118 := Nat.le_trans Z78 (Nat.le_of_eq g_o118.symm)
    have F83 := A76.ext E80
    have F84 := V79.ext E80
    have Z85 : n0 ≤ h80.size := Nat.le_trans Z78 E80.1
    have F86 : Fld Z h80 o118 "com/example/pliant/pliant/ml/VectorShare$Plan" "pass" "I" (.int (0 : Int32)) := D80 (Or.inr (Own.wd hw 15 rfl)) (ty := .int) (by decide)
    have F87 : Fld Z h80 o118 "com/example/pliant/pliant/ml/VectorShare$Plan" "paired" "Z" (.int (0 : Int32)) := D80 (Or.inr (Own.wd hw 17 rfl)) (ty := .boolean) (by decide)
    have F88 : Fld Z h80 o118 "com/example/pliant/pliant/ml/VectorShare$Plan" "slot" "I" (.int (0 : Int32)) := D80 (Or.inr (Own.wd hw 19 rfl)) (ty := .int) (by decide)
    have F89 : Fld Z h80 o118 "com/example/pliant/pliant/ml/VectorShare$Plan" "step" "D" (.double 0) := D80 (Or.inr (Own.wd hw 21 rfl)) (ty := .double) (by decide)
    have F90 : Fld Z h80 o118 "com/example/pliant/pliant/ml/VectorShare$Plan" "fromPass" "Z" (.int (0 : Int32)) := D80 (Or.inr (Own.wd hw 23 rfl)) (ty := .boolean) (by decide)
    have F91 : Fld Z h80 o118 "com/example/pliant/pliant/ml/VectorShare$Plan" "direction" "[D" (.null) := D80 (Or.inr (Own.wd hw 25 rfl)) (ty := (.array .double)) (by decide)
    have F92 : Fld Z h80 o118 "com/example/pliant/pliant/ml/VectorShare$Plan" "move" "Z" (.int (0 : Int32)) := D80 (Or.inr (Own.wd hw 27 rfl)) (ty := .boolean) (by decide)
    have F93 : Fld Z h80 o118 "com/example/pliant/pliant/ml/VectorShare$Plan" "ahead" "D" (.double 0) := D80 (Or.inr (Own.wd hw 29 rfl)) (ty := .double) (by decide)
    have F94 : Fld Z h80 o118 "com/example/pliant/pliant/ml/VectorShare$Plan" "nextSlot" "I" (.int (0 : Int32)) := D80 (Or.inr (Own.wd hw 31 rfl)) (ty := .int) (by decide)
    have F95 : Fld Z h80 o118 "com/example/pliant/pliant/ml/VectorShare$Plan" "scale" "Z" (.int (0 : Int32)) := D80 (Or.inr (Own.wd hw 33 rfl)) (ty := .boolean) (by decide)
    have F96 : Fld Z h80 o118 "com/example/pliant/pliant/ml/VectorShare$Plan" "scaled" "Z" (.int (0 : Int32)) := D80 (Or.inr (Own.wd hw 35 rfl)) (ty := .boolean) (by decide)
    refine Own.dup X80 at_121 rfl ?_
    refine Own.iloadN X80 at_122 rfl ?_
    refine Own.iload X80 at_123 rfl ?_
    refine Own.iloadN X80 at_125 rfl ?_
    refine Own.dload X80 at_126 rfl ?_
    refine Own.iload X80 at_128 rfl ?_
    refine Own.aload X80 at_130 rfl rfl ?_
    refine Own.iload X80 at_132 rfl ?_
    refine Own.dload X80 at_134 rfl ?_
    refine Own.iloadN X80 at_136 rfl ?_
    refine Own.iload X80 at_137 rfl ?_
    refine Own.iload X80 at_139 rfl ?_
    refine Own.callI_ (y := mn_2) (a := o118) X80 at_141 rfl (Own.wd hw 3 rfl) (Own.wd hw 4 rfl) (Own.wd hw 2 rfl) (Own.wd hw 5 rfl) (by decide) (rm1r l Z a0 hw o118 i1 (Own.bo (¬ ((i0 &&& (1 : Int32)).toInt = (0 : Int)))) i2 d87 (Own.bo (¬ ((i0 &&& (2 : Int32)).toInt = (0 : Int)))) a110 (Own.bo (¬ ((i0 &&& (8 : Int32)).toInt = (0 : Int)))) d96 i3 (Own.bo (¬ ((i0 &&& (16 : Int32)).toInt = (0 : Int)))) (Own.bo (¬ ((i0 &&& (32 : Int32)).toInt = (0 : Int)))) h80 n0 Z85 fr82 A80 F86 F87 F88 F89 F90 F91 F92 F93 F94 F95 F96 (Own.bo_and _) (Own.bo_and _) (Own.bo_and _) (Own.bo_and _) (Own.bo_and _)) (lenOf pd_4 rfl) rfl (argsL := [.int i1, .int (Own.bo (¬ ((i0 &&& (1 : Int32)).toInt = (0 : Int)))), .int i2, .double d87, .int (Own.bo (¬ ((i0 &&& (2 : Int32)).toInt = (0 : Int)))), .ref a110, .int (Own.bo (¬ ((i0 &&& (8 : Int32)).toInt = (0 : Int)))), .double d96, .int i3, .int (Own.bo (¬ ((i0 &&& (16 : Int32)).toInt = (0 : Int)))), .int (Own.bo (¬ ((i0 &&& (32 : Int32)).toInt = (0 : Int))))]) (rest := [.ref o118]) rfl (W := 1) (Nat.le_of_eq rfl) (by decide) (by decide) (by decide) (by decide) fun T97 h97 v97 X97 q97 => ?_
    obtain ⟨rfl, K97, G97_0, G97_1, G97_2, G97_3, G97_4, G97_5, G97_6, G97_7, G97_8, G97_9, G97_10⟩ := q97
    have F98 := F83.keep K97
    have F99 := F84.keep K97 (ninS ne81 nin0)
    have F100 := A80.keep K97
    have Z101 : n0 ≤ h97.size := Nat.le_trans Z85 K97.1
    show Own.Go p e below s n0 _ _ _ (T97.setTop (mkF m 144 _ [.ref o118]))
    refine Own.astore X97 at_144 rfl (l' := #[.val (.int i0), .val (.int i1), .val (.int i2), .val (.int i3), .val (.int i4), .val (.int i5), .val (.int (Own.bo (¬ ((i0 &&& (1 : Int32)).toInt = (0 : Int))))), .val (.int (Own.bo (¬ ((i0 &&& (2 : Int32)).toInt = (0 : Int))))), .val (.int (Own.bo (¬ ((i0 &&& (4 : Int32)).toInt = (0 : Int))))), .val (.int (Own.bo (¬ ((i0 &&& (8 : Int32)).toInt = (0 : Int))))), .val (.int (Own.bo (¬ ((i0 &&& (16 : Int32)).toInt = (0 : Int))))), .val (.int (Own.bo (¬ ((i0 &&& (32 : Int32)).toInt = (0 : Int))))), .val (.double d87), .second, .val (.double d96), .second, .val (.ref a110), .val (.ref o118), .unset, .unset, .unset, .unset]) rfl ?_
    refine Own.iloadN X97 at_146 rfl ?_
    refine Own.bipush X97 (v := 31) at_147 rfl ?_
    refine Own.iand X97 at_149 ?_
    suffices J150_102 : ∀ (z158_102 : Int32), z158_102 = Own.bo ((i0 &&& (31 : Int32)).toInt = (0 : Int)) → Own.Go p e below s n0 (fun v _ => v = some (.int 1)) 16 192 (T97.setTop (mkF m 158 #[.val (.int i0), .val (.int i1), .val (.int i2), .val (.int i3), .val (.int i4), .val (.int i5), .val (.int (Own.bo (¬ ((i0 &&& (1 : Int32)).toInt = (0 : Int))))), .val (.int (Own.bo (¬ ((i0 &&& (2 : Int32)).toInt = (0 : Int))))), .val (.int (Own.bo (¬ ((i0 &&& (4 : Int32)).toInt = (0 : Int))))), .val (.int (Own.bo (¬ ((i0 &&& (8 : Int32)).toInt = (0 : Int))))), .val (.int (Own.bo (¬ ((i0 &&& (16 : Int32)).toInt = (0 : Int))))), .val (.int (Own.bo (¬ ((i0 &&& (32 : Int32)).toInt = (0 : Int))))), .val (.double d87), .second, .val (.double d96), .second, .val (.ref a110), .val (.ref o118), .unset, .unset, .unset, .unset] [.int z158_102])) by
      refine Own.iff_ X97 (pc' := 157) at_150 (by decide) (fun (h150 : ¬ ((i0 &&& (31 : Int32)).toInt = (0 : Int))) => ?_) (fun h150' => ?_)
      · refine Own.iconst X97 (v := 0) at_157 rfl ?_
        exact J150_102 _ (Own.bo_f (h150))
      · have h150 : (i0 &&& (31 : Int32)).toInt = (0 : Int) := Classical.not_not.mp h150'
        refine Own.iconst X97 (v := 1) at_153 rfl ?_
        refine Own.goto_ X97 (pc' := 158) at_154 (by decide) ?_
        exact J150_102 _ (Own.bo_t (h150))
    intro z158_102 e_z158_102
    subst e_z158_102
    refine Own.istore X97 at_158 (l' := #[.val (.int i0), .val (.int i1), .val (.int i2), .val (.int i3), .val (.int i4), .val (.int i5), .val (.int (Own.bo (¬ ((i0 &&& (1 : Int32)).toInt = (0 : Int))))), .val (.int (Own.bo (¬ ((i0 &&& (2 : Int32)).toInt = (0 : Int))))), .val (.int (Own.bo (¬ ((i0 &&& (4 : Int32)).toInt = (0 : Int))))), .val (.int (Own.bo (¬ ((i0 &&& (8 : Int32)).toInt = (0 : Int))))), .val (.int (Own.bo (¬ ((i0 &&& (16 : Int32)).toInt = (0 : Int))))), .val (.int (Own.bo (¬ ((i0 &&& (32 : Int32)).toInt = (0 : Int))))), .val (.double d87), .second, .val (.double d96), .second, .val (.ref a110), .val (.ref o118), .val (.int (Own.bo ((i0 &&& (31 : Int32)).toInt = (0 : Int)))), .unset, .unset, .unset]) rfl ?_
    refine Own.aload X97 at_160 rfl rfl ?_
    refine Own.callV_ (y := mn_3) (z := mn_3) (a := o118) X97 at_162 (Own.wd hw 36 rfl) (Own.wd hw 37 rfl) (Own.wd hw 39 rfl) (Own.wd hw 38 rfl) rfl (Own.wd hw 2 rfl) (Own.wd hw 40 rfl) (by decide) F100 (rm4r l Z a0 hw o118 (Own.bo (¬ ((i0 &&& (1 : Int32)).toInt = (0 : Int)))) (Own.bo (¬ ((i0 &&& (2 : Int32)).toInt = (0 : Int)))) a110 h97 n0 Z101 G97_1 G97_4 G97_5) (lenOf pd_7 rfl) rfl (argsL := []) (rest := []) rfl (W := 0) (Nat.le_of_eq rfl) (by decide) (by decide) (by decide) (by decide) fun T103 h103 v103 X103 q103 => ?_
    obtain ⟨rfl, rfl⟩ := q103
    show Own.Go p e below s n0 _ _ _ (T103.setTop (mkF m 165 _ [.int (0 : Int32)]))
    refine Own.iload X103 at_165 rfl ?_
    suffices J167_104 : ∀ (z175_104 : Int32), z175_104 = Own.bo ((False) ↔ ((i0 &&& (31 : Int32)).toInt = (0 : Int))) → Own.Go p e below s n0 (fun v _ => v = some (.int 1)) 16 192 (T103.setTop (mkF m 175 #[.val (.int i0), .val (.int i1), .val (.int i2), .val (.int i3), .val (.int i4), .val (.int i5), .val (.int (Own.bo (¬ ((i0 &&& (1 : Int32)).toInt = (0 : Int))))), .val (.int (Own.bo (¬ ((i0 &&& (2 : Int32)).toInt = (0 : Int))))), .val (.int (Own.bo (¬ ((i0 &&& (4 : Int32)).toInt = (0 : Int))))), .val (.int (Own.bo (¬ ((i0 &&& (8 : Int32)).toInt = (0 : Int))))), .val (.int (Own.bo (¬ ((i0 &&& (16 : Int32)).toInt = (0 : Int))))), .val (.int (Own.bo (¬ ((i0 &&& (32 : Int32)).toInt = (0 : Int))))), .val (.double d87), .second, .val (.double d96), .second, .val (.ref a110), .val (.ref o118), .val (.int (Own.bo ((i0 &&& (31 : Int32)).toInt = (0 : Int)))), .unset, .unset, .unset] [.int z175_104])) by
      refine Own.icmpneB (P := False) (P' := (i0 &&& (31 : Int32)).toInt = (0 : Int)) X103 (pc' := 174) at_167 (by decide) (fun (h167 : ¬ ((False) ↔ ((i0 &&& (31 : Int32)).toInt = (0 : Int)))) => ?_) (fun (h167 : (False) ↔ ((i0 &&& (31 : Int32)).toInt = (0 : Int))) => ?_)
      · refine Own.iconst X103 (v := 0) at_174 rfl ?_
        exact J167_104 _ (Own.bo_f (h167))
      · refine Own.iconst X103 (v := 1) at_170 rfl ?_
        refine Own.goto_ X103 (pc' := 175) at_171 (by decide) ?_
        exact J167_104 _ (Own.bo_t (h167))
    intro z175_104 e_z175_104
    subst e_z175_104
    refine Own.istore X103 at_175 (l' := #[.val (.int i0), .val (.int i1), .val (.int i2), .val (.int i3), .val (.int i4), .val (.int i5), .val (.int (Own.bo (¬ ((i0 &&& (1 : Int32)).toInt = (0 : Int))))), .val (.int (Own.bo (¬ ((i0 &&& (2 : Int32)).toInt = (0 : Int))))), .val (.int (Own.bo (¬ ((i0 &&& (4 : Int32)).toInt = (0 : Int))))), .val (.int (Own.bo (¬ ((i0 &&& (8 : Int32)).toInt = (0 : Int))))), .val (.int (Own.bo (¬ ((i0 &&& (16 : Int32)).toInt = (0 : Int))))), .val (.int (Own.bo (¬ ((i0 &&& (32 : Int32)).toInt = (0 : Int))))), .val (.double d87), .second, .val (.double d96), .second, .val (.ref a110), .val (.ref o118), .val (.int (Own.bo ((i0 &&& (31 : Int32)).toInt = (0 : Int)))), .val (.int (Own.bo ((False) ↔ ((i0 &&& (31 : Int32)).toInt = (0 : Int))))), .unset, .unset]) rfl ?_
    refine Own.iloadN X103 at_177 rfl ?_
    refine Own.dload X103 at_178 rfl ?_
    refine Own.iloadN X103 at_180 rfl ?_
    refine Own.iload X103 at_181 rfl ?_
    refine Own.callS_ (y := mn_5) X103 at_183 (Own.wd hw 41 rfl) (Own.wd hw 42 rfl) (Own.wd hw 2 rfl) (Own.wd hw 43 rfl) (by decide) (rm5 l Z a0 hw i1 d87 i2 (Own.bo (¬ ((i0 &&& (32 : Int32)).toInt = (0 : Int)))) h97 n0 Z101 (Own.bo_and _)) (lenOf pd_8 rfl) rfl (argsL := [.int i1, .double d87, .int i2, .int (Own.bo (¬ ((i0 &&& (32 : Int32)).toInt = (0 : Int))))]) (rest := []) rfl (W := 0) (Nat.le_of_eq rfl) (by decide) (by decide) (by decide) (by decide) fun T105 h105 v105 X105 q105 => ?_
    obtain ⟨o183, rfl, B105, K105, A105, G105_0, G105_1, G105_2, G105_3, G105_4, G105_5, G105_6, G105_7, G105_8, G105_9, G105_10⟩ := q105
    have F106 := F98.keep K105
    have F107 := F99.keep K105 nin0
    have F108 := F100.keep K105
    have F109 := G97_0.keep K105 nin0
    have F110 := G97_1.keep K105 nin0
    have F111 := G97_2.keep K105 nin0
    have F112 := G97_3.keep K105 nin0
    have F113 := G97_4.keep K105 nin0
    have F114 := G97_5.keep K105 nin0
    have F115 := G97_6.keep K105 nin0
    have F116 := G97_7.keep K105 nin0
    have F117 := G97_8.keep K105 nin0
    have F118 := G97_9.keep K105 nin0
    have F119 := G97_10.keep K105 nin0
    have Z120 : n0 ≤ h105.size := Nat.le_trans Z101 K105.1
    have ne121 : a110 ≠ o183 := Nat.ne_of_lt (Nat.lt_of_lt_of_le F98.lt B105)
    have ne122 : o118 ≠ o183 := Nat.ne_of_lt (Nat.lt_of_lt_of_le F100.lt B105)
    have fr123 : n0 ≤ o183 := Nat.le_trans Z101 B105
    show Own.Go p e below s n0 _ _ _ (T105.setTop (mkF m 186 _ [.ref o183]))
    refine Own.callV_ (y := mn_3) (z := mn_3) (a := o183) X105 at_186 (Own.wd hw 36 rfl) (Own.wd hw 37 rfl) (Own.wd hw 39 rfl) (Own.wd hw 38 rfl) rfl (Own.wd hw 2 rfl) (Own.wd hw 40 rfl) (by decide) A105 (rm4n l Z a0 hw o183 (0 : Int32) (0 : Int32) (0 : Int32) (0 : Int32) h105 n0 Z120 G105_1 G105_4 G105_5 G105_6 G105_9) (lenOf pd_7 rfl) rfl (argsL := []) (rest := []) rfl (W := 0) (Nat.le_of_eq rfl) (by decide) (by decide) (by decide) (by decide) fun T124 h124 v124 X124 q124 => ?_
    obtain ⟨rfl, rfl⟩ := q124
    show Own.Go p e below s n0 _ _ _ (T124.setTop (mkF m 189 _ [.int (Own.bo ((0 : Int) = 0 ∧ (0 : Int) = 0 ∧ (0 : Int) = 0 ∧ (0 : Int) = 0))]))
    refine Own.istore X124 at_189 (l' := #[.val (.int i0), .val (.int i1), .val (.int i2), .val (.int i3), .val (.int i4), .val (.int i5), .val (.int (Own.bo (¬ ((i0 &&& (1 : Int32)).toInt = (0 : Int))))), .val (.int (Own.bo (¬ ((i0 &&& (2 : Int32)).toInt = (0 : Int))))), .val (.int (Own.bo (¬ ((i0 &&& (4 : Int32)).toInt = (0 : Int))))), .val (.int (Own.bo (¬ ((i0 &&& (8 : Int32)).toInt = (0 : Int))))), .val (.int (Own.bo (¬ ((i0 &&& (16 : Int32)).toInt = (0 : Int))))), .val (.int (Own.bo (¬ ((i0 &&& (32 : Int32)).toInt = (0 : Int))))), .val (.double d87), .second, .val (.double d96), .second, .val (.ref a110), .val (.ref o118), .val (.int (Own.bo ((i0 &&& (31 : Int32)).toInt = (0 : Int)))), .val (.int (Own.bo ((False) ↔ ((i0 &&& (31 : Int32)).toInt = (0 : Int))))), .val (.int (Own.bo ((0 : Int) = 0 ∧ (0 : Int) = 0 ∧ (0 : Int) = 0 ∧ (0 : Int) = 0))), .unset]) rfl ?_
    refine Own.iloadN X124 at_191 rfl ?_
    refine Own.dload X124 at_192 rfl ?_
    refine Own.iloadN X124 at_194 rfl ?_
    refine Own.callS_ (y := mn_6) X124 at_195 (Own.wd hw 46 rfl) (Own.wd hw 47 rfl) (Own.wd hw 2 rfl) (Own.wd hw 48 rfl) (by decide) (rm6 l Z a0 hw i1 d87 i2 h105 n0 Z120 ) (lenOf pd_9 rfl) rfl (argsL := [.int i1, .double d87, .int i2]) (rest := []) rfl (W := 0) (Nat.le_of_eq rfl) (by decide) (by decide) (by decide) (by decide) fun T125 h125 v125 X125 q125 => ?_
    obtain ⟨o195, rfl, B125, K125, A125, G125_0, G125_1, G125_2, G125_3, G125_4, G125_5, G125_6, G125_7, G125_8, G125_9, G125_10⟩ := q125
    have F126 := F106.keep K125
    have F127 := F107.keep K125 nin0
    have F128 := F108.keep K125
    have F129 := F109.keep K125 nin0
    have F130 := F110.keep K125 nin0
    have F131 := F111.keep K125 nin0
    have F132 := F112.keep K125 nin0
    have F133 := F113.keep K125 nin0
    have F134 := F114.keep K125 nin0
    have F135 := F115.keep K125 nin0
    have F136 := F116.keep K125 nin0
    have F137 := F117.keep K125 nin0
    have F138 := F118.keep K125 nin0
    have F139 := F119.keep K125 nin0
    have F140 := A105.keep K125
    have F141 := G105_0.keep K125 nin0
    have F142 := G105_1.keep K125 nin0
    have F143 := G105_2.keep K125 nin0
    have F144 := G105_3.keep K125 nin0
    have F145 := G105_4.keep K125 nin0
    have F146 := G105_5.keep K125 nin0
    have F147 := G105_6.keep K125 nin0
    have F148 := G105_7.keep K125 nin0
    have F149 := G105_8.keep K125 nin0
    have F150 := G105_9.keep K125 nin0
    have F151 := G105_10.keep K125 nin0
    have Z152 : n0 ≤ h125.size := Nat.le_trans Z120 K125.1
    have ne153 : a110 ≠ o195 := Nat.ne_of_lt (Nat.lt_of_lt_of_le F106.lt B125)
    have ne154 : o118 ≠ o195 := Nat.ne_of_lt (Nat.lt_of_lt_of_le F108.lt B125)
    have ne155 : o183 ≠ o195 := Nat.ne_of_lt (Nat.lt_of_lt_of_le A105.lt B125)
    have fr156 : n0 ≤ o195 := Nat.le_trans Z120 B125
    show Own.Go p e below s n0 _ _ _ (T125.setTop (mkF m 198 _ [.ref o195]))
    refine Own.callV_ (y := mn_3) (z := mn_3) (a := o195) X125 at_198 (Own.wd hw 36 rfl) (Own.wd hw 37 rfl) (Own.wd hw 39 rfl) (Own.wd hw 38 rfl) rfl (Own.wd hw 2 rfl) (Own.wd hw 40 rfl) (by decide) A125 (rm4n l Z a0 hw o195 (0 : Int32) (0 : Int32) (0 : Int32) (1 : Int32) h125 n0 Z152 G125_1 G125_4 G125_5 G125_6 G125_9) (lenOf pd_7 rfl) rfl (argsL := []) (rest := []) rfl (W := 0) (Nat.le_of_eq rfl) (by decide) (by decide) (by decide) (by decide) fun T157 h157 v157 X157 q157 => ?_
    obtain ⟨rfl, rfl⟩ := q157
    show Own.Go p e below s n0 _ _ _ (T157.setTop (mkF m 201 _ [.int (Own.bo ((0 : Int) = 0 ∧ (0 : Int) = 0 ∧ (0 : Int) = 0 ∧ (1 : Int) = 0))]))
    suffices J201_158 : ∀ (z209_158 : Int32), z209_158 = Own.bo (¬ ((0 : Int) = 0 ∧ (0 : Int) = 0 ∧ (0 : Int) = 0 ∧ (1 : Int) = 0)) → Own.Go p e below s n0 (fun v _ => v = some (.int 1)) 16 192 (T157.setTop (mkF m 209 #[.val (.int i0), .val (.int i1), .val (.int i2), .val (.int i3), .val (.int i4), .val (.int i5), .val (.int (Own.bo (¬ ((i0 &&& (1 : Int32)).toInt = (0 : Int))))), .val (.int (Own.bo (¬ ((i0 &&& (2 : Int32)).toInt = (0 : Int))))), .val (.int (Own.bo (¬ ((i0 &&& (4 : Int32)).toInt = (0 : Int))))), .val (.int (Own.bo (¬ ((i0 &&& (8 : Int32)).toInt = (0 : Int))))), .val (.int (Own.bo (¬ ((i0 &&& (16 : Int32)).toInt = (0 : Int))))), .val (.int (Own.bo (¬ ((i0 &&& (32 : Int32)).toInt = (0 : Int))))), .val (.double d87), .second, .val (.double d96), .second, .val (.ref a110), .val (.ref o118), .val (.int (Own.bo ((i0 &&& (31 : Int32)).toInt = (0 : Int)))), .val (.int (Own.bo ((False) ↔ ((i0 &&& (31 : Int32)).toInt = (0 : Int))))), .val (.int (Own.bo ((0 : Int) = 0 ∧ (0 : Int) = 0 ∧ (0 : Int) = 0 ∧ (0 : Int) = 0))), .unset] [.int z209_158])) by
      refine Own.ifneB X157 (pc' := 208) at_201 (by decide) (fun (h201 : (0 : Int) = 0 ∧ (0 : Int) = 0 ∧ (0 : Int) = 0 ∧ (1 : Int) = 0) => ?_) (fun (h201 : ¬ ((0 : Int) = 0 ∧ (0 : Int) = 0 ∧ (0 : Int) = 0 ∧ (1 : Int) = 0)) => ?_)
      · refine Own.iconst X157 (v := 0) at_208 rfl ?_
        exact J201_158 _ (Own.bo_f (fun q => q h201))
      · refine Own.iconst X157 (v := 1) at_204 rfl ?_
        refine Own.goto_ X157 (pc' := 209) at_205 (by decide) ?_
        exact J201_158 _ (Own.bo_t (h201))
    intro z209_158 e_z209_158
    subst e_z209_158
    refine Own.istore X157 at_209 (l' := #[.val (.int i0), .val (.int i1), .val (.int i2), .val (.int i3), .val (.int i4), .val (.int i5), .val (.int (Own.bo (¬ ((i0 &&& (1 : Int32)).toInt = (0 : Int))))), .val (.int (Own.bo (¬ ((i0 &&& (2 : Int32)).toInt = (0 : Int))))), .val (.int (Own.bo (¬ ((i0 &&& (4 : Int32)).toInt = (0 : Int))))), .val (.int (Own.bo (¬ ((i0 &&& (8 : Int32)).toInt = (0 : Int))))), .val (.int (Own.bo (¬ ((i0 &&& (16 : Int32)).toInt = (0 : Int))))), .val (.int (Own.bo (¬ ((i0 &&& (32 : Int32)).toInt = (0 : Int))))), .val (.double d87), .second, .val (.double d96), .second, .val (.ref a110), .val (.ref o118), .val (.int (Own.bo ((i0 &&& (31 : Int32)).toInt = (0 : Int)))), .val (.int (Own.bo ((False) ↔ ((i0 &&& (31 : Int32)).toInt = (0 : Int))))), .val (.int (Own.bo ((0 : Int) = 0 ∧ (0 : Int) = 0 ∧ (0 : Int) = 0 ∧ (0 : Int) = 0))), .val (.int (Own.bo (¬ ((0 : Int) = 0 ∧ (0 : Int) = 0 ∧ (0 : Int) = 0 ∧ (1 : Int) = 0))))]) rfl ?_
    refine Own.iload X157 at_211 rfl ?_
    suffices J213_159 : ∀ (z231_159 : Int32), z231_159 = Own.bo (((False) ↔ ((i0 &&& (31 : Int32)).toInt = (0 : Int))) ∧ (((0 : Int) = 0 ∧ (0 : Int) = 0 ∧ (0 : Int) = 0 ∧ (0 : Int) = 0) ∧ (¬ ((0 : Int) = 0 ∧ (0 : Int) = 0 ∧ (0 : Int) = 0 ∧ (1 : Int) = 0)))) → Own.Go p e below s n0 (fun v _ => v = some (.int 1)) 16 192 (T157.setTop (mkF m 231 #[.val (.int i0), .val (.int i1), .val (.int i2), .val (.int i3), .val (.int i4), .val (.int i5), .val (.int (Own.bo (¬ ((i0 &&& (1 : Int32)).toInt = (0 : Int))))), .val (.int (Own.bo (¬ ((i0 &&& (2 : Int32)).toInt = (0 : Int))))), .val (.int (Own.bo (¬ ((i0 &&& (4 : Int32)).toInt = (0 : Int))))), .val (.int (Own.bo (¬ ((i0 &&& (8 : Int32)).toInt = (0 : Int))))), .val (.int (Own.bo (¬ ((i0 &&& (16 : Int32)).toInt = (0 : Int))))), .val (.int (Own.bo (¬ ((i0 &&& (32 : Int32)).toInt = (0 : Int))))), .val (.double d87), .second, .val (.double d96), .second, .val (.ref a110), .val (.ref o118), .val (.int (Own.bo ((i0 &&& (31 : Int32)).toInt = (0 : Int)))), .val (.int (Own.bo ((False) ↔ ((i0 &&& (31 : Int32)).toInt = (0 : Int))))), .val (.int (Own.bo ((0 : Int) = 0 ∧ (0 : Int) = 0 ∧ (0 : Int) = 0 ∧ (0 : Int) = 0))), .val (.int (Own.bo (¬ ((0 : Int) = 0 ∧ (0 : Int) = 0 ∧ (0 : Int) = 0 ∧ (1 : Int) = 0))))] [.int z231_159])) by
      refine Own.ifeqB X157 (pc' := 230) at_213 (by decide) (fun (h213 : ¬ ((False) ↔ ((i0 &&& (31 : Int32)).toInt = (0 : Int)))) => ?_) (fun (h213 : (False) ↔ ((i0 &&& (31 : Int32)).toInt = (0 : Int))) => ?_)
      · refine Own.iconst X157 (v := 0) at_230 rfl ?_
        exact J213_159 _ (Own.bo_f (fun q => h213 q.1))
      · refine Own.iload X157 at_216 rfl ?_
        refine Own.ifeqB X157 (pc' := 230) at_218 (by decide) (fun (h218 : ¬ ((0 : Int) = 0 ∧ (0 : Int) = 0 ∧ (0 : Int) = 0 ∧ (0 : Int) = 0)) => ?_) (fun (h218 : (0 : Int) = 0 ∧ (0 : Int) = 0 ∧ (0 : Int) = 0 ∧ (0 : Int) = 0) => ?_)
        · refine Own.iconst X157 (v := 0) at_230 rfl ?_
          exact J213_159 _ (Own.bo_f (fun q => (fun q => h218 q.1) q.2))
        · refine Own.iload X157 at_221 rfl ?_
          refine Own.ifeqB X157 (pc' := 230) at_223 (by decide) (fun (h223 : ¬ (¬ ((0 : Int) = 0 ∧ (0 : Int) = 0 ∧ (0 : Int) = 0 ∧ (1 : Int) = 0))) => ?_) (fun (h223 : ¬ ((0 : Int) = 0 ∧ (0 : Int) = 0 ∧ (0 : Int) = 0 ∧ (1 : Int) = 0)) => ?_)
          · refine Own.iconst X157 (v := 0) at_230 rfl ?_
            exact J213_159 _ (Own.bo_f (fun q => (fun q => (h223) q.2) q.2))
          · refine Own.iconst X157 (v := 1) at_226 rfl ?_
            refine Own.goto_ X157 (pc' := 231) at_227 (by decide) ?_
            exact J213_159 _ (Own.bo_t (⟨h213, ⟨h218, h223⟩⟩))
    intro z231_159 e_z231_159
    subst e_z231_159
    exact Own.retB X157 at_231 (Own.bo_and _) (congrArg (fun z => some (Value.int z)) (Own.bo_t ⟨by have b_ := own_bits i0; first | (simp only [Own.bo0]; omega) | (simp only [false_iff]; omega) | omega, by decide, by decide⟩).symm) (by decide) (by decide)
set_option maxRecDepth 65536 in
set_option maxHeartbeats 40000000 in
theorem comes_1 {Post : Tables → Env → Array Value → State → Outcome → State → Prop} (hpost : ∀ tb e args s v u, (limb_1_1.after args s (.returned v) u = true ∧ limb_1_2.after args s (.returned v) u = true ∧ True) → FrameEnd s (.returned v) u (Jvm.fieldLocs frame_1_writes args s ++ Jvm.arrayLocs frame_1_arrays args s ++ Jvm.staticLocs frame_1_statics s) 16 192 → Post tb e args s (.returned v) u) :
    ArmFor flags0 classFile x code maxLocals ret World_1 tables_1 room_1 Calls_1 rest_1 Pre_1 Post := by
  intro l hfl _ _ p e ha hc hk s m args below hf hA hF happ hP
  obtain ⟨hcalls, hrest, hpre⟩ := hP
  obtain ⟨-, -, -, hnamed, -, -, -, hat⟩ := (Spec.applies_iff hf).mp happ
  obtain ⟨hg, hn⟩ := and_e (Cond.before_iff.mp (show (Jvm.Cond.and given_1 narrow_1).before args s = true from hpre))
  obtain ⟨g0, gs1⟩ := and_e hg
  obtain ⟨g1, gs2⟩ := and_e gs1
  obtain ⟨g2, gs3⟩ := and_e gs2
  obtain ⟨g3, gs4⟩ := and_e gs3
  obtain ⟨g4, gs5⟩ := and_e gs4
  obtain ⟨g5, gs6⟩ := and_e gs5
  have g6 := gs6
  obtain ⟨w0, w1, w2, w3, w4, w5, rfl⟩ : ∃ w0 w1 w2 w3 w4 w5 : Value, args = #[w0, w1, w2, w3, w4, w5] := by
    have hs : args.size = 6 := by simpa [Cond.value, given_1] using g0
    obtain ⟨L⟩ := args
    match L, hs with
    | [w0, w1, w2, w3, w4, w5], _ => exact ⟨w0, w1, w2, w3, w4, w5, rfl⟩
  have hw := fun d (hd : d ∈ tables_1) => atoms_spec (ws := Jvm.Cond.code x code maxLocals ret :: tables_1) hat d (List.mem_cons_of_mem _ hd)
  obtain ⟨i0, ei0⟩ := is_v g1
  obtain rfl : w0 = (.int i0) := Option.some.inj ei0
  obtain ⟨i1, ei1⟩ := is_v g2
  obtain rfl : w1 = (.int i1) := Option.some.inj ei1
  obtain ⟨i2, ei2⟩ := is_v g3
  obtain rfl : w2 = (.int i2) := Option.some.inj ei2
  obtain ⟨i3, ei3⟩ := is_v g4
  obtain rfl : w3 = (.int i3) := Option.some.inj ei3
  obtain ⟨i4, ei4⟩ := is_v g5
  obtain rfl : w4 = (.int i4) := Option.some.inj ei4
  obtain ⟨i5, ei5⟩ := is_v g6
  obtain rfl : w5 = (.int i5) := Option.some.inj ei5
  obtain ⟨n, o, h1, h2, h3, v, L, rfl, ⟨hQ, N⟩, hq⟩ := rm0 l s _ hw i0 i1 i2 i3 i4 i5 s.heap s.heap.size (Nat.le_refl _)  p e ha hc hk s m _ below hf ((Spec.applies_iff_loose hf).mp happ).1 ⟨rfl, State.Warmed39.refl s, rfl⟩ trivial
  obtain rfl := hQ
  refine ⟨n, _, h1, h2, h3, hpost _ _ _ _ _ _ ⟨Cond.after_iff.mpr rfl, Cond.after_iff.mpr (eq_i res_at (Term.int_eval (1)) rfl), trivial⟩ ⟨hq.1, hq.2.1, (hq.2.2.sift fun y hy => Or.inr (N y hy)).mono (by decide) (by decide)⟩⟩
theorem main_1_1 : Claimed_1_1 := comes_1 fun _ _ _ _ _ _ h hF => ⟨h.1, hF⟩
theorem main_1_2 : Claimed_1_2 := comes_1 fun _ _ _ _ _ _ h hF => ⟨h.2.1, hF⟩

end Jvm.Pilot.@@N@@
namespace Jvm.Pilot.@@N@@
open Jvm Jvm.ClassFile Sem Op Lib Jvm.Free Jvm.Stand Jvm.Pilot.@@N@@.Jvm.D
/-! MADE BY PROGRAM (witnessworld.py) out of the Statement's table words and the real class files: 12 classes; the members and pool entries that the words name. The judged class is class 1, her method 1. -/
namespace start1
open Jvm.ClassFile
def u (s : String) : CpInfo := .utf8 (stringToUtf16 s)
/-- a pool by its gaps: so many unusable entries, then the entry; so many at the end -/
def gap : Nat → List CpInfo → List CpInfo
  | 0, r => r
  | n + 1, r => .unusable :: gap n r
def poolList (es : List (Nat × CpInfo)) (last : Nat) : List CpInfo := es.foldr (fun e r => gap e.1 (e.2 :: r)) (gap last [])
def pool (es : List (Nat × CpInfo)) (last : Nat) : Array CpInfo := ⟨poolList es last⟩
def fileOf (pool : Array CpInfo) (this : Nat) (attrs : Array Attribute := #[]) (ms : Array MethodInfo := #[]) (fl : Nat := 33) (sup : Nat := 0) (ifs : Array Nat := #[]) (fds : Array FieldInfo := #[]) : ClassFile where
  minorVersion := 0
  majorVersion := 65
  constantPool := pool
  accessFlags := fl
  thisClass := this
  superClass := sup
  interfaces := ifs
  fields := fds
  methods := ms
  attributes := attrs
def plain (name : String) (sup : Option ClassId) : Class where
  name := name
  kind := .ordinary
  loader := none
  accessFlags := 33
  super := sup
  interfaces := #[]
  cf := none
  fields := #[]
  methods := #[]
  instanceTypes := #[]
  staticTypes := #[]
  resolved := #[]
  callSites := []
  init := .initialized
  statics := none
  mirror := none

def pool0 : Array CpInfo := pool [(5, u "<init>"), (0, u "()V"), (1, .class_ 10), (1, u "java/lang/Object")] 113

def k0c0 : Code := { maxStack := 0, maxLocals := 1, code := object_method_1_code, exceptionTable := #[], attributes := #[] }
def k0m0 : Method := { name := "<init>", desc := "()V", sig := { parameters := [], returnType := none }, accessFlags := 1, code := some k0c0 }
/-- java/lang/Object -/
def k0 : Class := { plain "java/lang/Object" none with
  accessFlags := 33
  interfaces := #[]
  cf := some (fileOf pool0 8 #[] #[{ accessFlags := 1, nameIndex := 5, descriptorIndex := 6, attributes := #[] }] 33 0 #[] #[])
  fields := #[]
  methods := #[k0m0]
  instanceTypes := #[]
  staticTypes := #[]
  resolved := Array.replicate 124 none
  statics := none }

def pool1 : Array CpInfo := pool [(2, .class_ 4), (1, u "java/lang/Object"), (0, u "<init>"), (0, u "()V"), (0, .class_ 8), (0, u "com/example/pliant/pliant/ml/VectorShare$Plan"), (0, .methodref 7 10), (0, .nameAndType 5 11), (0, u "(IZIDZ[DZDIZZ)V"), (0, .methodref 7 13), (0, .nameAndType 14 15), (0, u "writesNothing"), (0, u "()Z"), (0, .methodref 7 17), (0, .nameAndType 18 19), (0, u "nothing"), (0, u "(IDIZ)Lcom/example/pliant/pliant/ml/VectorShare$Plan;"), (0, .methodref 7 21), (0, .nameAndType 22 23), (0, u "scaling"), (0, u "(IDI)Lcom/example/pliant/pliant/ml/VectorShare$Plan;"), (0, .class_ 25), (0, u "com/example/pliant/pliant/ml/PlanWritesNothingPinLaw"), (2, u "law"), (0, u "(IIIIII)Z")] 9

def k1m0 : Method := { name := "<init>", desc := "()V", sig := { parameters := [], returnType := none }, accessFlags := 1, code := none }
def k1c1 : Code := { maxStack := 15, maxLocals := 22, code := code, exceptionTable := #[], attributes := #[] }
def k1m1 : Method := { name := "law", desc := "(IIIIII)Z", sig := { parameters := [.int, .int, .int, .int, .int, .int], returnType := some .boolean }, accessFlags := 9, code := some k1c1 }
/-- com/example/pliant/pliant/ml/PlanWritesNothingPinLaw -/
def k1 : Class := { plain "com/example/pliant/pliant/ml/PlanWritesNothingPinLaw" (some 0) with
  accessFlags := 49
  interfaces := #[]
  cf := some (fileOf pool1 24 #[] #[{ accessFlags := 1, nameIndex := 5, descriptorIndex := 6, attributes := #[] }, { accessFlags := 9, nameIndex := 28, descriptorIndex := 29, attributes := #[] }] 49 2 #[] #[])
  fields := #[]
  methods := #[k1m0, k1m1]
  instanceTypes := #[]
  staticTypes := #[]
  resolved := Array.replicate 39 none
  statics := none }

def pool2 : Array CpInfo := pool [(1, .methodref 2 3), (0, .class_ 4), (0, .nameAndType 5 6), (0, u "java/lang/Object"), (0, u "<init>"), (0, u "()V"), (0, .class_ 8), (0, u "java/lang/Record")] 13

def k2c0 : Code := { maxStack := 1, maxLocals := 1, code := jdk_30_method_1_code, exceptionTable := #[], attributes := #[] }
def k2m0 : Method := { name := "<init>", desc := "()V", sig := { parameters := [], returnType := none }, accessFlags := 4, code := some k2c0 }
/-- java/lang/Record -/
def k2 : Class := { plain "java/lang/Record" (some 0) with
  accessFlags := 1057
  interfaces := #[]
  cf := some (fileOf pool2 7 #[] #[{ accessFlags := 4, nameIndex := 5, descriptorIndex := 6, attributes := #[] }] 1057 2 #[] #[])
  fields := #[]
  methods := #[k2m0]
  instanceTypes := #[]
  staticTypes := #[]
  resolved := Array.replicate 22 none
  statics := none }

def pool3 : Array CpInfo := pool [(1, .methodref 2 3), (0, .class_ 4), (0, .nameAndType 5 6), (0, u "java/lang/Record"), (0, u "<init>"), (0, u "()V"), (0, .fieldref 8 9), (0, .class_ 10), (0, .nameAndType 11 12), (0, u "com/example/pliant/pliant/ml/VectorShare$Plan"), (0, u "pass"), (0, u "I"), (0, .fieldref 8 14), (0, .nameAndType 15 16), (0, u "paired"), (0, u "Z"), (0, .fieldref 8 18), (0, .nameAndType 19 12), (0, u "slot"), (0, .fieldref 8 21), (0, .nameAndType 22 23), (0, u "step"), (0, u "D"), (0, .fieldref 8 25), (0, .nameAndType 26 16), (0, u "fromPass"), (0, .fieldref 8 28), (0, .nameAndType 29 30), (0, u "direction"), (0, u "[D"), (0, .fieldref 8 32), (0, .nameAndType 33 16), (0, u "move"), (0, .fieldref 8 35), (0, .nameAndType 36 23), (0, u "ahead"), (0, .fieldref 8 38), (0, .nameAndType 39 12), (0, u "nextSlot"), (0, .fieldref 8 41), (0, .nameAndType 42 16), (0, u "scale"), (0, .fieldref 8 44), (0, .nameAndType 45 16), (0, u "scaled"), (0, .methodref 8 47), (0, .nameAndType 5 48), (0, u "(IZIDZ[DZDIZZ)V"), (29, u "nothing"), (0, u "(IDIZ)Lcom/example/pliant/pliant/ml/VectorShare$Plan;"), (0, u "scaling"), (0, u "(IDI)Lcom/example/pliant/pliant/ml/VectorShare$Plan;"), (0, u "writesNothing"), (0, u "()Z"), (14, .class_ 99), (0, u "com/example/pliant/pliant/ml/VectorShare")] 29

def k3c0 : Code := { maxStack := 3, maxLocals := 14, code := prog_125_method_1_code, exceptionTable := #[], attributes := #[] }
def k3m0 : Method := { name := "<init>", desc := "(IZIDZ[DZDIZZ)V", sig := { parameters := [.int, .boolean, .int, .double, .boolean, (.array .double), .boolean, .double, .int, .boolean, .boolean], returnType := none }, accessFlags := 0, code := some k3c0 }
def k3c1 : Code := { maxStack := 15, maxLocals := 5, code := prog_125_method_3_code, exceptionTable := #[], attributes := #[] }
def k3m1 : Method := { name := "nothing", desc := "(IDIZ)Lcom/example/pliant/pliant/ml/VectorShare$Plan;", sig := { parameters := [.int, .double, .int, .boolean], returnType := some (.object "com/example/pliant/pliant/ml/VectorShare$Plan") }, accessFlags := 8, code := some k3c1 }
def k3c2 : Code := { maxStack := 15, maxLocals := 4, code := prog_125_method_4_code, exceptionTable := #[], attributes := #[] }
def k3m2 : Method := { name := "scaling", desc := "(IDI)Lcom/example/pliant/pliant/ml/VectorShare$Plan;", sig := { parameters := [.int, .double, .int], returnType := some (.object "com/example/pliant/pliant/ml/VectorShare$Plan") }, accessFlags := 8, code := some k3c2 }
def k3c3 : Code := { maxStack := 1, maxLocals := 1, code := prog_125_method_5_code, exceptionTable := #[], attributes := #[] }
def k3m3 : Method := { name := "writesNothing", desc := "()Z", sig := { parameters := [], returnType := some .boolean }, accessFlags := 0, code := some k3c3 }
/-- com/example/pliant/pliant/ml/VectorShare$Plan -/
def k3 : Class := { plain "com/example/pliant/pliant/ml/VectorShare$Plan" (some 2) with
  accessFlags := 48
  interfaces := #[]
  cf := some (fileOf pool3 8 #[.nestHost 98] #[{ accessFlags := 0, nameIndex := 5, descriptorIndex := 48, attributes := #[] }, { accessFlags := 8, nameIndex := 78, descriptorIndex := 79, attributes := #[] }, { accessFlags := 8, nameIndex := 80, descriptorIndex := 81, attributes := #[] }, { accessFlags := 0, nameIndex := 82, descriptorIndex := 83, attributes := #[] }] 48 2 #[] #[{ accessFlags := 18, nameIndex := 11, descriptorIndex := 12, attributes := #[] }, { accessFlags := 18, nameIndex := 15, descriptorIndex := 16, attributes := #[] }, { accessFlags := 18, nameIndex := 19, descriptorIndex := 12, attributes := #[] }, { accessFlags := 18, nameIndex := 22, descriptorIndex := 23, attributes := #[] }, { accessFlags := 18, nameIndex := 26, descriptorIndex := 16, attributes := #[] }, { accessFlags := 18, nameIndex := 29, descriptorIndex := 30, attributes := #[] }, { accessFlags := 18, nameIndex := 33, descriptorIndex := 16, attributes := #[] }, { accessFlags := 18, nameIndex := 36, descriptorIndex := 23, attributes := #[] }, { accessFlags := 18, nameIndex := 39, descriptorIndex := 12, attributes := #[] }, { accessFlags := 18, nameIndex := 42, descriptorIndex := 16, attributes := #[] }, { accessFlags := 18, nameIndex := 45, descriptorIndex := 16, attributes := #[] }])
  fields := #[{ name := "pass", type := .int, accessFlags := 18, slot := 0, constantValue := 0 }, { name := "paired", type := .boolean, accessFlags := 18, slot := 1, constantValue := 0 }, { name := "slot", type := .int, accessFlags := 18, slot := 2, constantValue := 0 }, { name := "step", type := .double, accessFlags := 18, slot := 3, constantValue := 0 }, { name := "fromPass", type := .boolean, accessFlags := 18, slot := 4, constantValue := 0 }, { name := "direction", type := (.array .double), accessFlags := 18, slot := 5, constantValue := 0 }, { name := "move", type := .boolean, accessFlags := 18, slot := 6, constantValue := 0 }, { name := "ahead", type := .double, accessFlags := 18, slot := 7, constantValue := 0 }, { name := "nextSlot", type := .int, accessFlags := 18, slot := 8, constantValue := 0 }, { name := "scale", type := .boolean, accessFlags := 18, slot := 9, constantValue := 0 }, { name := "scaled", type := .boolean, accessFlags := 18, slot := 10, constantValue := 0 }]
  methods := #[k3m0, k3m1, k3m2, k3m3]
  instanceTypes := #[.int, .boolean, .int, .double, .boolean, (.array .double), .boolean, .double, .int, .boolean, .boolean]
  staticTypes := #[]
  resolved := Array.replicate 129 none
  statics := none }

def pool4 : Array CpInfo := pool [(1, u "java/lang/Cloneable"), (0, .class_ 1), (0, u "java/lang/Object"), (0, .class_ 3)] 3

/-- java/lang/Cloneable -/
def k4 : Class := { plain "java/lang/Cloneable" (some 0) with
  accessFlags := 1537
  interfaces := #[]
  cf := some (fileOf pool4 2 #[] #[] 1537 4 #[] #[])
  fields := #[]
  methods := #[]
  instanceTypes := #[]
  staticTypes := #[]
  resolved := Array.replicate 8 none
  statics := none }

def pool5 : Array CpInfo := pool [(1, u "java/io/Serializable"), (0, .class_ 1), (0, u "java/lang/Object"), (0, .class_ 3)] 3

/-- java/io/Serializable -/
def k5 : Class := { plain "java/io/Serializable" (some 0) with
  accessFlags := 1537
  interfaces := #[]
  cf := some (fileOf pool5 2 #[] #[] 1537 4 #[] #[])
  fields := #[]
  methods := #[]
  instanceTypes := #[]
  staticTypes := #[]
  resolved := Array.replicate 8 none
  statics := none }

/-- the primitive byte -/
def k6 : Class := { plain "byte" none with kind := .primitive 'B', accessFlags := 0x411 }
/-- [B -/
def k7 : Class := { plain "[B" (some 0) with kind := .array 6 .byte, interfaces := #[4, 5], accessFlags := 1041 }

/-- the primitive double -/
def k8 : Class := { plain "double" none with kind := .primitive 'D', accessFlags := 0x411 }
/-- [D -/
def k9 : Class := { plain "[D" (some 0) with kind := .array 8 .double, interfaces := #[4, 5], accessFlags := 1041 }

/-- the primitive int -/
def k10 : Class := { plain "int" none with kind := .primitive 'I', accessFlags := 0x411 }
/-- [I -/
def k11 : Class := { plain "[I" (some 0) with kind := .array 10 .int, interfaces := #[4, 5], accessFlags := 1041 }

def heap : Heap := #[]
def classes : Array Class := #[k0, k1, k2, k3, k4, k5, k6, k7, k8, k9, k10, k11]
def interned : List (Array UInt16 × Addr) := []
def slotsUsed : Nat := 0
def theMethod : MethodId := ⟨1, 1⟩
def args0 : Array Value := #[.int 5, .int 7, .int 0, .int 3, .int 2, .int 9]
def aboutOver (below : List Frame) : State where
  vm := { classes := classes, interned := interned.toArray }
  heap := heap
  slotsUsed := slotsUsed
  threads := #[{ frames := .invoking theMethod args0 :: below }]
def below0 : List Frame := [.native { method := ⟨0, 0⟩, args := #[] }]
def about1 : State := aboutOver below0
def p0 : Program := .bare "" "" ""
def e0 : Env := launch0.env 0 0 0
theorem w_frames : about1.frames = Frame.invoking theMethod args0 :: below0 := rfl
set_option maxRecDepth 65536 in
theorem w_args : argsFit about1.vm theMethod args0 = true := by decide +kernel
set_option maxRecDepth 65536 in
theorem w_heap : heapFits about1 = true := by decide +kernel
set_option maxRecDepth 65536 in
theorem w_runnable : about1.curStatus? = some .runnable := by decide +kernel
set_option maxRecDepth 65536 in
theorem w_alone : about1.alone = true := by decide +kernel
set_option maxRecDepth 65536 in
theorem w_named : about1.methodNamed? x = some theMethod := by decide +kernel
set_option maxRecDepth 65536 in
theorem w_hears : about1.hears theMethod below0 = true := by decide +kernel
set_option maxRecDepth 65536 in
theorem w_ripe : about1.ripe theMethod args0 below0 = true := by decide +kernel
theorem w_running : about1.status = .running := rfl
set_option maxRecDepth 65536 in
theorem w_room : about1.hasRoom e0.platform room_1 = true :=
  launch0.hasRoom_least _ room_1 (by decide +kernel) (by decide +kernel) (by decide +kernel) (by decide +kernel) (by decide +kernel) (by decide +kernel)
theorem allAtoms_all (ts : List Jvm.Cond) (a : Array Jvm.Value) (st : Jvm.State) : (allAtoms ts).before a st = ts.all (fun c => c.before a st) := by
  induction ts with
  | nil => rfl
  | cons c t ih =>
    show (Jvm.Cond.and c (allAtoms t)).before a st = _
    rw [Jvm.Cond.before_and, ih, List.all_cons]
def words1 : List Jvm.Cond := Jvm.Cond.code x code maxLocals ret :: tables_1
/-- a 'code' word, met by the world's own term for the bytes: nothing is compared byte by byte -/
theorem code_word {y : MethodName} {bytes : ByteArray} {mx : Nat} {rt : Option FieldType} {a : Array Value} {s : State} {m : MethodId} {meth : Method} {c : Code} (h1 : s.methodNamed? y = some m) (h2 : s.vm.method? m = some meth) (h3 : meth.code = some c) (h4 : c.code = bytes)
    (h5 : (c.maxLocals == mx && c.exceptionTable.isEmpty && decide (c.maxStack ≤ mostOperands) && decide (meth.sig.returnType = rt) && !meth.locks && decide (parseMethodDescriptor y.desc = some meth.sig)) = true) : (Jvm.Cond.code y bytes mx rt).before a s = true := by
  simp only [Bool.and_eq_true, beq_iff_eq, Bool.not_eq_true', decide_eq_true_eq] at h5
  obtain ⟨⟨⟨⟨⟨g1, g2⟩, g3⟩, g4⟩, g5⟩, g6⟩ := h5
  simp [Cond.before, Cond.holds, Cond.value, h1, h2, h3, h4, g1, g2, g3, g4, g5, g6]
def isCode : Jvm.Cond → Bool
  | .code _ _ _ _ => true
  | _ => false
theorem all_split {L : List Jvm.Cond} {P : Jvm.Cond → Bool} (h1 : L.all (fun c => isCode c || P c) = true) (h2 : ∀ c ∈ L.filter isCode, P c = true) : L.all P = true := by
  refine List.all_eq_true.mpr fun c hc => ?_
  have h := List.all_eq_true.mp h1 c hc
  rcases Bool.eq_false_or_eq_true (isCode c) with hi | hi
  · exact h2 c (List.mem_filter.mpr ⟨hc, hi⟩)
  · simpa [hi] using h
set_option maxRecDepth 65536 in
theorem w_c0 : (Jvm.Cond.code x code maxLocals ret).before args0 about1 = true := code_word (m := ⟨1, 1⟩) (meth := k1m1) (c := k1c1) (by decide +kernel) rfl rfl rfl (by decide +kernel)
set_option maxRecDepth 65536 in
theorem w_c1 : (Jvm.Cond.code ({ cls := "com/example/pliant/pliant/ml/VectorShare$Plan", name := "<init>", desc := "(IZIDZ[DZDIZZ)V" } : Jvm.MethodName) prog_125_method_1_code (14 : Nat) (Option.none : Option Jvm.ClassFile.FieldType)).before args0 about1 = true := code_word (m := ⟨3, 0⟩) (meth := k3m0) (c := k3c0) (by decide +kernel) rfl rfl rfl (by decide +kernel)
set_option maxRecDepth 65536 in
theorem w_c2 : (Jvm.Cond.code ({ cls := "java/lang/Record", name := "<init>", desc := "()V" } : Jvm.MethodName) jdk_30_method_1_code (1 : Nat) (Option.none : Option Jvm.ClassFile.FieldType)).before args0 about1 = true := code_word (m := ⟨2, 0⟩) (meth := k2m0) (c := k2c0) (by decide +kernel) rfl rfl rfl (by decide +kernel)
set_option maxRecDepth 65536 in
theorem w_c3 : (Jvm.Cond.code ({ cls := "java/lang/Object", name := "<init>", desc := "()V" } : Jvm.MethodName) object_method_1_code (1 : Nat) (Option.none : Option Jvm.ClassFile.FieldType)).before args0 about1 = true := code_word (m := ⟨0, 0⟩) (meth := k0m0) (c := k0c0) (by decide +kernel) rfl rfl rfl (by decide +kernel)
set_option maxRecDepth 65536 in
theorem w_c4 : (Jvm.Cond.code ({ cls := "com/example/pliant/pliant/ml/VectorShare$Plan", name := "writesNothing", desc := "()Z" } : Jvm.MethodName) prog_125_method_5_code (1 : Nat) (Option.some Jvm.ClassFile.FieldType.boolean)).before args0 about1 = true := code_word (m := ⟨3, 3⟩) (meth := k3m3) (c := k3c3) (by decide +kernel) rfl rfl rfl (by decide +kernel)
set_option maxRecDepth 65536 in
theorem w_c5 : (Jvm.Cond.code ({ cls := "com/example/pliant/pliant/ml/VectorShare$Plan", name := "nothing", desc := "(IDIZ)Lcom/example/pliant/pliant/ml/VectorShare$Plan;" } : Jvm.MethodName) prog_125_method_3_code (5 : Nat) (Option.some (Jvm.ClassFile.FieldType.object "com/example/pliant/pliant/ml/VectorShare$Plan"))).before args0 about1 = true := code_word (m := ⟨3, 1⟩) (meth := k3m1) (c := k3c1) (by decide +kernel) rfl rfl rfl (by decide +kernel)
set_option maxRecDepth 65536 in
theorem w_c6 : (Jvm.Cond.code ({ cls := "com/example/pliant/pliant/ml/VectorShare$Plan", name := "scaling", desc := "(IDI)Lcom/example/pliant/pliant/ml/VectorShare$Plan;" } : Jvm.MethodName) prog_125_method_4_code (4 : Nat) (Option.some (Jvm.ClassFile.FieldType.object "com/example/pliant/pliant/ml/VectorShare$Plan"))).before args0 about1 = true := code_word (m := ⟨3, 2⟩) (meth := k3m2) (c := k3c2) (by decide +kernel) rfl rfl rfl (by decide +kernel)
def codes1 : List Jvm.Cond := [Jvm.Cond.code x code maxLocals ret, Jvm.Cond.code ({ cls := "com/example/pliant/pliant/ml/VectorShare$Plan", name := "<init>", desc := "(IZIDZ[DZDIZZ)V" } : Jvm.MethodName) prog_125_method_1_code (14 : Nat) (Option.none : Option Jvm.ClassFile.FieldType), Jvm.Cond.code ({ cls := "java/lang/Record", name := "<init>", desc := "()V" } : Jvm.MethodName) jdk_30_method_1_code (1 : Nat) (Option.none : Option Jvm.ClassFile.FieldType), Jvm.Cond.code ({ cls := "java/lang/Object", name := "<init>", desc := "()V" } : Jvm.MethodName) object_method_1_code (1 : Nat) (Option.none : Option Jvm.ClassFile.FieldType), Jvm.Cond.code ({ cls := "com/example/pliant/pliant/ml/VectorShare$Plan", name := "writesNothing", desc := "()Z" } : Jvm.MethodName) prog_125_method_5_code (1 : Nat) (Option.some Jvm.ClassFile.FieldType.boolean), Jvm.Cond.code ({ cls := "com/example/pliant/pliant/ml/VectorShare$Plan", name := "nothing", desc := "(IDIZ)Lcom/example/pliant/pliant/ml/VectorShare$Plan;" } : Jvm.MethodName) prog_125_method_3_code (5 : Nat) (Option.some (Jvm.ClassFile.FieldType.object "com/example/pliant/pliant/ml/VectorShare$Plan")), Jvm.Cond.code ({ cls := "com/example/pliant/pliant/ml/VectorShare$Plan", name := "scaling", desc := "(IDI)Lcom/example/pliant/pliant/ml/VectorShare$Plan;" } : Jvm.MethodName) prog_125_method_4_code (4 : Nat) (Option.some (Jvm.ClassFile.FieldType.object "com/example/pliant/pliant/ml/VectorShare$Plan"))]
set_option maxRecDepth 65536 in
theorem codes_eq : words1.filter isCode = codes1 := rfl
theorem w_codes : ∀ c ∈ words1.filter isCode, c.before args0 about1 = true := by
  rw [codes_eq]
  intro c hc
  simp only [codes1, List.mem_cons, List.not_mem_nil, or_false] at hc
  rcases hc with rfl | rfl | rfl | rfl | rfl | rfl | rfl
  · exact w_c0
  · exact w_c1
  · exact w_c2
  · exact w_c3
  · exact w_c4
  · exact w_c5
  · exact w_c6
set_option maxRecDepth 65536 in
theorem w_t1 : (words1.take 24).all (fun c => isCode c || c.before args0 about1) = true := by decide +kernel
set_option maxRecDepth 65536 in
theorem w_t2 : ((words1.drop 24).take 24).all (fun c => isCode c || c.before args0 about1) = true := by decide +kernel
set_option maxRecDepth 65536 in
theorem w_t3 : ((words1.drop 24).drop 24).all (fun c => isCode c || c.before args0 about1) = true := by decide +kernel
theorem w_tables : (allAtoms (Jvm.Cond.code x code maxLocals ret :: tables_1)).before args0 about1 = true := by
  rw [allAtoms_all]
  show words1.all (fun c => c.before args0 about1) = true
  refine all_split ?_ w_codes
  rw [← List.take_append_drop 24 words1, List.all_append, w_t1, ← List.take_append_drop 24 (words1.drop 24), List.all_append, w_t2, w_t3]
  rfl
set_option maxRecDepth 65536 in
theorem w_case : (Jvm.Cond.and given_1 narrow_1).before args0 about1 = true := by decide +kernel
theorem w_applies : (headSpec (Jvm.Cond.code x code maxLocals ret :: tables_1) room_1).applies x e0.platform about1 = true :=
  (Spec.applies_iff w_frames).mpr ⟨w_running, w_runnable, w_alone, w_named, w_hears, w_ripe, w_room, w_tables⟩
theorem atStart : AtStart classFile x code maxLocals ret World_1 tables_1 room_1 Calls_1 rest_1 Pre_1 launch0 p0 e0 about1 theMethod args0 below0 :=
  ⟨lists_1, trivial, launch0.admits_env _ _ _, launch0.least_env, fairChoices_fair.cas, fairChoices_fair.clock, w_frames, w_args, w_heap, w_applies, trivial, trivial, w_case⟩
end start1
theorem witness_1 : WitnessClaimed_1 := ⟨start1.p0, start1.e0, start1.about1, start1.theMethod, start1.args0, start1.below0, start1.atStart⟩
end Jvm.Pilot.@@N@@
