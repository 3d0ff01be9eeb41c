import JvmDerived
import JvmDerived.Pilot.@@N@@Statement
import JvmDerived.Pilot.@@N@@Code
set_option linter.unusedVariables false
set_option linter.unusedSimpArgs false
namespace Jvm.Own
open Sem ClassFile Op Lib Jvm.Stand Jvm.Free Jvm.LawKit Jvm.RoadKit Jvm.Free.Fl
/-- where a walk stands -/
def St (p : Program) (l : Launch) (e : Env) (R : Room) (s : State) (m : MethodId) (args : Array Value) (below : List Frame) (meth : Method) (c : Code) (Z : State) (B : ByteArray) (own nm : String) (ml : Nat) (ret : Option FieldType) (n0 : Nat) (T : State) (h : Heap) (k n : Nat) : Prop :=
  (p.tables.exec = Jvm.exec ∧ c.code = B ∧ Z.Warmed39 s.vm ∧ s.vm.findClass own = some m.cls ∧ c.maxLocals = ml ∧ meth.sig.returnType = ret ∧ meth.locks = false ∧ meth.name = nm) ∧ ∃ locs, Stand p l e R s m args below meth c T locs k n ∧ T.heap = h ∧ Fr n0 locs
/-- what is left to show of a walk: it ends, and what it leaves is Q -/
def Go (p : Program) (e : Env) (below : List Frame) (s : State) (n0 : Nat) (Q : Option Value → Heap → Prop) (kC kS : Nat) (t : State) : Prop :=
  ∃ s₂ o, Steps p.tables e below t s₂ ∧ s₂.status = .running ∧ Ended s₂ below o ∧ ∃ v L, o = .returned v ∧ (Q v s₂.heap ∧ Fr n0 L) ∧ FrameEnd s o s₂ L kC kS
/-- a body's contract -/
def Con (l : Launch) (Z : State) (y : MethodName) (ws : List Jvm.Cond) (B : ByteArray) (ml : Nat) (ret : Option FieldType) (rm : Room) (as : Array Value) (h0 : Heap) (n0 : Nat) (Q : Option Value → Heap → Prop) : Prop :=
  MetFree l y (head1 (Cond.code y B ml ret :: ws) rm) (fun a U => a = as ∧ Z.Warmed39 U.vm ∧ U.heap = h0) (fun _ _ _ _ _ => True) (fun _ U o U' => ∃ v L, o = .returned v ∧ (Q v U'.heap ∧ Fr n0 L) ∧ FrameEnd U o U' L rm.cells rm.slots)
theorem wd {ws : List Jvm.Cond} {a0 : Array Value} {Z : State} (hw : ∀ d ∈ ws, d.before a0 Z = true) (i : Nat) {d : Jvm.Cond} (q : ws[i]? = some d) : d.before a0 Z = true := hw d (List.mem_of_getElem? q)
section Kit
variable {p : Program} {l : Launch} {e : Env} {R : Room} {s : State} {m : MethodId} {args : Array Value} {below : List Frame} {meth : Method} {c : Code} {Z : State} {B : ByteArray} {own nm : String} {ml : Nat} {ret : Option FieldType} {n0 : Nat} {T : State} {h : Heap} {k n : Nat} {Q : Option Value → Heap → Prop} {kC kS : Nat}
theorem Go.st {t t' : State} (r : Go p e below s n0 Q kC kS t') (q : ∀ u, Steps p.tables e below t' u → Steps p.tables e below t u) : Go p e below s n0 Q kC kS t := by
  obtain ⟨s₂, o, h1, h2⟩ := r; exact ⟨s₂, o, q _ h1, h2⟩
theorem St.more {k' n' : Nat} (X : St p l e R s m args below meth c Z B own nm ml ret n0 T h k n) (hk : k ≤ k') (hn : n ≤ n') : St p l e R s m args below meth c Z B own nm ml ret n0 T h k' n' := by
  obtain ⟨q, locs, X, r⟩ := X; exact ⟨q, locs, X.more hk hn, r⟩
theorem St.z (X : St p l e R s m args below meth c Z B own nm ml ret n0 T h k n) : Z.Warmed39 s.vm := X.1.2.2.1

theorem iloadN (X : St p l e R s m args below meth c Z B own nm ml ret n0 T h k n) {pc : Nat} {Ls : Array Slot} {st : List Value} {j : Fin 4} {v : Int32} (hd : decode B pc = .ok (.iload_n j, 1)) (hl : Ls[j.val]? = some (.val (.int v)))
    (r : Go p e below s n0 Q kC kS (T.setTop (mkF m (pc + 1) Ls (.int v :: st)))) : Go p e below s n0 Q kC kS (T.setTop (mkF m pc Ls (st))) := by
  obtain ⟨⟨hx, rfl, -⟩, locs, X, -⟩ := X
  exact r.st fun u kk => XS.iloadN X.here hx rfl hd hl kk
theorem iload (X : St p l e R s m args below meth c Z B own nm ml ret n0 T h k n) {pc : Nat} {Ls : Array Slot} {st : List Value} {j : Nat} {v : Int32} (hd : decode B pc = .ok (.iload j, 2)) (hl : Ls[j]? = some (.val (.int v)))
    (r : Go p e below s n0 Q kC kS (T.setTop (mkF m (pc + 2) Ls (.int v :: st)))) : Go p e below s n0 Q kC kS (T.setTop (mkF m pc Ls (st))) := by
  obtain ⟨⟨hx, rfl, -⟩, locs, X, -⟩ := X
  exact r.st fun u kk => XS.iload X.here hx rfl hd hl kk
theorem istoreN (X : St p l e R s m args below meth c Z B own nm ml ret n0 T h k n) {pc : Nat} {Ls : Array Slot} {st : List Value} {j : Fin 4} {v : Int32} {l' : Array Slot} (hd : decode B pc = .ok (.istore_n j, 1)) (hl : storeLocals Ls j.val (.int v) = some l')
    (r : Go p e below s n0 Q kC kS (T.setTop (mkF m (pc + 1) l' (st)))) : Go p e below s n0 Q kC kS (T.setTop (mkF m pc Ls (.int v :: st))) := by
  obtain ⟨⟨hx, rfl, -⟩, locs, X, -⟩ := X
  exact r.st fun u kk => XS.istoreN X.here hx rfl hd rfl hl kk
theorem istore (X : St p l e R s m args below meth c Z B own nm ml ret n0 T h k n) {pc : Nat} {Ls : Array Slot} {st : List Value} {j : Nat} {v : Int32} {l' : Array Slot} (hd : decode B pc = .ok (.istore j, 2)) (hl : storeLocals Ls j (.int v) = some l')
    (r : Go p e below s n0 Q kC kS (T.setTop (mkF m (pc + 2) l' (st)))) : Go p e below s n0 Q kC kS (T.setTop (mkF m pc Ls (.int v :: st))) := by
  obtain ⟨⟨hx, rfl, -⟩, locs, X, -⟩ := X
  exact r.st fun u kk => XS.istore X.here hx rfl hd rfl hl kk
theorem lloadN (X : St p l e R s m args below meth c Z B own nm ml ret n0 T h k n) {pc : Nat} {Ls : Array Slot} {st : List Value} {j : Fin 4} {v : Int64} (hd : decode B pc = .ok (.lload_n j, 1)) (hl : Ls[j.val]? = some (.val (.long v)))
    (r : Go p e below s n0 Q kC kS (T.setTop (mkF m (pc + 1) Ls (.long v :: st)))) : Go p e below s n0 Q kC kS (T.setTop (mkF m pc Ls (st))) := by
  obtain ⟨⟨hx, rfl, -⟩, locs, X, -⟩ := X
  exact r.st fun u kk => XS.lloadN X.here hx rfl hd hl kk
theorem lload (X : St p l e R s m args below meth c Z B own nm ml ret n0 T h k n) {pc : Nat} {Ls : Array Slot} {st : List Value} {j : Nat} {v : Int64} (hd : decode B pc = .ok (.lload j, 2)) (hl : Ls[j]? = some (.val (.long v)))
    (r : Go p e below s n0 Q kC kS (T.setTop (mkF m (pc + 2) Ls (.long v :: st)))) : Go p e below s n0 Q kC kS (T.setTop (mkF m pc Ls (st))) := by
  obtain ⟨⟨hx, rfl, -⟩, locs, X, -⟩ := X
  exact r.st fun u kk => XS.lload X.here hx rfl hd hl kk
theorem lstoreN (X : St p l e R s m args below meth c Z B own nm ml ret n0 T h k n) {pc : Nat} {Ls : Array Slot} {st : List Value} {j : Fin 4} {v : Int64} {l' : Array Slot} (hd : decode B pc = .ok (.lstore_n j, 1)) (hl : storeLocals Ls j.val (.long v) = some l')
    (r : Go p e below s n0 Q kC kS (T.setTop (mkF m (pc + 1) l' (st)))) : Go p e below s n0 Q kC kS (T.setTop (mkF m pc Ls (.long v :: st))) := by
  obtain ⟨⟨hx, rfl, -⟩, locs, X, -⟩ := X
  exact r.st fun u kk => XS.lstoreN X.here hx rfl hd rfl hl kk
theorem lstore (X : St p l e R s m args below meth c Z B own nm ml ret n0 T h k n) {pc : Nat} {Ls : Array Slot} {st : List Value} {j : Nat} {v : Int64} {l' : Array Slot} (hd : decode B pc = .ok (.lstore j, 2)) (hl : storeLocals Ls j (.long v) = some l')
    (r : Go p e below s n0 Q kC kS (T.setTop (mkF m (pc + 2) l' (st)))) : Go p e below s n0 Q kC kS (T.setTop (mkF m pc Ls (.long v :: st))) := by
  obtain ⟨⟨hx, rfl, -⟩, locs, X, -⟩ := X
  exact r.st fun u kk => XS.lstore X.here hx rfl hd rfl hl kk
theorem dloadN (X : St p l e R s m args below meth c Z B own nm ml ret n0 T h k n) {pc : Nat} {Ls : Array Slot} {st : List Value} {j : Fin 4} {v : UInt64} (hd : decode B pc = .ok (.dload_n j, 1)) (hl : Ls[j.val]? = some (.val (.double v)))
    (r : Go p e below s n0 Q kC kS (T.setTop (mkF m (pc + 1) Ls (.double v :: st)))) : Go p e below s n0 Q kC kS (T.setTop (mkF m pc Ls (st))) := by
  obtain ⟨⟨hx, rfl, -⟩, locs, X, -⟩ := X
  exact r.st fun u kk => XS.dloadN X.here hx rfl hd hl kk
theorem dload (X : St p l e R s m args below meth c Z B own nm ml ret n0 T h k n) {pc : Nat} {Ls : Array Slot} {st : List Value} {j : Nat} {v : UInt64} (hd : decode B pc = .ok (.dload j, 2)) (hl : Ls[j]? = some (.val (.double v)))
    (r : Go p e below s n0 Q kC kS (T.setTop (mkF m (pc + 2) Ls (.double v :: st)))) : Go p e below s n0 Q kC kS (T.setTop (mkF m pc Ls (st))) := by
  obtain ⟨⟨hx, rfl, -⟩, locs, X, -⟩ := X
  exact r.st fun u kk => XS.dload X.here hx rfl hd hl kk
theorem dstoreN (X : St p l e R s m args below meth c Z B own nm ml ret n0 T h k n) {pc : Nat} {Ls : Array Slot} {st : List Value} {j : Fin 4} {v : UInt64} {l' : Array Slot} (hd : decode B pc = .ok (.dstore_n j, 1)) (hl : storeLocals Ls j.val (.double v) = some l')
    (r : Go p e below s n0 Q kC kS (T.setTop (mkF m (pc + 1) l' (st)))) : Go p e below s n0 Q kC kS (T.setTop (mkF m pc Ls (.double v :: st))) := by
  obtain ⟨⟨hx, rfl, -⟩, locs, X, -⟩ := X
  exact r.st fun u kk => XS.dstoreN X.here hx rfl hd rfl hl kk
theorem dstore (X : St p l e R s m args below meth c Z B own nm ml ret n0 T h k n) {pc : Nat} {Ls : Array Slot} {st : List Value} {j : Nat} {v : UInt64} {l' : Array Slot} (hd : decode B pc = .ok (.dstore j, 2)) (hl : storeLocals Ls j (.double v) = some l')
    (r : Go p e below s n0 Q kC kS (T.setTop (mkF m (pc + 2) l' (st)))) : Go p e below s n0 Q kC kS (T.setTop (mkF m pc Ls (.double v :: st))) := by
  obtain ⟨⟨hx, rfl, -⟩, locs, X, -⟩ := X
  exact r.st fun u kk => XS.dstore X.here hx rfl hd rfl hl kk
theorem aloadN (X : St p l e R s m args below meth c Z B own nm ml ret n0 T h k n) {pc : Nat} {Ls : Array Slot} {st : List Value} {j : Fin 4} {v : Value} (hd : decode B pc = .ok (.aload_n j, 1)) (hl : Ls[j.val]? = some (.val v)) (hv : v.isRef = true)
    (r : Go p e below s n0 Q kC kS (T.setTop (mkF m (pc + 1) Ls (v :: st)))) : Go p e below s n0 Q kC kS (T.setTop (mkF m pc Ls (st))) := by
  obtain ⟨⟨hx, rfl, -⟩, locs, X, -⟩ := X
  exact r.st fun u kk => XS.aloadN X.here hx rfl hd hl hv kk
theorem aload (X : St p l e R s m args below meth c Z B own nm ml ret n0 T h k n) {pc : Nat} {Ls : Array Slot} {st : List Value} {j : Nat} {v : Value} (hd : decode B pc = .ok (.aload j, 2)) (hl : Ls[j]? = some (.val v)) (hv : v.isRef = true)
    (r : Go p e below s n0 Q kC kS (T.setTop (mkF m (pc + 2) Ls (v :: st)))) : Go p e below s n0 Q kC kS (T.setTop (mkF m pc Ls (st))) := by
  obtain ⟨⟨hx, rfl, -⟩, locs, X, -⟩ := X
  exact r.st fun u kk => XS.aload X.here hx rfl hd hl hv kk
theorem astoreN (X : St p l e R s m args below meth c Z B own nm ml ret n0 T h k n) {pc : Nat} {Ls : Array Slot} {st : List Value} {j : Fin 4} {v : Value} {l' : Array Slot} (hd : decode B pc = .ok (.astore_n j, 1)) (hv : v.isRef = true) (hl : storeLocals Ls j.val v = some l')
    (r : Go p e below s n0 Q kC kS (T.setTop (mkF m (pc + 1) l' (st)))) : Go p e below s n0 Q kC kS (T.setTop (mkF m pc Ls (v :: st))) := by
  obtain ⟨⟨hx, rfl, -⟩, locs, X, -⟩ := X
  exact r.st fun u kk => XS.astoreN X.here hx rfl hd rfl hv hl kk
theorem astore (X : St p l e R s m args below meth c Z B own nm ml ret n0 T h k n) {pc : Nat} {Ls : Array Slot} {st : List Value} {j : Nat} {v : Value} {l' : Array Slot} (hd : decode B pc = .ok (.astore j, 2)) (hv : v.isRef = true) (hl : storeLocals Ls j v = some l')
    (r : Go p e below s n0 Q kC kS (T.setTop (mkF m (pc + 2) l' (st)))) : Go p e below s n0 Q kC kS (T.setTop (mkF m pc Ls (v :: st))) := by
  obtain ⟨⟨hx, rfl, -⟩, locs, X, -⟩ := X
  exact r.st fun u kk => XS.astore X.here hx rfl hd rfl hv hl kk
theorem iconst (X : St p l e R s m args below meth c Z B own nm ml ret n0 T h k n) {pc : Nat} {Ls : Array Slot} {st : List Value} {i : Int} (v : Int32) (hd : decode B pc = .ok (.iconst i, 1)) (hv : Int32.ofInt i = v)
    (r : Go p e below s n0 Q kC kS (T.setTop (mkF m (pc + 1) Ls (.int v :: st)))) : Go p e below s n0 Q kC kS (T.setTop (mkF m pc Ls (st))) := by
  obtain ⟨⟨hx, rfl, -⟩, locs, X, -⟩ := X
  subst hv
  exact r.st fun u kk => XS.iconst X.here hx rfl hd kk
theorem bipush (X : St p l e R s m args below meth c Z B own nm ml ret n0 T h k n) {pc : Nat} {Ls : Array Slot} {st : List Value} {i : Int} (v : Int32) (hd : decode B pc = .ok (.bipush i, 2)) (hv : (Int8.ofInt i).toInt32 = v)
    (r : Go p e below s n0 Q kC kS (T.setTop (mkF m (pc + 2) Ls (.int v :: st)))) : Go p e below s n0 Q kC kS (T.setTop (mkF m pc Ls (st))) := by
  obtain ⟨⟨hx, rfl, -⟩, locs, X, -⟩ := X
  subst hv
  exact r.st fun u kk => XS.bipush X.here hx rfl hd kk
theorem sipush (X : St p l e R s m args below meth c Z B own nm ml ret n0 T h k n) {pc : Nat} {Ls : Array Slot} {st : List Value} {i : Int} (v : Int32) (hd : decode B pc = .ok (.sipush i, 3)) (hv : (Int16.ofInt i).toInt32 = v)
    (r : Go p e below s n0 Q kC kS (T.setTop (mkF m (pc + 3) Ls (.int v :: st)))) : Go p e below s n0 Q kC kS (T.setTop (mkF m pc Ls (st))) := by
  obtain ⟨⟨hx, rfl, -⟩, locs, X, -⟩ := X
  subst hv
  exact r.st fun u kk => XS.sipush X.here hx rfl hd kk
theorem lconst (X : St p l e R s m args below meth c Z B own nm ml ret n0 T h k n) {pc : Nat} {Ls : Array Slot} {st : List Value} {i : Fin 2} (v : Int64) (hd : decode B pc = .ok (.lconst i, 1)) (hv : Int64.ofNat i = v)
    (r : Go p e below s n0 Q kC kS (T.setTop (mkF m (pc + 1) Ls (.long v :: st)))) : Go p e below s n0 Q kC kS (T.setTop (mkF m pc Ls (st))) := by
  obtain ⟨⟨hx, rfl, -⟩, locs, X, -⟩ := X
  subst hv
  exact r.st fun u kk => XS.lconst X.here hx rfl hd kk
theorem dconst0 (X : St p l e R s m args below meth c Z B own nm ml ret n0 T h k n) {pc : Nat} {Ls : Array Slot} {st : List Value}  (hd : decode B pc = .ok (.dconst 0, 1)) 
    (r : Go p e below s n0 Q kC kS (T.setTop (mkF m (pc + 1) Ls (.double 0 :: st)))) : Go p e below s n0 Q kC kS (T.setTop (mkF m pc Ls (st))) := by
  obtain ⟨⟨hx, rfl, -⟩, locs, X, -⟩ := X
  exact r.st fun u kk => XS.dconst0 X.here hx rfl hd rfl kk
theorem dconst1 (X : St p l e R s m args below meth c Z B own nm ml ret n0 T h k n) {pc : Nat} {Ls : Array Slot} {st : List Value}  (hd : decode B pc = .ok (.dconst 1, 1)) 
    (r : Go p e below s n0 Q kC kS (T.setTop (mkF m (pc + 1) Ls (.double 4607182418800017408 :: st)))) : Go p e below s n0 Q kC kS (T.setTop (mkF m pc Ls (st))) := by
  obtain ⟨⟨hx, rfl, -⟩, locs, X, -⟩ := X
  exact r.st fun u kk => XS.dconst1 X.here hx rfl hd rfl kk
theorem aconstNull (X : St p l e R s m args below meth c Z B own nm ml ret n0 T h k n) {pc : Nat} {Ls : Array Slot} {st : List Value}  (hd : decode B pc = .ok (.aconst_null, 1)) 
    (r : Go p e below s n0 Q kC kS (T.setTop (mkF m (pc + 1) Ls (.null :: st)))) : Go p e below s n0 Q kC kS (T.setTop (mkF m pc Ls (st))) := by
  obtain ⟨⟨hx, rfl, -⟩, locs, X, -⟩ := X
  exact r.st fun u kk => XS.aconstNull X.here hx rfl hd kk
theorem iadd (X : St p l e R s m args below meth c Z B own nm ml ret n0 T h k n) {pc : Nat} {Ls : Array Slot} {st : List Value} {x y : Int32} (hd : decode B pc = .ok (.iadd, 1)) 
    (r : Go p e below s n0 Q kC kS (T.setTop (mkF m (pc + 1) Ls (.int (x + y) :: st)))) : Go p e below s n0 Q kC kS (T.setTop (mkF m pc Ls (.int y :: .int x :: st))) := by
  obtain ⟨⟨hx, rfl, -⟩, locs, X, -⟩ := X
  exact r.st fun u kk => XS.iadd X.here hx rfl hd rfl kk
theorem isub (X : St p l e R s m args below meth c Z B own nm ml ret n0 T h k n) {pc : Nat} {Ls : Array Slot} {st : List Value} {x y : Int32} (hd : decode B pc = .ok (.isub, 1)) 
    (r : Go p e below s n0 Q kC kS (T.setTop (mkF m (pc + 1) Ls (.int (x - y) :: st)))) : Go p e below s n0 Q kC kS (T.setTop (mkF m pc Ls (.int y :: .int x :: st))) := by
  obtain ⟨⟨hx, rfl, -⟩, locs, X, -⟩ := X
  exact r.st fun u kk => XS.isub X.here hx rfl hd rfl kk
theorem imul (X : St p l e R s m args below meth c Z B own nm ml ret n0 T h k n) {pc : Nat} {Ls : Array Slot} {st : List Value} {x y : Int32} (hd : decode B pc = .ok (.imul, 1)) 
    (r : Go p e below s n0 Q kC kS (T.setTop (mkF m (pc + 1) Ls (.int (x * y) :: st)))) : Go p e below s n0 Q kC kS (T.setTop (mkF m pc Ls (.int y :: .int x :: st))) := by
  obtain ⟨⟨hx, rfl, -⟩, locs, X, -⟩ := X
  exact r.st fun u kk => XS.imul X.here hx rfl hd rfl kk
theorem iand (X : St p l e R s m args below meth c Z B own nm ml ret n0 T h k n) {pc : Nat} {Ls : Array Slot} {st : List Value} {x y : Int32} (hd : decode B pc = .ok (.iand, 1)) 
    (r : Go p e below s n0 Q kC kS (T.setTop (mkF m (pc + 1) Ls (.int (x &&& y) :: st)))) : Go p e below s n0 Q kC kS (T.setTop (mkF m pc Ls (.int y :: .int x :: st))) := by
  obtain ⟨⟨hx, rfl, -⟩, locs, X, -⟩ := X
  exact r.st fun u kk => XS.iand X.here hx rfl hd rfl kk
theorem ior (X : St p l e R s m args below meth c Z B own nm ml ret n0 T h k n) {pc : Nat} {Ls : Array Slot} {st : List Value} {x y : Int32} (hd : decode B pc = .ok (.ior, 1)) 
    (r : Go p e below s n0 Q kC kS (T.setTop (mkF m (pc + 1) Ls (.int (x ||| y) :: st)))) : Go p e below s n0 Q kC kS (T.setTop (mkF m pc Ls (.int y :: .int x :: st))) := by
  obtain ⟨⟨hx, rfl, -⟩, locs, X, -⟩ := X
  exact r.st fun u kk => Jvm.Free.XT.ior X.here hx rfl hd rfl kk
theorem ixor (X : St p l e R s m args below meth c Z B own nm ml ret n0 T h k n) {pc : Nat} {Ls : Array Slot} {st : List Value} {x y : Int32} (hd : decode B pc = .ok (.ixor, 1)) 
    (r : Go p e below s n0 Q kC kS (T.setTop (mkF m (pc + 1) Ls (.int (x ^^^ y) :: st)))) : Go p e below s n0 Q kC kS (T.setTop (mkF m pc Ls (.int y :: .int x :: st))) := by
  obtain ⟨⟨hx, rfl, -⟩, locs, X, -⟩ := X
  exact r.st fun u kk => Jvm.Free.XT.ixor X.here hx rfl hd rfl kk
theorem ishl (X : St p l e R s m args below meth c Z B own nm ml ret n0 T h k n) {pc : Nat} {Ls : Array Slot} {st : List Value} {x y : Int32} (hd : decode B pc = .ok (.ishl, 1)) 
    (r : Go p e below s n0 Q kC kS (T.setTop (mkF m (pc + 1) Ls (.int (x <<< (y &&& 31)) :: st)))) : Go p e below s n0 Q kC kS (T.setTop (mkF m pc Ls (.int y :: .int x :: st))) := by
  obtain ⟨⟨hx, rfl, -⟩, locs, X, -⟩ := X
  exact r.st fun u kk => Jvm.Free.XT.ishl X.here hx rfl hd rfl kk
theorem ishr (X : St p l e R s m args below meth c Z B own nm ml ret n0 T h k n) {pc : Nat} {Ls : Array Slot} {st : List Value} {x y : Int32} (hd : decode B pc = .ok (.ishr, 1)) 
    (r : Go p e below s n0 Q kC kS (T.setTop (mkF m (pc + 1) Ls (.int (x >>> (y &&& 31)) :: st)))) : Go p e below s n0 Q kC kS (T.setTop (mkF m pc Ls (.int y :: .int x :: st))) := by
  obtain ⟨⟨hx, rfl, -⟩, locs, X, -⟩ := X
  exact r.st fun u kk => Jvm.Free.XT.ishr X.here hx rfl hd rfl kk
theorem iushr (X : St p l e R s m args below meth c Z B own nm ml ret n0 T h k n) {pc : Nat} {Ls : Array Slot} {st : List Value} {x y : Int32} (hd : decode B pc = .ok (.iushr, 1)) 
    (r : Go p e below s n0 Q kC kS (T.setTop (mkF m (pc + 1) Ls (.int (Jvm.Free.XT.ushr x y) :: st)))) : Go p e below s n0 Q kC kS (T.setTop (mkF m pc Ls (.int y :: .int x :: st))) := by
  obtain ⟨⟨hx, rfl, -⟩, locs, X, -⟩ := X
  exact r.st fun u kk => Jvm.Free.XT.iushr X.here hx rfl hd rfl kk
theorem irem (X : St p l e R s m args below meth c Z B own nm ml ret n0 T h k n) {pc : Nat} {Ls : Array Slot} {st : List Value} {x y : Int32} (hd : decode B pc = .ok (.irem, 1)) (hy : y ≠ 0)
    (r : Go p e below s n0 Q kC kS (T.setTop (mkF m (pc + 1) Ls (.int (x % y) :: st)))) : Go p e below s n0 Q kC kS (T.setTop (mkF m pc Ls (.int y :: .int x :: st))) := by
  obtain ⟨⟨hx, rfl, -⟩, locs, X, -⟩ := X
  exact r.st fun u kk => iremM X hx rfl hd rfl hy kk
theorem ladd (X : St p l e R s m args below meth c Z B own nm ml ret n0 T h k n) {pc : Nat} {Ls : Array Slot} {st : List Value} {x y : Int64} (hd : decode B pc = .ok (.ladd, 1)) 
    (r : Go p e below s n0 Q kC kS (T.setTop (mkF m (pc + 1) Ls (.long (x + y) :: st)))) : Go p e below s n0 Q kC kS (T.setTop (mkF m pc Ls (.long y :: .long x :: st))) := by
  obtain ⟨⟨hx, rfl, -⟩, locs, X, -⟩ := X
  exact r.st fun u kk => Jvm.Free.XT.ladd X.here hx rfl hd rfl kk
theorem lsub (X : St p l e R s m args below meth c Z B own nm ml ret n0 T h k n) {pc : Nat} {Ls : Array Slot} {st : List Value} {x y : Int64} (hd : decode B pc = .ok (.lsub, 1)) 
    (r : Go p e below s n0 Q kC kS (T.setTop (mkF m (pc + 1) Ls (.long (x - y) :: st)))) : Go p e below s n0 Q kC kS (T.setTop (mkF m pc Ls (.long y :: .long x :: st))) := by
  obtain ⟨⟨hx, rfl, -⟩, locs, X, -⟩ := X
  exact r.st fun u kk => Jvm.Free.XT.lsub X.here hx rfl hd rfl kk
theorem lmul (X : St p l e R s m args below meth c Z B own nm ml ret n0 T h k n) {pc : Nat} {Ls : Array Slot} {st : List Value} {x y : Int64} (hd : decode B pc = .ok (.lmul, 1)) 
    (r : Go p e below s n0 Q kC kS (T.setTop (mkF m (pc + 1) Ls (.long (x * y) :: st)))) : Go p e below s n0 Q kC kS (T.setTop (mkF m pc Ls (.long y :: .long x :: st))) := by
  obtain ⟨⟨hx, rfl, -⟩, locs, X, -⟩ := X
  exact r.st fun u kk => Jvm.Free.XT.lmul X.here hx rfl hd rfl kk
theorem land (X : St p l e R s m args below meth c Z B own nm ml ret n0 T h k n) {pc : Nat} {Ls : Array Slot} {st : List Value} {x y : Int64} (hd : decode B pc = .ok (.land, 1)) 
    (r : Go p e below s n0 Q kC kS (T.setTop (mkF m (pc + 1) Ls (.long (x &&& y) :: st)))) : Go p e below s n0 Q kC kS (T.setTop (mkF m pc Ls (.long y :: .long x :: st))) := by
  obtain ⟨⟨hx, rfl, -⟩, locs, X, -⟩ := X
  exact r.st fun u kk => Jvm.Free.XT.land X.here hx rfl hd rfl kk
theorem lrem (X : St p l e R s m args below meth c Z B own nm ml ret n0 T h k n) {pc : Nat} {Ls : Array Slot} {st : List Value} {x y : Int64} (hd : decode B pc = .ok (.lrem, 1)) (hy : y ≠ 0)
    (r : Go p e below s n0 Q kC kS (T.setTop (mkF m (pc + 1) Ls (.long (x - (x / y) * y) :: st)))) : Go p e below s n0 Q kC kS (T.setTop (mkF m pc Ls (.long y :: .long x :: st))) := by
  obtain ⟨⟨hx, rfl, -⟩, locs, X, -⟩ := X
  exact r.st fun u kk => Jvm.Free.XT.lrem X.here hx rfl hd rfl hy kk
theorem lneg (X : St p l e R s m args below meth c Z B own nm ml ret n0 T h k n) {pc : Nat} {Ls : Array Slot} {st : List Value} {x : Int64} (hd : decode B pc = .ok (.lneg, 1)) 
    (r : Go p e below s n0 Q kC kS (T.setTop (mkF m (pc + 1) Ls (.long (-x) :: st)))) : Go p e below s n0 Q kC kS (T.setTop (mkF m pc Ls (.long x :: st))) := by
  obtain ⟨⟨hx, rfl, -⟩, locs, X, -⟩ := X
  exact r.st fun u kk => Jvm.Free.XT.lneg X.here hx rfl hd rfl kk
theorem i2l (X : St p l e R s m args below meth c Z B own nm ml ret n0 T h k n) {pc : Nat} {Ls : Array Slot} {st : List Value} {x : Int32} (hd : decode B pc = .ok (.i2l, 1)) 
    (r : Go p e below s n0 Q kC kS (T.setTop (mkF m (pc + 1) Ls (.long (x.toInt64) :: st)))) : Go p e below s n0 Q kC kS (T.setTop (mkF m pc Ls (.int x :: st))) := by
  obtain ⟨⟨hx, rfl, -⟩, locs, X, -⟩ := X
  exact r.st fun u kk => Jvm.Free.XT.i2l X.here hx rfl hd rfl kk
theorem l2i (X : St p l e R s m args below meth c Z B own nm ml ret n0 T h k n) {pc : Nat} {Ls : Array Slot} {st : List Value} {x : Int64} (hd : decode B pc = .ok (.l2i, 1)) 
    (r : Go p e below s n0 Q kC kS (T.setTop (mkF m (pc + 1) Ls (.int (x.toInt32) :: st)))) : Go p e below s n0 Q kC kS (T.setTop (mkF m pc Ls (.long x :: st))) := by
  obtain ⟨⟨hx, rfl, -⟩, locs, X, -⟩ := X
  exact r.st fun u kk => Jvm.Free.XT.l2i X.here hx rfl hd rfl kk
theorem i2s (X : St p l e R s m args below meth c Z B own nm ml ret n0 T h k n) {pc : Nat} {Ls : Array Slot} {st : List Value} {x : Int32} (hd : decode B pc = .ok (.i2s, 1)) 
    (r : Go p e below s n0 Q kC kS (T.setTop (mkF m (pc + 1) Ls (.int (x.toInt16.toInt32) :: st)))) : Go p e below s n0 Q kC kS (T.setTop (mkF m pc Ls (.int x :: st))) := by
  obtain ⟨⟨hx, rfl, -⟩, locs, X, -⟩ := X
  exact r.st fun u kk => Jvm.Free.XT.i2s X.here hx rfl hd rfl kk
theorem i2c (X : St p l e R s m args below meth c Z B own nm ml ret n0 T h k n) {pc : Nat} {Ls : Array Slot} {st : List Value} {x : Int32} (hd : decode B pc = .ok (.i2c, 1)) 
    (r : Go p e below s n0 Q kC kS (T.setTop (mkF m (pc + 1) Ls (.int (x.toUInt32.toUInt16.toUInt32.toInt32) :: st)))) : Go p e below s n0 Q kC kS (T.setTop (mkF m pc Ls (.int x :: st))) := by
  obtain ⟨⟨hx, rfl, -⟩, locs, X, -⟩ := X
  exact r.st fun u kk => Jvm.Free.XT.i2c X.here hx rfl hd rfl kk
theorem lshr (X : St p l e R s m args below meth c Z B own nm ml ret n0 T h k n) {pc : Nat} {Ls : Array Slot} {st : List Value} {x : Int64} {y : Int32} (hd : decode B pc = .ok (.lshr, 1)) 
    (r : Go p e below s n0 Q kC kS (T.setTop (mkF m (pc + 1) Ls (.long (x >>> (y.toInt64 &&& 63)) :: st)))) : Go p e below s n0 Q kC kS (T.setTop (mkF m pc Ls (.int y :: .long x :: st))) := by
  obtain ⟨⟨hx, rfl, -⟩, locs, X, -⟩ := X
  exact r.st fun u kk => Jvm.Free.XT.lshr X.here hx rfl hd rfl kk
theorem lshl (X : St p l e R s m args below meth c Z B own nm ml ret n0 T h k n) {pc : Nat} {Ls : Array Slot} {st : List Value} {x : Int64} {y : Int32} (hd : decode B pc = .ok (.lshl, 1)) 
    (r : Go p e below s n0 Q kC kS (T.setTop (mkF m (pc + 1) Ls (.long (x <<< (y.toInt64 &&& 63)) :: st)))) : Go p e below s n0 Q kC kS (T.setTop (mkF m pc Ls (.int y :: .long x :: st))) := by
  obtain ⟨⟨hx, rfl, -⟩, locs, X, -⟩ := X
  exact r.st fun u kk => Jvm.Free.XT.lshl X.here hx rfl hd rfl kk
theorem i2d (X : St p l e R s m args below meth c Z B own nm ml ret n0 T h k n) {pc : Nat} {Ls : Array Slot} {st : List Value} {x : Int32} {v : UInt64} (hd : decode B pc = .ok (.i2d, 1)) (hv : FP.i2d x = v)
    (r : Go p e below s n0 Q kC kS (T.setTop (mkF m (pc + 1) Ls (.double v :: st)))) : Go p e below s n0 Q kC kS (T.setTop (mkF m pc Ls (.int x :: st))) := by
  obtain ⟨⟨hx, rfl, -⟩, locs, X, -⟩ := X
  exact r.st fun u kk => XS.i2dS X.here hx rfl hd rfl hv kk
theorem l2d (X : St p l e R s m args below meth c Z B own nm ml ret n0 T h k n) {pc : Nat} {Ls : Array Slot} {st : List Value} {x : Int64} {v : UInt64} (hd : decode B pc = .ok (.l2d, 1)) (hv : FP.l2d x = v)
    (r : Go p e below s n0 Q kC kS (T.setTop (mkF m (pc + 1) Ls (.double v :: st)))) : Go p e below s n0 Q kC kS (T.setTop (mkF m pc Ls (.long x :: st))) := by
  obtain ⟨⟨hx, rfl, -⟩, locs, X, -⟩ := X
  exact r.st fun u kk => XS.l2dS X.here hx rfl hd rfl hv kk
theorem dneg (X : St p l e R s m args below meth c Z B own nm ml ret n0 T h k n) {pc : Nat} {Ls : Array Slot} {st : List Value} {x v : UInt64} (hd : decode B pc = .ok (.dneg, 1)) (hv : FP.dneg x = v)
    (r : Go p e below s n0 Q kC kS (T.setTop (mkF m (pc + 1) Ls (.double v :: st)))) : Go p e below s n0 Q kC kS (T.setTop (mkF m pc Ls (.double x :: st))) := by
  obtain ⟨⟨hx, rfl, -⟩, locs, X, -⟩ := X
  exact r.st fun u kk => XS.dnegS X.here hx rfl hd rfl hv kk
theorem dadd (X : St p l e R s m args below meth c Z B own nm ml ret n0 T h k n) {pc : Nat} {Ls : Array Slot} {st : List Value} {x y v : UInt64} (hd : decode B pc = .ok (.dadd, 1)) (hv : FP.dadd x y = v) (hn : NoNaN64 v)
    (r : Go p e below s n0 Q kC kS (T.setTop (mkF m (pc + 1) Ls (.double v :: st)))) : Go p e below s n0 Q kC kS (T.setTop (mkF m pc Ls (.double y :: .double x :: st))) := by
  obtain ⟨⟨hx, rfl, -⟩, locs, X, -⟩ := X
  exact r.st fun u kk => XS.daddS X.here hx rfl hd rfl (hv.symm ▸ hn) hv kk
theorem dsub (X : St p l e R s m args below meth c Z B own nm ml ret n0 T h k n) {pc : Nat} {Ls : Array Slot} {st : List Value} {x y v : UInt64} (hd : decode B pc = .ok (.dsub, 1)) (hv : FP.dsub x y = v) (hn : NoNaN64 v)
    (r : Go p e below s n0 Q kC kS (T.setTop (mkF m (pc + 1) Ls (.double v :: st)))) : Go p e below s n0 Q kC kS (T.setTop (mkF m pc Ls (.double y :: .double x :: st))) := by
  obtain ⟨⟨hx, rfl, -⟩, locs, X, -⟩ := X
  exact r.st fun u kk => XS.dsubS X.here hx rfl hd rfl (hv.symm ▸ hn) hv kk
theorem dmul (X : St p l e R s m args below meth c Z B own nm ml ret n0 T h k n) {pc : Nat} {Ls : Array Slot} {st : List Value} {x y v : UInt64} (hd : decode B pc = .ok (.dmul, 1)) (hv : FP.dmul x y = v) (hn : NoNaN64 v)
    (r : Go p e below s n0 Q kC kS (T.setTop (mkF m (pc + 1) Ls (.double v :: st)))) : Go p e below s n0 Q kC kS (T.setTop (mkF m pc Ls (.double y :: .double x :: st))) := by
  obtain ⟨⟨hx, rfl, -⟩, locs, X, -⟩ := X
  exact r.st fun u kk => XS.dmulS X.here hx rfl hd rfl (hv.symm ▸ hn) hv kk
theorem ddiv (X : St p l e R s m args below meth c Z B own nm ml ret n0 T h k n) {pc : Nat} {Ls : Array Slot} {st : List Value} {x y v : UInt64} (hd : decode B pc = .ok (.ddiv, 1)) (hv : FP.ddiv x y = v) (hn : NoNaN64 v)
    (r : Go p e below s n0 Q kC kS (T.setTop (mkF m (pc + 1) Ls (.double v :: st)))) : Go p e below s n0 Q kC kS (T.setTop (mkF m pc Ls (.double y :: .double x :: st))) := by
  obtain ⟨⟨hx, rfl, -⟩, locs, X, -⟩ := X
  exact r.st fun u kk => XS.ddivS X.here hx rfl hd rfl (hv.symm ▸ hn) hv kk
theorem dup (X : St p l e R s m args below meth c Z B own nm ml ret n0 T h k n) {pc : Nat} {Ls : Array Slot} {st : List Value} {x : Value} (hd : decode B pc = .ok (.dup, 1)) (hc : x.category = 1)
    (r : Go p e below s n0 Q kC kS (T.setTop (mkF m (pc + 1) Ls (x :: x :: st)))) : Go p e below s n0 Q kC kS (T.setTop (mkF m pc Ls (x :: st))) := by
  obtain ⟨⟨hx, rfl, -⟩, locs, X, -⟩ := X
  exact r.st fun u kk => XS.dup X.here hx rfl hd rfl hc kk
theorem pop (X : St p l e R s m args below meth c Z B own nm ml ret n0 T h k n) {pc : Nat} {Ls : Array Slot} {st : List Value} {x : Value} (hd : decode B pc = .ok (.pop, 1)) (hc : x.category = 1)
    (r : Go p e below s n0 Q kC kS (T.setTop (mkF m (pc + 1) Ls (st)))) : Go p e below s n0 Q kC kS (T.setTop (mkF m pc Ls (x :: st))) := by
  obtain ⟨⟨hx, rfl, -⟩, locs, X, -⟩ := X
  exact r.st fun u kk => Jvm.Free.XT.pop X.here hx rfl hd rfl hc kk
theorem iinc (X : St p l e R s m args below meth c Z B own nm ml ret n0 T h k n) {pc : Nat} {Ls : Array Slot} {st : List Value} {j : Nat} {cst : Int} {x : Int32} {l' : Array Slot} (hd : decode B pc = .ok (.iinc j cst, 3)) (hl : Ls[j]? = some (.val (.int x))) (hl' : storeLocals Ls j (.int (x + Int32.ofInt cst)) = some l')
    (r : Go p e below s n0 Q kC kS (T.setTop (mkF m (pc + 3) l' (st)))) : Go p e below s n0 Q kC kS (T.setTop (mkF m pc Ls (st))) := by
  obtain ⟨⟨hx, rfl, -⟩, locs, X, -⟩ := X
  exact r.st fun u kk => XS.iinc X.here hx rfl hd hl hl' kk
theorem goto_ (X : St p l e R s m args below meth c Z B own nm ml ret n0 T h k n) {pc pc' : Nat} {Ls : Array Slot} {st : List Value} {o : Int} (hd : decode B pc = .ok (.goto o, 3)) (hp : (decide (0 ≤ (pc : Int) + o) && decide (((pc : Int) + o).toNat = pc')) = true)
    (r : Go p e below s n0 Q kC kS (T.setTop (mkF m pc' Ls st))) : Go p e below s n0 Q kC kS (T.setTop (mkF m pc Ls st)) := by
  obtain ⟨⟨hx, rfl, -⟩, locs, X, -⟩ := X
  simp only [Bool.and_eq_true, decide_eq_true_eq] at hp
  exact r.st fun u kk => XS.goto X.here hx rfl rfl hd hp.1 hp.2 kk
/-- what a comparison asks, of whole numbers -/
def cmpI : ClassFile.Cond → Int → Int → Prop
  | .eq, a, b => a = b
  | .ne, a, b => ¬ (a = b)
  | .lt, a, b => a < b
  | .ge, a, b => b ≤ a
  | .gt, a, b => b < a
  | .le, a, b => a ≤ b
theorem holds_I (cd : ClassFile.Cond) (x y : Int32) : if_icmp.holds cd x y = true ↔ cmpI cd x.toInt y.toInt := by
  cases cd <;> simp [if_icmp.holds, cmpI, Int32.lt_iff_toInt_lt, Int32.le_iff_toInt_le, ← Int32.toInt_inj]
theorem holds_0 (cd : ClassFile.Cond) (x : Int32) : ifCond.holds cd x = true ↔ cmpI cd x.toInt 0 := by
  rw [if0]; exact holds_I cd x 0
theorem iff_ (X : St p l e R s m args below meth c Z B own nm ml ret n0 T h k n) {pc pc' : Nat} {Ls : Array Slot} {st : List Value} {cd : ClassFile.Cond} {o : Int} {x : Int32} (hd : decode B pc = .ok (.ifCond cd o, 3)) (hp : (decide (0 ≤ (pc : Int) + o) && decide (((pc : Int) + o).toNat = pc')) = true)
    (r1 : cmpI cd x.toInt 0 → Go p e below s n0 Q kC kS (T.setTop (mkF m pc' Ls st))) (r2 : ¬ cmpI cd x.toInt 0 → Go p e below s n0 Q kC kS (T.setTop (mkF m (pc + 3) Ls st))) : Go p e below s n0 Q kC kS (T.setTop (mkF m pc Ls (.int x :: st))) := by
  obtain ⟨⟨hx, rfl, -⟩, locs, X, -⟩ := X
  simp only [Bool.and_eq_true, decide_eq_true_eq] at hp
  by_cases q : ifCond.holds cd x = true
  · exact (r1 ((holds_0 cd x).mp q)).st fun u kk => XS.ifYes X.here hx rfl rfl hd rfl q hp.1 hp.2 kk
  · exact (r2 fun z => q ((holds_0 cd x).mpr z)).st fun u kk => XS.ifNo X.here hx rfl hd rfl (by simpa using q) kk
theorem icmp_ (X : St p l e R s m args below meth c Z B own nm ml ret n0 T h k n) {pc pc' : Nat} {Ls : Array Slot} {st : List Value} {cd : ClassFile.Cond} {o : Int} {x y : Int32} (hd : decode B pc = .ok (.if_icmp cd o, 3)) (hp : (decide (0 ≤ (pc : Int) + o) && decide (((pc : Int) + o).toNat = pc')) = true)
    (r1 : cmpI cd x.toInt y.toInt → Go p e below s n0 Q kC kS (T.setTop (mkF m pc' Ls st))) (r2 : ¬ cmpI cd x.toInt y.toInt → Go p e below s n0 Q kC kS (T.setTop (mkF m (pc + 3) Ls st))) : Go p e below s n0 Q kC kS (T.setTop (mkF m pc Ls (.int y :: .int x :: st))) := by
  obtain ⟨⟨hx, rfl, -⟩, locs, X, -⟩ := X
  simp only [Bool.and_eq_true, decide_eq_true_eq] at hp
  by_cases q : if_icmp.holds cd x y = true
  · exact (r1 ((holds_I cd x y).mp q)).st fun u kk => XS.icmpYes X.here hx rfl rfl hd rfl q hp.1 hp.2 kk
  · exact (r2 fun z => q ((holds_I cd x y).mpr z)).st fun u kk => XS.icmpNo X.here hx rfl hd rfl (by simpa using q) kk
/-- a boolean of the walk: 1 where P, else 0 -/
abbrev bo (P : Prop) [Decidable P] : Int32 := if P then 1 else 0
theorem bo_I (P : Prop) [Decidable P] : (bo P).toInt = if P then 1 else 0 := by unfold bo; split <;> rfl
theorem bo_t {P : Prop} [Decidable P] (q : P) : (1 : Int32) = bo P := (if_pos q).symm
theorem bo_f {P : Prop} [Decidable P] (q : ¬ P) : (0 : Int32) = bo P := (if_neg q).symm
theorem bo_c {P P' : Prop} [Decidable P] [Decidable P'] (q : P ↔ P') : bo P = bo P' := by unfold bo; by_cases z : P <;> simp [z, q.mp, q.mpr, ← q]
theorem nar_bo (P : Prop) [Decidable P] : narrow .boolean (.int (bo P)) = .int (bo P) := by unfold bo; split <;> rfl
theorem fits_bo (P : Prop) [Decidable P] : fits .boolean (.int (bo P)) = true := by unfold bo; split <;> rfl
theorem nar_z {z : Int32} (q : z &&& 1 = z) : narrow .boolean (.int z) = .int z := by show Value.int (z &&& 1) = _; rw [q]
theorem fits_z {z : Int32} (q : z &&& 1 = z) : fits .boolean (.int z) = true := by rcases and_one z with w | w <;> rw [q] at w <;> subst w <;> rfl
theorem bo0 (P : Prop) [Decidable P] : (bo P).toInt = 0 ↔ ¬ P := by rw [bo_I]; by_cases q : P <;> simp [q]
theorem ifeqB (X : St p l e R s m args below meth c Z B own nm ml ret n0 T h k n) {pc pc' : Nat} {Ls : Array Slot} {st : List Value} {o : Int} {P : Prop} [Decidable P] (hd : decode B pc = .ok (.ifCond .eq o, 3)) (hp : (decide (0 ≤ (pc : Int) + o) && decide (((pc : Int) + o).toNat = pc')) = true)
    (r1 : ¬ P → Go p e below s n0 Q kC kS (T.setTop (mkF m pc' Ls st))) (r2 : P → Go p e below s n0 Q kC kS (T.setTop (mkF m (pc + 3) Ls st))) : Go p e below s n0 Q kC kS (T.setTop (mkF m pc Ls (.int (bo P) :: st))) := by
  refine iff_ X hd hp (fun q => r1 fun z => ?_) (fun q => r2 (Classical.byContradiction fun z => q ?_))
  · rw [cmpI, bo_I, if_pos z] at q; cases q
  · rw [cmpI, bo_I, if_neg z]
theorem ifneB (X : St p l e R s m args below meth c Z B own nm ml ret n0 T h k n) {pc pc' : Nat} {Ls : Array Slot} {st : List Value} {o : Int} {P : Prop} [Decidable P] (hd : decode B pc = .ok (.ifCond .ne o, 3)) (hp : (decide (0 ≤ (pc : Int) + o) && decide (((pc : Int) + o).toNat = pc')) = true)
    (r1 : P → Go p e below s n0 Q kC kS (T.setTop (mkF m pc' Ls st))) (r2 : ¬ P → Go p e below s n0 Q kC kS (T.setTop (mkF m (pc + 3) Ls st))) : Go p e below s n0 Q kC kS (T.setTop (mkF m pc Ls (.int (bo P) :: st))) := by
  refine iff_ X hd hp (fun q => r1 (Classical.byContradiction fun z => q ?_)) (fun q => r2 fun z => q ?_)
  · rw [bo_I, if_neg z]
  · rw [cmpI, bo_I, if_pos z]; decide
theorem bo_eq (P P' : Prop) [Decidable P] [Decidable P'] : (bo P).toInt = (bo P').toInt ↔ (P ↔ P') := by
  rw [bo_I, bo_I]; by_cases a : P <;> by_cases b : P' <;> simp [a, b]
theorem icmpneB (X : St p l e R s m args below meth c Z B own nm ml ret n0 T h k n) {pc pc' : Nat} {Ls : Array Slot} {st : List Value} {o : Int} {P P' : Prop} [Decidable P] [Decidable P'] (hd : decode B pc = .ok (.if_icmp .ne o, 3)) (hp : (decide (0 ≤ (pc : Int) + o) && decide (((pc : Int) + o).toNat = pc')) = true)
    (r1 : ¬ (P ↔ P') → Go p e below s n0 Q kC kS (T.setTop (mkF m pc' Ls st))) (r2 : (P ↔ P') → Go p e below s n0 Q kC kS (T.setTop (mkF m (pc + 3) Ls st))) : Go p e below s n0 Q kC kS (T.setTop (mkF m pc Ls (.int (bo P') :: .int (bo P) :: st))) := by
  refine icmp_ X hd hp (fun q => r1 fun z => q ((bo_eq P P').mpr z)) (fun q => r2 (Classical.byContradiction fun z => q fun w => z ((bo_eq P P').mp w)))
theorem icmpeqB (X : St p l e R s m args below meth c Z B own nm ml ret n0 T h k n) {pc pc' : Nat} {Ls : Array Slot} {st : List Value} {o : Int} {P P' : Prop} [Decidable P] [Decidable P'] (hd : decode B pc = .ok (.if_icmp .eq o, 3)) (hp : (decide (0 ≤ (pc : Int) + o) && decide (((pc : Int) + o).toNat = pc')) = true)
    (r1 : (P ↔ P') → Go p e below s n0 Q kC kS (T.setTop (mkF m pc' Ls st))) (r2 : ¬ (P ↔ P') → Go p e below s n0 Q kC kS (T.setTop (mkF m (pc + 3) Ls st))) : Go p e below s n0 Q kC kS (T.setTop (mkF m pc Ls (.int (bo P') :: .int (bo P) :: st))) := by
  refine icmp_ X hd hp (fun q => r1 ((bo_eq P P').mp q)) (fun q => r2 fun z => q ((bo_eq P P').mpr z))
theorem ifnullY (X : St p l e R s m args below meth c Z B own nm ml ret n0 T h k n) {pc pc' : Nat} {Ls : Array Slot} {st : List Value} {o : Int} (hd : decode B pc = .ok (.ifnull o, 3)) (hp : (decide (0 ≤ (pc : Int) + o) && decide (((pc : Int) + o).toNat = pc')) = true)
    (r : Go p e below s n0 Q kC kS (T.setTop (mkF m pc' Ls st))) : Go p e below s n0 Q kC kS (T.setTop (mkF m pc Ls (.null :: st))) := by
  obtain ⟨⟨hx, rfl, -⟩, locs, X, -⟩ := X
  simp only [Bool.and_eq_true, decide_eq_true_eq] at hp
  exact r.st fun u kk => XS.ifnullYes X.here hx rfl rfl hd rfl hp.1 hp.2 kk
theorem ifnonnullY (X : St p l e R s m args below meth c Z B own nm ml ret n0 T h k n) {pc pc' : Nat} {Ls : Array Slot} {st : List Value} {o : Int} {b : Addr} (hd : decode B pc = .ok (.ifnonnull o, 3)) (hp : (decide (0 ≤ (pc : Int) + o) && decide (((pc : Int) + o).toNat = pc')) = true)
    (r : Go p e below s n0 Q kC kS (T.setTop (mkF m pc' Ls st))) : Go p e below s n0 Q kC kS (T.setTop (mkF m pc Ls (.ref b :: st))) := by
  obtain ⟨⟨hx, rfl, -⟩, locs, X, -⟩ := X
  simp only [Bool.and_eq_true, decide_eq_true_eq] at hp
  exact r.st fun u kk => Jvm.Free.XT.ifnonnullYes X.here hx rfl rfl hd rfl hp.1 hp.2 kk
theorem ifnullN (X : St p l e R s m args below meth c Z B own nm ml ret n0 T h k n) {pc : Nat} {Ls : Array Slot} {st : List Value} {o : Int} {b : Addr} (hd : decode B pc = .ok (.ifnull o, 3)) 
    (r : Go p e below s n0 Q kC kS (T.setTop (mkF m (pc + 3) Ls (st)))) : Go p e below s n0 Q kC kS (T.setTop (mkF m pc Ls (.ref b :: st))) := by
  obtain ⟨⟨hx, rfl, -⟩, locs, X, -⟩ := X
  exact r.st fun u kk => XS.ifnullNo X.here hx rfl hd rfl kk
theorem ifnonnullN (X : St p l e R s m args below meth c Z B own nm ml ret n0 T h k n) {pc : Nat} {Ls : Array Slot} {st : List Value} {o : Int} (hd : decode B pc = .ok (.ifnonnull o, 3)) 
    (r : Go p e below s n0 Q kC kS (T.setTop (mkF m (pc + 3) Ls (st)))) : Go p e below s n0 Q kC kS (T.setTop (mkF m pc Ls (.null :: st))) := by
  obtain ⟨⟨hx, rfl, -⟩, locs, X, -⟩ := X
  exact r.st fun u kk => Jvm.Free.XT.ifnonnullNo X.here hx rfl hd rfl kk
/-- a double's number, in units of 2^-1074 -/
def dz (x : UInt64) : Int := FP.Core.zval FP.Core.b64 (FP.Core.val64 x)
theorem nn_val {x : UInt64} (q : NoNaN64 x) : FP.Core.val64 x ≠ .nan := (FP.Core.notNaN_iff x).mp (noNaN64_no.mp q)
theorem dcmp_dz {x y : UInt64} (nx : NoNaN64 x) (ny : NoNaN64 y) : FP.dcmp x y = some (compare (dz x) (dz y)) := FP.Core.dcmp_zval (nn_val nx) (nn_val ny)
theorem cmpV_dz {x y : UInt64} (nx : NoNaN64 x) (ny : NoNaN64 y) (cd : ClassFile.Cond) (o : CmpOp) : cmpI cd (cmpValue (FP.dcmp x y) o).toInt 0 ↔ cmpI cd (dz x) (dz y) := by
  rw [dcmp_dz nx ny]
  have key : (cmpValue (some (compare (dz x) (dz y))) o).toInt = if dz x < dz y then -1 else if dz x = dz y then 0 else 1 := by
    rw [FP.Core.compare_ite]; split
    · cases o <;> rfl
    · split
      · cases o <;> rfl
      · cases o <;> rfl
  rw [key]
  split
  · cases cd <;> simp [cmpI] <;> omega
  · split
    · cases cd <;> simp [cmpI] <;> omega
    · cases cd <;> simp [cmpI] <;> omega
/-- dcmpl | dcmpg and the branch behind it, of two that are no NaN -/
theorem dcmpF (X : St p l e R s m args below meth c Z B own nm ml ret n0 T h k n) {pc pc' : Nat} {Ls : Array Slot} {st : List Value} {cd : ClassFile.Cond} {op : CmpOp} {o : Int} {x y : UInt64} (hd1 : decode B pc = .ok (.dcmp op, 1)) (hd : decode B (pc + 1) = .ok (.ifCond cd o, 3)) (hp : (decide (0 ≤ ((pc + 1 : Nat) : Int) + o) && decide ((((pc + 1 : Nat) : Int) + o).toNat = pc')) = true) (nx : NoNaN64 x) (ny : NoNaN64 y)
    (r1 : cmpI cd (dz x) (dz y) → Go p e below s n0 Q kC kS (T.setTop (mkF m pc' Ls st))) (r2 : ¬ cmpI cd (dz x) (dz y) → Go p e below s n0 Q kC kS (T.setTop (mkF m (pc + 1 + 3) Ls st))) : Go p e below s n0 Q kC kS (T.setTop (mkF m pc Ls (.double y :: .double x :: st))) := by
  have r : Go p e below s n0 Q kC kS (T.setTop (mkF m (pc + 1) Ls (.int (cmpValue (FP.dcmp x y) op) :: st))) :=
    iff_ X hd hp (fun q => r1 ((cmpV_dz nx ny cd op).mp q)) (fun q => r2 fun z => q ((cmpV_dz nx ny cd op).mpr z))
  obtain ⟨⟨hx, rfl, -⟩, locs, X, -⟩ := X
  exact r.st fun u kk => XS.dcmpS X.here hx rfl hd1 rfl rfl kk
theorem cmpL_I (x y : Int64) (cd : ClassFile.Cond) : cmpI cd (Jvm.Free.XT.cmpL x y).toInt 0 ↔ cmpI cd x.toInt y.toInt := by
  have key : (Jvm.Free.XT.cmpL x y).toInt = if y.toInt < x.toInt then 1 else if x.toInt = y.toInt then 0 else -1 := by
    simp only [Jvm.Free.XT.cmpL, Int64.lt_iff_toInt_lt, ← Int64.toInt_inj]
    split
    · rfl
    · split <;> rfl
  rw [key]
  split
  · cases cd <;> simp [cmpI] <;> omega
  · split
    · cases cd <;> simp [cmpI] <;> omega
    · cases cd <;> simp [cmpI] <;> omega
theorem lcmpF (X : St p l e R s m args below meth c Z B own nm ml ret n0 T h k n) {pc pc' : Nat} {Ls : Array Slot} {st : List Value} {cd : ClassFile.Cond} {o : Int} {x y : Int64} (hd1 : decode B pc = .ok (.lcmp, 1)) (hd : decode B (pc + 1) = .ok (.ifCond cd o, 3)) (hp : (decide (0 ≤ ((pc + 1 : Nat) : Int) + o) && decide ((((pc + 1 : Nat) : Int) + o).toNat = pc')) = true)
    (r1 : cmpI cd x.toInt y.toInt → Go p e below s n0 Q kC kS (T.setTop (mkF m pc' Ls st))) (r2 : ¬ cmpI cd x.toInt y.toInt → Go p e below s n0 Q kC kS (T.setTop (mkF m (pc + 1 + 3) Ls st))) : Go p e below s n0 Q kC kS (T.setTop (mkF m pc Ls (.long y :: .long x :: st))) := by
  have r : Go p e below s n0 Q kC kS (T.setTop (mkF m (pc + 1) Ls (.int (Jvm.Free.XT.cmpL x y) :: st))) :=
    iff_ X hd hp (fun q => r1 ((cmpL_I x y cd).mp q)) (fun q => r2 fun z => q ((cmpL_I x y cd).mpr z))
  obtain ⟨⟨hx, rfl, -⟩, locs, X, -⟩ := X
  exact r.st fun u kk => Jvm.Free.XT.lcmp X.here hx rfl hd1 rfl kk
theorem ldcI (X : St p l e R s m args below meth c Z B own nm ml ret n0 T h k n) {a0 : Array Value} {pc index : Nat} {Ls : Array Slot} {st : List Value} {v : Int32} (hd : decode B pc = .ok (.ldc index, 2)) (w : (Cond.constant own index v).before a0 Z = true)
    (r : Go p e below s n0 Q kC kS (T.setTop (mkF m (pc + 2) Ls (.int v :: st)))) : Go p e below s n0 Q kC kS (T.setTop (mkF m pc Ls st)) := by
  obtain ⟨⟨hx, rfl, hZ, hown, -⟩, locs, X, -⟩ := X
  exact r.st fun u kk => X.ldcInt (g := mkF m pc Ls st) hx hown (mvT hZ w) rfl hd u kk
theorem ldc2J (X : St p l e R s m args below meth c Z B own nm ml ret n0 T h k n) {a0 : Array Value} {pc index : Nat} {Ls : Array Slot} {st : List Value} {v : Int64} (hd : decode B pc = .ok (.ldc2_w index, 3)) (w : (Cond.constantLong own index v).before a0 Z = true)
    (r : Go p e below s n0 Q kC kS (T.setTop (mkF m (pc + 3) Ls (.long v :: st)))) : Go p e below s n0 Q kC kS (T.setTop (mkF m pc Ls st)) := by
  obtain ⟨⟨hx, rfl, hZ, hown, -⟩, locs, X, -⟩ := X
  exact r.st fun u kk => X.ldc2Long (g := mkF m pc Ls st) hx hown (mvT hZ w) rfl hd u kk
theorem ldc2D (X : St p l e R s m args below meth c Z B own nm ml ret n0 T h k n) {a0 : Array Value} {pc index : Nat} {Ls : Array Slot} {st : List Value} {v : UInt64} (hd : decode B pc = .ok (.ldc2_w index, 3)) (w : (Cond.constantDouble own index v).before a0 Z = true)
    (r : Go p e below s n0 Q kC kS (T.setTop (mkF m (pc + 3) Ls (.double v :: st)))) : Go p e below s n0 Q kC kS (T.setTop (mkF m pc Ls st)) := by
  obtain ⟨⟨hx, rfl, hZ, hown, -⟩, locs, X, -⟩ := X
  exact r.st fun u kk => X.ldc2DoubleC (g := mkF m pc Ls st) hx hown (mvT hZ w) rfl hd u kk
theorem leaveG (X : St p l e R s m args below meth c Z B own nm ml ret n0 T h k n) {v : Option Value} {t : State} (hv : meth.sig.returnType = none → v = none) (hQ : Q v h) (hk : k ≤ kC) (hn : n ≤ kS)
    (st : ∀ (locs : List Loc) (fs : List Frame), p.tables.exec = Jvm.exec → c.code = B → meth.sig.returnType = ret → Stand p l e R s m args below meth c T locs k n → (∀ (f : JFrame) (acts : List Action), f.method = m → f.locked = none → f.entered = [] → (doReturn e (T.setTop f) acts v).1 = T.setFrames fs) → Steps p.tables e below t (T.setFrames fs)) : Go p e below s n0 Q kC kS t := by
  obtain ⟨⟨hx, hby, hZ, hown, hml, hret, hlocks, hnm⟩, locs, X, eT, N⟩ := X
  obtain ⟨fs, hr, hrun, hended, hW, hsame⟩ := X.leave (v := v) hv hlocks
  refine ⟨_, _, st locs fs hx hby hret X hr, hrun, hended, _, _, rfl, ⟨?_, N⟩, ⟨_, rfl⟩, hW, hsame.mono hk hn⟩
  show Q v T.heap
  rw [eT]; exact hQ
theorem retV (X : St p l e R s m args below meth c Z B own nm ml none n0 T h k n) {pc : Nat} {Ls : Array Slot} (hd : decode B pc = .ok (.return_, 1)) (hQ : Q none h) (hk : k ≤ kC) (hn : n ≤ kS) : Go p e below s n0 Q kC kS (T.setTop (mkF m pc Ls [])) :=
  leaveG X (v := none) (fun _ => rfl) hQ hk hn fun locs fs hx hby hret X hr => X.returnOut hx hret (by rw [hby]; exact hd) hr
theorem retB (X : St p l e R s m args below meth c Z B own nm ml (some .boolean) n0 T h k n) {pc : Nat} {Ls : Array Slot} {st : List Value} {z : Int32} (hd : decode B pc = .ok (.ireturn, 1)) (hz : z &&& 1 = z) (hQ : Q (some (.int z)) h) (hk : k ≤ kC) (hn : n ≤ kS) : Go p e below s n0 Q kC kS (T.setTop (mkF m pc Ls (.int z :: st))) :=
  leaveG X (v := some (.int z)) (fun q => by rw [X.1.2.2.2.2.2.1] at q; cases q) hQ hk hn fun locs fs hx hby hret X hr => retN X hx (t := .boolean) hret (by simp) (by rw [hby]; exact hd) (by intro f acts h1 h2 h3; rw [show nar .boolean z = z from hz]; exact hr f acts h1 h2 h3)
theorem bo_and (P : Prop) [Decidable P] : bo P &&& 1 = bo P := by unfold bo; split <;> decide
theorem retO (w : Value) (t : FieldType) {i : Instr} (X : St p l e R s m args below meth c Z B own nm ml (some t) n0 T h k n) {pc : Nat} {Ls : Array Slot} {st : List Value} (hd : decode B pc = .ok (i, 1)) (hw : narrow t w = w)
    (hi : (i = .ireturn ∧ (t = .int ∨ t = .boolean ∨ t = .byte ∨ t = .char ∨ t = .short) ∧ ∃ z, w = .int z) ∨ (i = .lreturn ∧ t = .long ∧ ∃ z, w = .long z) ∨ (i = .dreturn ∧ t = .double ∧ ∃ z, w = .double z) ∨ (i = .freturn ∧ t = .float ∧ ∃ z, w = .float z) ∨ (i = .areturn ∧ t.isReference = true ∧ w.isRef = true))
    (hQ : Q (some w) h) (hk : k ≤ kC) (hn : n ≤ kS) : Go p e below s n0 Q kC kS (T.setTop (mkF m pc Ls (w :: st))) :=
  leaveG X (v := some w) (fun q => by rw [X.1.2.2.2.2.2.1] at q; cases q) hQ hk hn fun locs fs hx hby hret X hr => retOut X hx hret hw hi (by rw [hby]; exact hd) hr
theorem retI (X : St p l e R s m args below meth c Z B own nm ml (some .int) n0 T h k n) {pc : Nat} {Ls : Array Slot} {st : List Value} {z : Int32} (hd : decode B pc = .ok (.ireturn, 1)) (hQ : Q (some (.int z)) h) (hk : k ≤ kC) (hn : n ≤ kS) : Go p e below s n0 Q kC kS (T.setTop (mkF m pc Ls (.int z :: st))) :=
  retO (.int z) .int X hd rfl (Or.inl ⟨rfl, Or.inl rfl, z, rfl⟩) hQ hk hn
theorem retD (X : St p l e R s m args below meth c Z B own nm ml (some .double) n0 T h k n) {pc : Nat} {Ls : Array Slot} {st : List Value} {z : UInt64} (hd : decode B pc = .ok (.dreturn, 1)) (hQ : Q (some (.double z)) h) (hk : k ≤ kC) (hn : n ≤ kS) : Go p e below s n0 Q kC kS (T.setTop (mkF m pc Ls (.double z :: st))) :=
  retO (.double z) .double X hd rfl (Or.inr (Or.inr (Or.inl ⟨rfl, rfl, z, rfl⟩))) hQ hk hn
theorem retA {t : FieldType} (X : St p l e R s m args below meth c Z B own nm ml (some t) n0 T h k n) {pc : Nat} {Ls : Array Slot} {st : List Value} {v : Value} (hd : decode B pc = .ok (.areturn, 1)) (ht : t.isReference = true) (hv : v.isRef = true) (hw : narrow t v = v) (hQ : Q (some v) h) (hk : k ≤ kC) (hn : n ≤ kS) : Go p e below s n0 Q kC kS (T.setTop (mkF m pc Ls (v :: st))) :=
  retO v t X hd hw (Or.inr (Or.inr (Or.inr (Or.inr ⟨rfl, ht, hv⟩)))) hQ hk hn
theorem getF_ (X : St p l e R s m args below meth c Z B own nm ml ret n0 T h k n) {a0 : Array Value} {R0 O f d host : String} {index pc : Nat} {Ls : Array Slot} {st : List Value} {a : Addr} {v : Value} (hd : decode B pc = .ok (.getfield index, 3)) (w : (Cond.fieldLink own index R0 f d).before a0 Z = true ∨ (Cond.fieldLinkNest own index R0 f d host).before a0 Z = true) (via : Via Z R0 O f d) (F : Fld Z h a O f d v)
    (r : ∀ T', St p l e R s m args below meth c Z B own nm ml ret n0 T' h k n → Go p e below s n0 Q kC kS (T'.setTop (mkF m (pc + 3) Ls (v :: st)))) : Go p e below s n0 Q kC kS (T.setTop (mkF m pc Ls (.ref a :: st))) := by
  obtain ⟨⟨hx, hby, hZ, hown, q⟩, locs, X, eT, N⟩ := X
  obtain ⟨T', X', e', st'⟩ := getF X hx hZ hown w via eT F (g := mkF m pc Ls (.ref a :: st)) rfl rfl (by rw [hby]; exact hd)
  exact (r T' ⟨⟨hx, hby, hZ, hown, q⟩, locs, X', e', N⟩).st st'
theorem putF_ (X : St p l e R s m args below meth c Z B own nm ml ret n0 T h k n) {a0 : Array Value} {R0 O f d host C : String} {index kk pc : Nat} {ty : FieldType} {Ls : Array Slot} {st : List Value} {a : Addr} {v old : Value} (hd : decode B pc = .ok (.putfield index, 3)) (w : (Cond.fieldLink own index R0 f d).before a0 Z = true ∨ (Cond.fieldLinkNest own index R0 f d host).before a0 Z = true) (via : Via Z R0 O f d) (F : Fld Z h a O f d old) (E : Exa Z h a C)
    (L : (Cond.lays C O f d).before a0 Z = true ∨ ((Cond.laysFinal C O f d).before a0 Z = true ∧ own = O ∧ nm = "<init>")) (wi : (Cond.instantiable C kk).before a0 Z = true) (hty : parseFieldDescriptor d = some ty) (hv : narrow ty v = v) (hf : fits ty v = true) (ha : n0 ≤ a)
    (r : ∀ T' h', St p l e R s m args below meth c Z B own nm ml ret n0 T' h' k n → Wr h h' a (Jvm.RoadKit.slotOf Z O f d) v → Go p e below s n0 Q kC kS (T'.setTop (mkF m (pc + 3) Ls st))) : Go p e below s n0 Q kC kS (T.setTop (mkF m pc Ls (v :: .ref a :: st))) := by
  obtain ⟨⟨hx, hby, hZ, hown, q1, q2, q3, q4⟩, locs, X, eT, N⟩ := X
  obtain ⟨T', h', X', e', W', st'⟩ := putF X hx hZ hown w via eT F E (L.imp id fun ⟨z1, z2, z3⟩ => ⟨z1, z2, q4.trans z3⟩) wi hty hv hf (g := mkF m pc Ls (v :: .ref a :: st)) rfl rfl (by rw [hby]; exact hd)
  exact (r T' h' ⟨⟨hx, hby, hZ, hown, q1, q2, q3, q4⟩, _, X', e', Fr.snoc X' N ha⟩ W').st st'
theorem getS_ (X : St p l e R s m args below meth c Z B own nm ml ret n0 T h k n) {a0 : Array Value} {R0 O f d host : String} {index pc : Nat} {Ls : Array Slot} {st : List Value} {v : Value} (hd : decode B pc = .ok (.getstatic index, 3)) (w : (Cond.fieldLink own index R0 f d).before a0 Z = true ∨ (Cond.fieldLinkNest own index R0 f d host).before a0 Z = true) (via : Via Z R0 O f d) (F : Sta Z h O f d v)
    (r : ∀ T', St p l e R s m args below meth c Z B own nm ml ret n0 T' h k n → Go p e below s n0 Q kC kS (T'.setTop (mkF m (pc + 3) Ls (v :: st)))) : Go p e below s n0 Q kC kS (T.setTop (mkF m pc Ls st)) := by
  obtain ⟨⟨hx, hby, hZ, hown, q⟩, locs, X, eT, N⟩ := X
  obtain ⟨T', X', e', st'⟩ := getS2 X hx hZ hown w via eT F (g := mkF m pc Ls st) rfl (by rw [hby]; exact hd)
  exact (r T' ⟨⟨hx, hby, hZ, hown, q⟩, locs, X', e', N⟩).st st'
theorem newO_ (X : St p l e R s m args below meth c Z B own nm ml ret n0 T h k n) {a0 : Array Value} {C : String} {index cnt pc : Nat} {Ls : Array Slot} {st : List Value} (hd : decode B pc = .ok (.new index, 3)) (w : (Cond.classLink own index C).before a0 Z = true) (wi : (Cond.instantiable C cnt).before a0 Z = true) (wz : (Cond.initialized C).before a0 Z = true) (hc : k + 1 ≤ R.cells) (hl : n + cnt ≤ R.slots)
    (r : ∀ T' h' a, a = h.size → St p l e R s m args below meth c Z B own nm ml ret n0 T' h' (k + 1) (n + cnt) → Ext h h' → Exa Z h' a C → (∀ {O f d : String} {ty : FieldType}, Laid Z a0 C O f d → parseFieldDescriptor d = some ty → Fld Z h' a O f d (defaultValue ty)) → Go p e below s n0 Q kC kS (T'.setTop (mkF m (pc + 3) Ls (.ref a :: st)))) : Go p e below s n0 Q kC kS (T.setTop (mkF m pc Ls st)) := by
  obtain ⟨⟨hx, hby, hZ, hown, q⟩, locs, X, eT, N⟩ := X
  obtain ⟨T', h', X', e', E', A', D', -, st'⟩ := newO X hx hZ hown w wi wz eT (g := mkF m pc Ls st) rfl (by rw [hby]; exact hd) hc hl
  exact (r T' h' _ rfl ⟨⟨hx, hby, hZ, hown, q⟩, locs, X', e', N⟩ E' A' D').st st'
theorem initO_ (X : St p l e R s m args below meth c Z B own nm ml ret n0 T h k n) {a0 : Array Value} {idx W pc : Nat} {Ls : Array Slot} {st : List Value} {a : Addr} (hd : decode B pc = .ok (.invokespecial idx, 3)) (w1 : (Cond.methodLink own idx Lib.objectInit).before a0 Z = true) (w2 : (Cond.instanceMethod Lib.objectInit).before a0 Z = true) (w3 : (Cond.code Lib.objectInit ⟨#[0xb1]⟩ 1 none).before a0 Z = true) (hsz : Ls.size = ml)
    (hf : 1 ≤ R.frames) (hW : 2 * 0 + (st.map fun v => v.category).sum ≤ W) (hl : W + 12 ≤ R.locals)
    (r : ∀ T', St p l e R s m args below meth c Z B own nm ml ret n0 T' h k n → Go p e below s n0 Q kC kS (T'.setTop (mkF m (pc + 3) Ls st))) : Go p e below s n0 Q kC kS (T.setTop (mkF m pc Ls (.ref a :: st))) := by
  obtain ⟨⟨hx, hby, hZ, hown, hml, q⟩, locs, X, eT, N⟩ := X
  obtain ⟨T', X', e', st'⟩ := initO X hx hZ hown w1 w2 w3 eT (g := mkF m pc Ls (.ref a :: st)) rfl (by rw [hml]; exact hsz) rfl (by rw [hby]; exact hd) hf hW hl
  exact (r T' ⟨⟨hx, hby, hZ, hown, hml, q⟩, locs, X', e', N⟩).st st'

theorem newP_ (X : St p l e R s m args below meth c Z B own nm ml ret n0 T h k n) {a0 : Array Value} {aty : ArrayType} {z : Int32} {pc : Nat} {Ls : Array Slot} {st : List Value} (cap : Nat) (ty : FieldType) (dv : Value) (ad : String) (hd : decode B pc = .ok (.newarray aty, 2)) (hty : newarray.typeOf aty = ty) (hdv : defaultValue ty = dv) (had : "[" ++ ty.toString = ad) (w : (Cond.arrayClass ty).before a0 Z = true) (hz : ¬ z < 0) (hcap : z.toNatClampNeg ≤ cap) (hb : cap * 8 ≤ 536870912) (hc : k + 1 ≤ R.cells) (hl : n + cap ≤ R.slots)
    (r : ∀ T' h' a kk, a = h.size → St p l e R s m args below meth c Z B own nm ml ret n0 T' h' (k + 1) (n + cap) → Ext h h' → Arv Z h' a kk ty z [] dv → Exa Z h' a ad → Go p e below s n0 Q kC kS (T'.setTop (mkF m (pc + 2) Ls (.ref a :: st)))) : Go p e below s n0 Q kC kS (T.setTop (mkF m pc Ls (.int z :: st))) := by
  subst hty hdv
  obtain ⟨⟨hx, hby, hZ, q⟩, locs, X, eT, N⟩ := X
  obtain ⟨T', h', cA, X', e', E', A', G', st'⟩ := newPE X hx hZ w eT (g := mkF m pc Ls (.int z :: st)) rfl (by rw [hby]; exact hd) rfl hz hcap hb hc hl had
  exact (r T' h' _ cA rfl ⟨⟨hx, hby, hZ, q⟩, locs, X', e', N⟩ E' (Arv.new A' hz) G').st st'
theorem alen_ (X : St p l e R s m args below meth c Z B own nm ml ret n0 T h k n) {kk : ClassId} {ty : FieldType} {z : Int32} {vs : List Value} {dv : Value} {a : Addr} {pc : Nat} {Ls : Array Slot} {st : List Value} (hd : decode B pc = .ok (.arraylength, 1)) (A : Arv Z h a kk ty z vs dv)
    (r : Go p e below s n0 Q kC kS (T.setTop (mkF m (pc + 1) Ls (.int z :: st)))) : Go p e below s n0 Q kC kS (T.setTop (mkF m pc Ls (.ref a :: st))) := by
  obtain ⟨⟨hx, rfl, hZ, -⟩, locs, X, eT, -⟩ := X
  obtain ⟨cl, A, -, S, hz, -⟩ := A
  rw [← len_of S hz] at r
  exact r.st fun u kk => X.arraylength (g := mkF m pc Ls (.ref a :: st)) hx (by rw [eT]; exact A.1) (State.isArrayOf_alike hZ.alike A.2.1) rfl rfl hd u kk
theorem daload_ (X : St p l e R s m args below meth c Z B own nm ml ret n0 T h k n) {kk : ClassId} {z j : Int32} {vs : List Value} {dv : Value} {v : UInt64} {a : Addr} {pc : Nat} {Ls : Array Slot} {st : List Value} (hd : decode B pc = .ok (.daload, 1)) (A : Arv Z h a kk .double z vs dv) (hj : ¬ j < 0 ∧ j < z) (hv : vs.getD j.toNatClampNeg dv = .double v)
    (r : Go p e below s n0 Q kC kS (T.setTop (mkF m (pc + 1) Ls (.double v :: st)))) : Go p e below s n0 Q kC kS (T.setTop (mkF m pc Ls (.int j :: .ref a :: st))) := by
  obtain ⟨⟨hx, rfl, hZ, -⟩, locs, X, eT, -⟩ := X
  obtain ⟨cl, A, -, S, hz, H, -⟩ := A
  exact r.st fun u kk => X.daload (g := mkF m pc Ls (.int j :: .ref a :: st)) hx (by rw [eT]; exact A.1) (State.isArrayOf_alike hZ.alike A.2.1) A.2.2 (inb_of S hj) (H.at (inb_of S hj) hv) rfl rfl hd u kk
theorem iaload_ (X : St p l e R s m args below meth c Z B own nm ml ret n0 T h k n) {kk : ClassId} {z j : Int32} {vs : List Value} {dv : Value} {v : Int32} {a : Addr} {pc : Nat} {Ls : Array Slot} {st : List Value} (hd : decode B pc = .ok (.iaload, 1)) (A : Arv Z h a kk .int z vs dv) (hj : ¬ j < 0 ∧ j < z) (hv : vs.getD j.toNatClampNeg dv = .int v)
    (r : Go p e below s n0 Q kC kS (T.setTop (mkF m (pc + 1) Ls (.int v :: st)))) : Go p e below s n0 Q kC kS (T.setTop (mkF m pc Ls (.int j :: .ref a :: st))) := by
  obtain ⟨⟨hx, rfl, hZ, -⟩, locs, X, eT, -⟩ := X
  obtain ⟨cl, A, -, S, hz, H, -⟩ := A
  exact r.st fun u kk => X.iaload (g := mkF m pc Ls (.int j :: .ref a :: st)) hx (by rw [eT]; exact A.1) (State.isArrayOf_alike hZ.alike A.2.1) A.2.2 (inb_of S hj) (H.at (inb_of S hj) hv) rfl rfl hd u kk
theorem laload_ (X : St p l e R s m args below meth c Z B own nm ml ret n0 T h k n) {kk : ClassId} {z j : Int32} {vs : List Value} {dv : Value} {v : Int64} {a : Addr} {pc : Nat} {Ls : Array Slot} {st : List Value} (hd : decode B pc = .ok (.laload, 1)) (A : Arv Z h a kk .long z vs dv) (hj : ¬ j < 0 ∧ j < z) (hv : vs.getD j.toNatClampNeg dv = .long v)
    (r : Go p e below s n0 Q kC kS (T.setTop (mkF m (pc + 1) Ls (.long v :: st)))) : Go p e below s n0 Q kC kS (T.setTop (mkF m pc Ls (.int j :: .ref a :: st))) := by
  obtain ⟨⟨hx, rfl, hZ, -⟩, locs, X, eT, -⟩ := X
  obtain ⟨cl, A, -, S, hz, H, -⟩ := A
  exact r.st fun u kk => X.laload (g := mkF m pc Ls (.int j :: .ref a :: st)) hx (by rw [eT]; exact A.1) (State.isArrayOf_alike hZ.alike A.2.1) A.2.2 (inb_of S hj) (H.at (inb_of S hj) hv) rfl rfl hd u kk
theorem aaload_ (X : St p l e R s m args below meth c Z B own nm ml ret n0 T h k n) {kk : ClassId} {ty : FieldType} {z j : Int32} {vs : List Value} {dv v : Value} {a : Addr} {pc : Nat} {Ls : Array Slot} {st : List Value} (hd : decode B pc = .ok (.aaload, 1)) (A : Arv Z h a kk ty z vs dv) (hty : ty.isReference = true) (hj : ¬ j < 0 ∧ j < z) (hv : vs.getD j.toNatClampNeg dv = v)
    (r : Go p e below s n0 Q kC kS (T.setTop (mkF m (pc + 1) Ls (v :: st)))) : Go p e below s n0 Q kC kS (T.setTop (mkF m pc Ls (.int j :: .ref a :: st))) := by
  obtain ⟨⟨hx, rfl, hZ, -⟩, locs, X, eT, -⟩ := X
  obtain ⟨cl, A, -, S, hz, H, -⟩ := A
  exact r.st fun u kk => X.aaload (g := mkF m pc Ls (.int j :: .ref a :: st)) hx (by rw [eT]; exact A.1) (State.isArrayOf_alike hZ.alike A.2.1) hty A.2.2 (inb_of S hj) (H.at (inb_of S hj) hv) rfl rfl hd u kk
theorem dastore_ (X : St p l e R s m args below meth c Z B own nm ml ret n0 T h k n) {kk : ClassId} {z j : Int32} {vs : List Value} {dv : Value} {v : UInt64} {a : Addr} {pc : Nat} {Ls : Array Slot} {st : List Value} (i : Nat) (hd : decode B pc = .ok (.dastore, 1)) (A : Arv Z h a kk .double z vs dv) (hj : ¬ j < 0 ∧ j < z) (hi : j.toNatClampNeg = i) (hl : i < vs.length) (ha : n0 ≤ a)
    (r : ∀ T' h', St p l e R s m args below meth c Z B own nm ml ret n0 T' h' k n → Wr h h' a j.toNatClampNeg (.double v) → Arv Z h' a kk .double z (vs.set i (.double v)) dv → Go p e below s n0 Q kC kS (T'.setTop (mkF m (pc + 1) Ls st))) : Go p e below s n0 Q kC kS (T.setTop (mkF m pc Ls (.double v :: .int j :: .ref a :: st))) := by
  obtain ⟨⟨hx, hby, hZ, q⟩, locs, X, eT, N⟩ := X
  obtain ⟨cl, A, q1, S, hz, H, F⟩ := A
  obtain ⟨T', h', X', e', W', st'⟩ := stD X hx hZ eT A (inb_of S hj) (g := mkF m pc Ls (.double v :: .int j :: .ref a :: st)) rfl rfl (by rw [hby]; exact hd)
  exact (r T' h' ⟨⟨hx, hby, hZ, q⟩, _, X', e', Fr.snoc X' N ha⟩ W' (Arv.set A q1 S hz H F rfl W' i hi hl)).st st'
theorem iastore_ (X : St p l e R s m args below meth c Z B own nm ml ret n0 T h k n) {kk : ClassId} {z j : Int32} {vs : List Value} {dv : Value} {v : Int32} {a : Addr} {pc : Nat} {Ls : Array Slot} {st : List Value} (i : Nat) (hd : decode B pc = .ok (.iastore, 1)) (A : Arv Z h a kk .int z vs dv) (hj : ¬ j < 0 ∧ j < z) (hi : j.toNatClampNeg = i) (hl : i < vs.length) (ha : n0 ≤ a)
    (r : ∀ T' h', St p l e R s m args below meth c Z B own nm ml ret n0 T' h' k n → Wr h h' a j.toNatClampNeg (.int v) → Arv Z h' a kk .int z (vs.set i (.int v)) dv → Go p e below s n0 Q kC kS (T'.setTop (mkF m (pc + 1) Ls st))) : Go p e below s n0 Q kC kS (T.setTop (mkF m pc Ls (.int v :: .int j :: .ref a :: st))) := by
  obtain ⟨⟨hx, hby, hZ, q⟩, locs, X, eT, N⟩ := X
  obtain ⟨cl, A, q1, S, hz, H, F⟩ := A
  obtain ⟨T', h', X', e', W', st'⟩ := stI X hx hZ eT A (inb_of S hj) (g := mkF m pc Ls (.int v :: .int j :: .ref a :: st)) rfl rfl (by rw [hby]; exact hd)
  exact (r T' h' ⟨⟨hx, hby, hZ, q⟩, _, X', e', Fr.snoc X' N ha⟩ W' (Arv.set A q1 S hz H F rfl W' i hi hl)).st st'
theorem lastore_ (X : St p l e R s m args below meth c Z B own nm ml ret n0 T h k n) {kk : ClassId} {z j : Int32} {vs : List Value} {dv : Value} {v : Int64} {a : Addr} {pc : Nat} {Ls : Array Slot} {st : List Value} (i : Nat) (hd : decode B pc = .ok (.lastore, 1)) (A : Arv Z h a kk .long z vs dv) (hj : ¬ j < 0 ∧ j < z) (hi : j.toNatClampNeg = i) (hl : i < vs.length) (ha : n0 ≤ a)
    (r : ∀ T' h', St p l e R s m args below meth c Z B own nm ml ret n0 T' h' k n → Wr h h' a j.toNatClampNeg (.long v) → Arv Z h' a kk .long z (vs.set i (.long v)) dv → Go p e below s n0 Q kC kS (T'.setTop (mkF m (pc + 1) Ls st))) : Go p e below s n0 Q kC kS (T.setTop (mkF m pc Ls (.long v :: .int j :: .ref a :: st))) := by
  obtain ⟨⟨hx, hby, hZ, q⟩, locs, X, eT, N⟩ := X
  obtain ⟨cl, A, q1, S, hz, H, F⟩ := A
  obtain ⟨T', h', X', e', W', st'⟩ := stJ X hx hZ eT A (inb_of S hj) (g := mkF m pc Ls (.long v :: .int j :: .ref a :: st)) rfl rfl (by rw [hby]; exact hd)
  exact (r T' h' ⟨⟨hx, hby, hZ, q⟩, _, X', e', Fr.snoc X' N ha⟩ W' (Arv.set A q1 S hz H F rfl W' i hi hl)).st st'
theorem newRA_ (X : St p l e R s m args below meth c Z B own nm ml ret n0 T h k n) {a0 : Array Value} {C ad : String} {ty : FieldType} {index : Nat} {z : Int32} {pc : Nat} {Ls : Array Slot} {st : List Value} (cap : Nat) (hd : decode B pc = .ok (.anewarray index, 3)) (hC : (FieldType.array ty).toString = C) (had : "[" ++ C = ad) (w1 : (Cond.classLink own index C).before a0 Z = true) (w2 : (Cond.arrayOver (.array ty)).before a0 Z = true) (hz : ¬ z < 0) (hcap : z.toNatClampNeg ≤ cap) (hb : cap * 8 ≤ 536870912) (hc : k + 1 ≤ R.cells) (hl : n + cap ≤ R.slots)
    (r : ∀ T' h' a kk, a = h.size → St p l e R s m args below meth c Z B own nm ml ret n0 T' h' (k + 1) (n + cap) → Ext h h' → Arv Z h' a kk (.array ty) z [] .null → Exa Z h' a ad → OvrA Z kk ty C → Go p e below s n0 Q kC kS (T'.setTop (mkF m (pc + 3) Ls (.ref a :: st)))) : Go p e below s n0 Q kC kS (T.setTop (mkF m pc Ls (.int z :: st))) := by
  obtain ⟨⟨hx, hby, hZ, hown, q⟩, locs, X, eT, N⟩ := X
  obtain ⟨T', h', cA, X', e', E', A', G', O', st'⟩ := newRA X hx hZ hown hC w1 w2 eT (g := mkF m pc Ls (.int z :: st)) rfl (by rw [hby]; exact hd) rfl hz hcap hb hc hl had
  exact (r T' h' _ cA rfl ⟨⟨hx, hby, hZ, hown, q⟩, locs, X', e', N⟩ E' (Arv.new A' hz) G' O').st st'
theorem newRE_ (X : St p l e R s m args below meth c Z B own nm ml ret n0 T h k n) {a0 : Array Value} {C ad : String} {index : Nat} {z : Int32} {pc : Nat} {Ls : Array Slot} {st : List Value} (cap : Nat) (hd : decode B pc = .ok (.anewarray index, 3)) (had : "[" ++ (FieldType.object C).toString = ad) (w1 : (Cond.classLink own index C).before a0 Z = true) (w2 : (Cond.arrayOver (.object C)).before a0 Z = true) (hz : ¬ z < 0) (hcap : z.toNatClampNeg ≤ cap) (hb : cap * 8 ≤ 536870912) (hc : k + 1 ≤ R.cells) (hl : n + cap ≤ R.slots)
    (r : ∀ T' h' a kk, a = h.size → St p l e R s m args below meth c Z B own nm ml ret n0 T' h' (k + 1) (n + cap) → Ext h h' → Arv Z h' a kk (.object C) z [] .null → Exa Z h' a ad → Ovr Z kk C → Go p e below s n0 Q kC kS (T'.setTop (mkF m (pc + 3) Ls (.ref a :: st)))) : Go p e below s n0 Q kC kS (T.setTop (mkF m pc Ls (.int z :: st))) := by
  obtain ⟨⟨hx, hby, hZ, hown, q⟩, locs, X, eT, N⟩ := X
  obtain ⟨T', h', cA, X', e', E', A', G', O', st'⟩ := newRE X hx hZ hown w1 w2 eT (g := mkF m pc Ls (.int z :: st)) rfl (by rw [hby]; exact hd) rfl hz hcap hb hc hl had
  exact (r T' h' _ cA rfl ⟨⟨hx, hby, hZ, hown, q⟩, locs, X', e', N⟩ E' (Arv.new A' hz) G' O').st st'
theorem aastore_ (X : St p l e R s m args below meth c Z B own nm ml ret n0 T h k n) {kk : ClassId} {ty : FieldType} {z j : Int32} {vs : List Value} {dv v : Value} {a : Addr} {pc : Nat} {Ls : Array Slot} {st : List Value} (i : Nat) (hd : decode B pc = .ok (.aastore, 1)) (A : Arv Z h a kk ty z vs dv) (hty : ty.isReference = true) (hj : ¬ j < 0 ∧ j < z) (hi : j.toNatClampNeg = i) (hl : i < vs.length) (ha : n0 ≤ a) (hf : fits ty v = true) (F : ∀ cl : Cell, Arr Z h a cl ty → cl.cls = kk → Sto Z h a v)
    (r : ∀ T' h', St p l e R s m args below meth c Z B own nm ml ret n0 T' h' k n → Wr h h' a j.toNatClampNeg v → Arv Z h' a kk ty z (vs.set i v) dv → Go p e below s n0 Q kC kS (T'.setTop (mkF m (pc + 1) Ls st))) : Go p e below s n0 Q kC kS (T.setTop (mkF m pc Ls (v :: .int j :: .ref a :: st))) := by
  obtain ⟨⟨hx, hby, hZ, q⟩, locs, X, eT, N⟩ := X
  obtain ⟨cl, A, q1, S, hz, H, G⟩ := A
  obtain ⟨T', h', X', e', W', st'⟩ := stR X hx hZ eT A (inb_of S hj) hty (F cl A q1) (g := mkF m pc Ls (v :: .int j :: .ref a :: st)) rfl rfl (by rw [hby]; exact hd)
  exact (r T' h' ⟨⟨hx, hby, hZ, q⟩, _, X', e', Fr.snoc X' N ha⟩ W' (Arv.set A q1 S hz H G hf W' i hi hl)).st st'
theorem acmp_ (X : St p l e R s m args below meth c Z B own nm ml ret n0 T h k n) {cd : ACond} {pc pc' : Nat} {Ls : Array Slot} {st : List Value} {o : Int} {x y : Value} {same : Bool} (hd : decode B pc = .ok (.if_acmp cd o, 3)) (h1 : x.isRef = true) (h2 : y.isRef = true) (hq : decide (x = y) = same) (ho : 0 ≤ (pc : Int) + o) (hp : pc' = if acV cd same = true then ((pc : Int) + o).toNat else pc + 3)
    (r : Go p e below s n0 Q kC kS (T.setTop (mkF m pc' Ls st))) : Go p e below s n0 Q kC kS (T.setTop (mkF m pc Ls (y :: x :: st))) := by
  obtain ⟨⟨hx, rfl, -⟩, locs, X, -⟩ := X
  exact r.st fun u kk => Jvm.RoadKit.acmp (g := mkF m pc Ls (y :: x :: st)) X hx rfl h1 h2 rfl hd rfl hq ho hp kk

theorem gridM3_ (X : St p l e R s m args below meth c Z B own nm ml ret n0 T h k n) {a0 : Array Value} {C ad : String} {ty : FieldType} {index : Nat} {zk : Int32} {pc : Nat} {Ls : Array Slot} {st : List Value} (cap : Nat) (dv : Value) (hd : decode B pc = .ok (.multianewarray index 2, 4)) (hC : (FieldType.array ty).toString = C) (had : "[" ++ C = ad) (w1 : (Cond.classLink own index ad).before a0 Z = true) (w2 : (Cond.arrayOver (.array ty)).before a0 Z = true) (w3 : (Cond.arrayClass ty).before a0 Z = true) (hdv : defaultValue ty = dv) (hk : ¬ zk < 0) (hcap : zk.toNatClampNeg ≤ cap) (hb : cap * 8 ≤ 536870912) (hdf : fits ty (defaultValue ty) = true) (hdd : (defaultValue ty).isDefault = true) (hc : k + (1 + 3) ≤ R.cells) (hl : n + (3 + 3 * cap) ≤ R.slots)
    (r : ∀ T' h' a x0 x1 x2 kk comp, a = h.size → x0 = a + 1 → x1 = a + 2 → x2 = a + 3 → St p l e R s m args below meth c Z B own nm ml ret n0 T' h' (k + (1 + 3)) (n + (3 + 3 * cap)) → Ext h h' → Arv Z h' a kk (.array ty) 3 [.ref x0, .ref x1, .ref x2] .null → OvrA Z kk ty C → Exa Z h' a ad → Arv Z h' x0 comp ty zk [] dv → Arv Z h' x1 comp ty zk [] dv → Arv Z h' x2 comp ty zk [] dv → Exa Z h' x0 C → Exa Z h' x1 C → Exa Z h' x2 C → Go p e below s n0 Q kC kS (T'.setTop (mkF m (pc + 4) Ls (.ref a :: st)))) : Go p e below s n0 Q kC kS (T.setTop (mkF m pc Ls (.int zk :: .int 3 :: st))) := by
  subst hdv
  obtain ⟨⟨hx, hby, hZ, hown, q⟩, locs, X, eT, N⟩ := X
  obtain ⟨T', h', cA, comp, X', e', E', A', O', G', I', st'⟩ := gridM X hx hZ hown hC had w1 w2 w3 eT (g := mkF m pc Ls (.int zk :: .int 3 :: st)) rfl (by rw [hby]; exact hd) rfl (by decide) hk (xs := [h.size + 1 + 0, h.size + 1 + 1, h.size + 1 + 2]) (N := 3) rfl rfl hcap hb (by decide) hdf hdd hc hl
  exact (r T' h' _ _ _ _ cA comp rfl rfl rfl rfl ⟨⟨hx, hby, hZ, hown, q⟩, locs, X', e', N⟩ E' A' O' G' (Arv.new (I' 0 _ rfl).1 hk) (Arv.new (I' 1 _ rfl).1 hk) (Arv.new (I' 2 _ rfl).1 hk) (I' 0 _ rfl).2 (I' 1 _ rfl).2 (I' 2 _ rfl).2).st st'

theorem callS_ (X : St p l e R s m args below meth c Z B own nm ml ret n0 T h k n) {a0 : Array Value} {idx W pc : Nat} {Ls : Array Slot} {rest : List Value} {argsL : List Value} {y : MethodName} {bytes : ByteArray} {maxL : Nat} {rt : Option FieldType} {rm : Room} {Qc : Option Value → Heap → Prop} (hd : decode B pc = .ok (.invokestatic idx, 3)) (w1 : (Cond.methodLink own idx y).before a0 Z = true) (w2 : (Cond.static y).before a0 Z = true) (w3 : (Cond.initialized y.cls).before a0 Z = true) (w4 : (Cond.code y bytes maxL rt).before a0 Z = true)
    (hy : y.cls ≠ "java/lang/invoke/MethodHandle" ∧ y.cls ≠ "java/lang/invoke/VarHandle") (hM : Con l Z y [] bytes maxL rt rm argsL.toArray h n0 Qc) (hlen : ∀ sig, parseMethodDescriptor y.desc = some sig → argsL.length = sig.parameters.length) (hsz : Ls.size = ml) {stk : List Value} (hs : stk = argsL.reverse ++ rest)
    (hW : 2 * 0 + (rest.map fun v => v.category).sum ≤ W) (hf : rm.frames + 1 ≤ R.frames) (hl : W + (maxL + 11) + rm.locals ≤ R.locals) (hc : k + rm.cells ≤ R.cells) (hn : n + rm.slots ≤ R.slots)
    (r : ∀ T' h' v, St p l e R s m args below meth c Z B own nm ml ret n0 T' h' (k + rm.cells) (n + rm.slots) → Qc v h' → Go p e below s n0 Q kC kS (T'.setTop (mkF m (pc + 3) Ls (v.toList ++ rest)))) : Go p e below s n0 Q kC kS (T.setTop (mkF m pc Ls stk)) := by
  obtain ⟨⟨hx, hby, hZ, hown, hml, q⟩, locs, X, eT, N⟩ := X
  obtain ⟨v, vm1, ⟨T', L', k', n'⟩, -, X', ⟨Lc, ⟨hQ, N'⟩, l1, l2, l3⟩, st'⟩ := Jvm.LawKit.callS X hx (y := y) hown (mvT hZ w1) (mvT hZ w2) (mvT hZ w3) (mvT hZ w4) hy (backOf (Q := fun v h L => Qc v h ∧ Fr n0 L) hM hZ w4 w3 hf hl) (g := mkF m pc Ls stk) rfl (by rw [hml]; exact hsz) (argsL := argsL) (rest := rest) hlen hs hW (by rw [hby]; exact hd) (fun _ _ => ⟨rfl, eT, hc, hn⟩)
  dsimp only [Pt.U, Pt.locs, Pt.cells, Pt.slots] at X' l1 l2 l3 st' hQ
  subst l1 l2 l3
  exact (r T' T'.heap v ⟨⟨hx, hby, hZ, hown, hml, q⟩, _, X', rfl, Fr.app N N'⟩ hQ).st st'
theorem Go.tr {t t' : State} (r : Go p e below s n0 Q kC kS t') (q : Steps p.tables e below t t') : Go p e below s n0 Q kC kS t := r.st fun u kk => q.trans kk
theorem callI_ (X : St p l e R s m args below meth c Z B own nm ml ret n0 T h k n) {a0 : Array Value} {idx W pc : Nat} {Ls : Array Slot} {rest : List Value} {argsL : List Value} {a : Addr} {y : MethodName} {bytes : ByteArray} {maxL : Nat} {rm : Room} {Qc : Option Value → Heap → Prop} (hd : decode B pc = .ok (.invokespecial idx, 3)) (hin : y.name = "<init>") (w1 : (Cond.methodLink own idx y).before a0 Z = true) (w2 : (Cond.instanceMethod y).before a0 Z = true) (w3 : (Cond.initialized y.cls).before a0 Z = true) (w4 : (Cond.code y bytes maxL none).before a0 Z = true)
    (hy : y.cls ≠ "java/lang/invoke/MethodHandle" ∧ y.cls ≠ "java/lang/invoke/VarHandle") (hM : Con l Z y [] bytes maxL none rm (.ref a :: argsL).toArray h n0 Qc) (hlen : ∀ sig, parseMethodDescriptor y.desc = some sig → argsL.length = sig.parameters.length) (hsz : Ls.size = ml) {stk : List Value} (hs : stk = argsL.reverse ++ .ref a :: rest)
    (hW : 2 * 0 + (rest.map fun v => v.category).sum ≤ W) (hf : rm.frames + 1 ≤ R.frames) (hl : W + (maxL + 11) + rm.locals ≤ R.locals) (hc : k + rm.cells ≤ R.cells) (hn : n + rm.slots ≤ R.slots)
    (r : ∀ T' h' v, St p l e R s m args below meth c Z B own nm ml ret n0 T' h' (k + rm.cells) (n + rm.slots) → Qc v h' → Go p e below s n0 Q kC kS (T'.setTop (mkF m (pc + 3) Ls (v.toList ++ rest)))) : Go p e below s n0 Q kC kS (T.setTop (mkF m pc Ls stk)) := by
  obtain ⟨⟨hx, hby, hZ, hown, hml, q⟩, locs, X, eT, N⟩ := X
  obtain ⟨v, vm1, ⟨T', L', k', n'⟩, -, X', ⟨Lc, ⟨hQ, N'⟩, l1, l2, l3⟩, st'⟩ := X.specialBack hx (y := y) hin hown (mvT hZ w1) (mvT hZ w2) (mvT hZ w4) hy (backOf (Q := fun v h L => Qc v h ∧ Fr n0 L) hM hZ w4 w3 hf hl) (g := mkF m pc Ls stk) rfl (by rw [hml]; exact hsz) (Steps.refl _) (a := a) (argsL := argsL) (rest := rest) hlen hs hW (by rw [hby]; exact hd) (fun _ _ => ⟨rfl, eT, hc, hn⟩)
  dsimp only [Pt.U, Pt.locs, Pt.cells, Pt.slots] at X' l1 l2 l3 st' hQ
  subst l1 l2 l3
  exact (r T' T'.heap v ⟨⟨hx, hby, hZ, hown, hml, q⟩, _, X', rfl, Fr.app N N'⟩ hQ).tr st'
theorem callV_ (X : St p l e R s m args below meth c Z B own nm ml ret n0 T h k n) {a0 : Array Value} {idx W pc : Nat} {Ls : Array Slot} {rest : List Value} {argsL : List Value} {a : Addr} {C : String} {y z : MethodName} {bytes : ByteArray} {maxL : Nat} {rt : Option FieldType} {rm : Room} {Qc : Option Value → Heap → Prop} (hd : decode B pc = .ok (.invokevirtual idx, 3)) (w1 : (Cond.methodLink own idx y).before a0 Z = true) (w2 : (Cond.declares y).before a0 Z = true) (w5 : (Cond.selects C y z).before a0 Z = true) (w6 : (Cond.instanceMethod z).before a0 Z = true) (hzy : z = y) (w3 : (Cond.initialized z.cls).before a0 Z = true) (w4 : (Cond.code z bytes maxL rt).before a0 Z = true)
    (hy : y.cls ≠ "java/lang/invoke/MethodHandle" ∧ y.cls ≠ "java/lang/invoke/VarHandle") (E : Exa Z h a C) (hM : Con l Z z [] bytes maxL rt rm (.ref a :: argsL).toArray h n0 Qc) (hlen : ∀ sig, parseMethodDescriptor y.desc = some sig → argsL.length = sig.parameters.length) (hsz : Ls.size = ml) {stk : List Value} (hs : stk = argsL.reverse ++ .ref a :: rest)
    (hW : 2 * 0 + (rest.map fun v => v.category).sum ≤ W) (hf : rm.frames + 1 ≤ R.frames) (hl : W + (maxL + 11) + rm.locals ≤ R.locals) (hc : k + rm.cells ≤ R.cells) (hn : n + rm.slots ≤ R.slots)
    (r : ∀ T' h' v, St p l e R s m args below meth c Z B own nm ml ret n0 T' h' (k + rm.cells) (n + rm.slots) → Qc v h' → Go p e below s n0 Q kC kS (T'.setTop (mkF m (pc + 3) Ls (v.toList ++ rest)))) : Go p e below s n0 Q kC kS (T.setTop (mkF m pc Ls stk)) := by
  obtain ⟨⟨hx, hby, hZ, hown, hml, q⟩, locs, X, eT, N⟩ := X
  subst hzy
  obtain ⟨cq, kq, qa, qb, qc⟩ := isOf hZ eT E
  obtain ⟨v, vm1, ⟨T', L', k', n'⟩, -, X', ⟨Lc, ⟨hQ, N'⟩, l1, l2, l3⟩, st'⟩ := X.virtualBack hx (y := z) (z := z) hown (mvT hZ w1) (mvT hZ w2) (notFace_of_selects (args := #[]) (mvT hZ w5)) (mvT hZ w5) (mvT hZ w6) hy (backOf (Q := fun v h L => Qc v h ∧ Fr n0 L) hM hZ w4 w3 hf hl) qa qc (g := mkF m pc Ls stk) rfl (by rw [hml]; exact hsz) (Steps.refl _) (argsL := argsL) (rest := rest) hlen hs hW (by rw [hby]; exact hd) (fun _ _ => ⟨rfl, eT, hc, hn⟩)
  dsimp only [Pt.U, Pt.locs, Pt.cells, Pt.slots] at X' l1 l2 l3 st' hQ
  subst l1 l2 l3
  exact (r T' T'.heap v ⟨⟨hx, hby, hZ, hown, hml, q⟩, _, X', rfl, Fr.app N N'⟩ hQ).tr st'

theorem absD_ (X : St p l e R s m args below meth c Z B own nm ml ret n0 T h k n) {a0 : Array Value} {idx W pc : Nat} {Ls : Array Slot} {st : List Value} {x : UInt64} (hd : decode B pc = .ok (.invokestatic idx, 3)) (w1 : (Cond.methodLink own idx Jvm.Free.Fl.Abs.absDN).before a0 Z = true) (w2 : (Cond.static Jvm.Free.Fl.Abs.absDN).before a0 Z = true) (w3 : (Cond.initialized "java/lang/Math").before a0 Z = true) (w4 : (Cond.code Jvm.Free.Fl.Abs.absDN Jvm.Free.Fl.Abs.absDCode 2 (some .double)).before a0 Z = true) (nx : NoNaN64 x) (hlen : ∀ sig, parseMethodDescriptor "(D)D" = some sig → [Value.double x].length = sig.parameters.length) (hsz : Ls.size = ml)
    (hW : 2 * 0 + (st.map fun v => v.category).sum ≤ W) (hf : 1 ≤ R.frames) (hl : W + 13 ≤ R.locals) (hk : k ≤ R.cells) (hn : n ≤ R.slots)
    (r : ∀ T', St p l e R s m args below meth c Z B own nm ml ret n0 T' h k n → Go p e below s n0 Q kC kS (T'.setTop (mkF m (pc + 3) Ls (.double (x &&& 0x7fffffffffffffff) :: st)))) : Go p e below s n0 Q kC kS (T.setTop (mkF m pc Ls (.double x :: st))) := by
  obtain ⟨⟨hx, hby, hZ, hown, hml, q⟩, locs, X, eT, N⟩ := X
  obtain ⟨T', X', e', st'⟩ := natS X hx hZ hown w1 w2 w3 w4 (by decide) eT (W := W) (fun hc => Jvm.Free.Fl.Abs.absD_pays x hc hf hl) (g := mkF m pc Ls (.double x :: st)) rfl (by rw [hml]; exact hsz) (argsL := [.double x]) (rest := st) hlen rfl hW (by rw [hby]; exact hd) hk hn ⟨rfl, nx⟩ rfl
  exact (r T' ⟨⟨hx, hby, hZ, hown, hml, q⟩, locs, X', e', N⟩).st st'

theorem callP_ (X : St p l e R s m args below meth c Z B own nm ml ret n0 T h k n) {a0 : Array Value} {idx W pc : Nat} {Ls : Array Slot} {rest : List Value} {argsL : List Value} {a : Addr} {C D : String} {y z' z : MethodName} {bytes : ByteArray} {maxL : Nat} {rt : Option FieldType} {rm : Room} {Qc : Option Value → Heap → Prop} (hd : decode B pc = .ok (.invokevirtual idx, 3)) (w1 : (Cond.methodLink own idx y).before a0 Z = true) (w2 : (Cond.instanceMethod y).before a0 Z = true) (w5 : (Cond.selects D z' z).before a0 Z = true) (hz : z.cls = y.cls) (w6 : (Cond.privateMethod y).before a0 Z = true) (w3 : (Cond.initialized y.cls).before a0 Z = true) (w4 : (Cond.code y bytes maxL rt).before a0 Z = true)
    (hy : y.cls ≠ "java/lang/invoke/MethodHandle" ∧ y.cls ≠ "java/lang/invoke/VarHandle") (E : Exa Z h a C) (hM : Con l Z y [] bytes maxL rt rm (.ref a :: argsL).toArray h n0 Qc) (hlen : ∀ sig, parseMethodDescriptor y.desc = some sig → argsL.length = sig.parameters.length) (hsz : Ls.size = ml) {stk : List Value} (hs : stk = argsL.reverse ++ .ref a :: rest)
    (hW : 2 * 0 + (rest.map fun v => v.category).sum ≤ W) (hf : rm.frames + 1 ≤ R.frames) (hl : W + (maxL + 11) + rm.locals ≤ R.locals) (hc : k + rm.cells ≤ R.cells) (hn : n + rm.slots ≤ R.slots)
    (r : ∀ T' h' v, St p l e R s m args below meth c Z B own nm ml ret n0 T' h' (k + rm.cells) (n + rm.slots) → Qc v h' → Go p e below s n0 Q kC kS (T'.setTop (mkF m (pc + 3) Ls (v.toList ++ rest)))) : Go p e below s n0 Q kC kS (T.setTop (mkF m pc Ls stk)) := by
  obtain ⟨⟨hx, hby, hZ, hown, hml, q⟩, locs, X, eT, N⟩ := X
  obtain ⟨mk, methM, hnamed, hmethM, hstM, habM⟩ := Cond.instanceMethod_spec (args := args) (mvT hZ w2)
  obtain ⟨methM', cM, hmethM', -, -, -, -, -, -, hsigM⟩ := Cond.code_spec hnamed (mvT (args := args) hZ w4)
  cases hmethM.symm.trans hmethM'
  obtain ⟨c2, r2, m2, -, -, q3, -, kP, hkP, hkPi⟩ := Cond.selects_spec (args := args) (mvT hZ w5)
  have hcl : m2.cls = mk.cls := Option.some.inj ((findClass_of_methodNamed q3).symm.trans (by rw [hz]; exact findClass_of_methodNamed hnamed))
  rw [hcl] at hkP
  obtain ⟨cell, hcell, hobj⟩ := E.cell
  have hsel : selectMethod e.platform s.vm cell.cls mk = .method mk := selectMethod_private hmethM (Cond.privateMethod_at (mvP hZ w6 (args := args)) mk methM hnamed hmethM)
  obtain ⟨vm1, X1, step1⟩ := X.invokevirtual hx hown (mvT hZ w1) hnamed hmethM hstM hkP hkPi hy (a := a) (cell := cell) (by rw [eT]; exact hcell) hobj hsel hmethM habM hkP hkPi (g := mkF m pc Ls stk) rfl (argsL := argsL) (rest := rest) (hlen _ hsigM) hs (by rw [hby]; exact hd)
  obtain ⟨v, ⟨T', L', k', n'⟩, X', ⟨Lc, ⟨hQ, N'⟩, l1, l2, l3⟩, st'⟩ := (backOf (Q := fun v h L => Qc v h ∧ Fr n0 L) hM hZ w4 w3 hf hl) m meth c ⟨T.setVm vm1, locs, k, n⟩ { mkF m pc Ls stk with stack := rest } (.invokevirtual idx) mk (.ref a :: argsL).toArray X1 rfl (by rw [hml]; exact hsz) (by rw [hby]; exact hd) hW (X1.named hnamed) ⟨rfl, eT, hc, hn⟩
  dsimp only [Pt.U, Pt.locs, Pt.cells, Pt.slots] at X' l1 l2 l3 st' hQ
  subst l1 l2 l3
  exact (r T' T'.heap v ⟨⟨hx, hby, hZ, hown, hml, q⟩, _, X', rfl, Fr.app N N'⟩ hQ).tr ((step1 _ fun acts => by rw [doInvoke_state]; exact Steps.refl _).trans st')

theorem callSN_ (X : St p l e R s m args below meth c Z B own nm ml ret n0 T h k n) {a0 : Array Value} {host : String} {idx W pc : Nat} {Ls : Array Slot} {rest : List Value} {argsL : List Value} {y : MethodName} {bytes : ByteArray} {maxL : Nat} {rt : Option FieldType} {rm : Room} {Qc : Option Value → Heap → Prop} (hd : decode B pc = .ok (.invokestatic idx, 3)) (w1 : (Cond.methodLinkNest own idx y host).before a0 Z = true) (w2 : (Cond.static y).before a0 Z = true) (w3 : (Cond.initialized y.cls).before a0 Z = true) (w4 : (Cond.code y bytes maxL rt).before a0 Z = true)
    (hy : y.cls ≠ "java/lang/invoke/MethodHandle" ∧ y.cls ≠ "java/lang/invoke/VarHandle") (hM : Con l Z y [] bytes maxL rt rm argsL.toArray h n0 Qc) (hlen : ∀ sig, parseMethodDescriptor y.desc = some sig → argsL.length = sig.parameters.length) (hsz : Ls.size = ml) {stk : List Value} (hs : stk = argsL.reverse ++ rest)
    (hW : 2 * 0 + (rest.map fun v => v.category).sum ≤ W) (hf : rm.frames + 1 ≤ R.frames) (hl : W + (maxL + 11) + rm.locals ≤ R.locals) (hc : k + rm.cells ≤ R.cells) (hn : n + rm.slots ≤ R.slots)
    (r : ∀ T' h' v, St p l e R s m args below meth c Z B own nm ml ret n0 T' h' (k + rm.cells) (n + rm.slots) → Qc v h' → Go p e below s n0 Q kC kS (T'.setTop (mkF m (pc + 3) Ls (v.toList ++ rest)))) : Go p e below s n0 Q kC kS (T.setTop (mkF m pc Ls stk)) := by
  obtain ⟨⟨hx, hby, hZ, hown, hml, q⟩, locs, X, eT, N⟩ := X
  obtain ⟨v, vm1, ⟨T', L', k', n'⟩, -, X', ⟨Lc, ⟨hQ, N'⟩, l1, l2, l3⟩, st'⟩ := Jvm.RoadKit.callSN X hx (y := y) hown ((Cond.methodLinkNest_wide hZ w1 :) ) (mvT hZ w2) (mvT hZ w3) (mvT hZ w4) hy (backOf (Q := fun v h L => Qc v h ∧ Fr n0 L) hM hZ w4 w3 hf hl) (g := mkF m pc Ls stk) rfl (by rw [hml]; exact hsz) (argsL := argsL) (rest := rest) hlen hs hW (by rw [hby]; exact hd) (fun _ _ => ⟨rfl, eT, hc, hn⟩)
  dsimp only [Pt.U, Pt.locs, Pt.cells, Pt.slots] at X' l1 l2 l3 st' hQ
  subst l1 l2 l3
  exact (r T' T'.heap v ⟨⟨hx, hby, hZ, hown, hml, q⟩, _, X', rfl, Fr.app N N'⟩ hQ).tr st'

theorem signD_ (X : St p l e R s m args below meth c Z B own nm ml ret n0 T h k n) {a0 : Array Value} {idx W pc maxL : Nat} {bytes : ByteArray} {Ls : Array Slot} {st : List Value} {x : UInt64} (hd : decode B pc = .ok (.invokestatic idx, 3)) (w1 : (Cond.methodLink own idx Jvm.Free.NT.mathSignum64N).before a0 Z = true) (w2 : (Cond.static Jvm.Free.NT.mathSignum64N).before a0 Z = true) (w3 : (Cond.initialized "java/lang/Math").before a0 Z = true) (w4 : (Cond.code Jvm.Free.NT.mathSignum64N bytes maxL (some .double)).before a0 Z = true) (nx : NoNaN64 x) (hlen : ∀ sig, parseMethodDescriptor "(D)D" = some sig → [Value.double x].length = sig.parameters.length) (hsz : Ls.size = ml)
    (hW : 2 * 0 + (st.map fun v => v.category).sum ≤ W) (hf : 1 ≤ R.frames) (hl : W + (maxL + 11) ≤ R.locals) (hk : k ≤ R.cells) (hn : n ≤ R.slots)
    (r : ∀ T', St p l e R s m args below meth c Z B own nm ml ret n0 T' h k n → Go p e below s n0 Q kC kS (T'.setTop (mkF m (pc + 3) Ls (.double (Jvm.signum64 x) :: st)))) : Go p e below s n0 Q kC kS (T.setTop (mkF m pc Ls (.double x :: st))) := by
  obtain ⟨⟨hx, hby, hZ, hown, hml, q⟩, locs, X, eT, N⟩ := X
  obtain ⟨T', X', e', st'⟩ := natS X hx hZ hown w1 w2 w3 w4 (by decide) eT (W := W) (F := fun a' => a' = #[.double x] ∧ NoNaN64 x) (val := .double (Jvm.signum64 x)) (fun hc => by
    intro m' meth' c' A g ig mk a' X1 hg hsize hdg hW' hnamed ⟨_, _, ha', ha⟩
    obtain ⟨v, B', X2, ⟨hB, hv⟩, st2⟩ := (Jvm.Free.NT.Signum64.pays hc (mvT hZ w2) hf hl) m' meth' c' A g ig mk a' X1 hg hsize hdg hW' hnamed ⟨x, ha', Jvm.Free.Fl.Abs.dIsNaN_false ha⟩
    exact ⟨v, B', X2, ⟨hv x ⟨ha', Jvm.Free.Fl.Abs.dIsNaN_false ha⟩, hB⟩, st2⟩) (g := mkF m pc Ls (.double x :: st)) rfl (by rw [hml]; exact hsz) (argsL := [.double x]) (rest := st) hlen rfl hW (by rw [hby]; exact hd) hk hn ⟨rfl, nx⟩ rfl
  exact (r T' ⟨⟨hx, hby, hZ, hown, hml, q⟩, locs, X', e', N⟩).st st'
theorem nn_sign {x : UInt64} (h : NoNaN64 x) : NoNaN64 (Jvm.signum64 x) := by
  obtain ⟨o, ho⟩ := Jvm.Free.Fl.dcmp_of_noNaN h (b := 0) (by unfold NoNaN64; decide)
  cases o with
  | lt => rw [Jvm.FP.V.signum_neg ho]; unfold NoNaN64; decide
  | gt => rw [Jvm.FP.V.signum_pos ho]; unfold NoNaN64; decide
  | eq => rw [Jvm.FP.V.signum_zero ho]; exact h

theorem cpA_ (X : St p l e R s m args below meth c Z B own nm ml ret n0 T h k n) {a0 : Array Value} {idx W pc : Nat} {Ls : Array Slot} {rest : List Value} {a b : Addr} {ka kb : ClassId} {ty : FieldType} {z z' sp dp nn : Int32} {vs vd us : List Value} {dv dd : Value} (hd : decode B pc = .ok (.invokestatic idx, 3)) (w1 : (Cond.methodLink own idx Jvm.Stand.acN).before a0 Z = true) (w2 : (Cond.native Jvm.Stand.acN).before a0 Z = true) (w3 : (Cond.static Jvm.Stand.acN).before a0 Z = true) (w4 : (Cond.initialized "java/lang/System").before a0 Z = true)
    (A : Arv Z h a ka ty z vs dv) (V : Arv Z h b kb ty z' vd dd) (hty : refKind ty = false) (h1 : ¬ sp < 0) (h2 : ¬ dp < 0) (h3 : ¬ nn < 0) (h4 : sp.toNatClampNeg + nn.toNatClampNeg ≤ z.toNatClampNeg) (h5 : dp.toNatClampNeg + nn.toNatClampNeg ≤ z'.toNatClampNeg) (hus : us = (List.range nn.toNatClampNeg).map fun i => vs.getD (sp.toNatClampNeg + i) dv) (hl : dp.toNatClampNeg + nn.toNatClampNeg ≤ vd.length) (ge : n0 ≤ b) (hsz : Ls.size = ml)
    (hf : 1 ≤ R.frames) (hW : 2 * 0 + (rest.map fun v => v.category).sum ≤ W) (hlo : W + (nativeFrameWords "java/lang/System" "arraycopy" 5 + 11) ≤ R.locals)
    (r : ∀ T' h', St p l e R s m args below meth c Z B own nm ml ret n0 T' h' k n → Keep h h' [b] → Arv Z h' b kb ty z' (vd.take dp.toNatClampNeg ++ us ++ vd.drop (dp.toNatClampNeg + nn.toNatClampNeg)) dd → Go p e below s n0 Q kC kS (T'.setTop (mkF m (pc + 3) Ls rest))) : Go p e below s n0 Q kC kS (T.setTop (mkF m pc Ls (.int nn :: .int dp :: .ref b :: .int sp :: .ref a :: rest))) := by
  obtain ⟨⟨hx, hby, hZ, hown, hml, q⟩, locs, X, eT, N⟩ := X
  obtain ⟨T', h', L', X', e', N', K', V', st'⟩ := cpA X hx hZ hown w1 w2 w3 w4 eT A V (Or.inl ⟨rfl, hty⟩) h1 h2 h3 h4 h5 hus hl N ge (g := mkF m pc Ls (.int nn :: .int dp :: .ref b :: .int sp :: .ref a :: rest)) rfl (by rw [hml]; exact hsz) rfl (by rw [hby]; exact hd) hf hW hlo
  exact (r T' h' ⟨⟨hx, hby, hZ, hown, hml, q⟩, L', X', e', N'⟩ K' V').st st'
theorem clone_ (X : St p l e R s m args below meth c Z B own nm ml ret n0 T h k n) {a0 : Array Value} {ad : String} {idx W pc : Nat} {Ls : Array Slot} {rest : List Value} {a : Addr} {ka : ClassId} {ty : FieldType} {z : Int32} {vs : List Value} {dv : Value} (cap : Nat) (hd : decode B pc = .ok (.invokevirtual idx, 3)) (w1 : (Cond.methodLink own idx ⟨ad, "clone", "()Ljava/lang/Object;"⟩).before a0 Z = true) (w2 : (Cond.sameMethod ad "java/lang/Object" "clone" "()Ljava/lang/Object;").before a0 Z = true) (w3 : (Cond.native ⟨"java/lang/Object", "clone", "()Ljava/lang/Object;"⟩).before a0 Z = true)
    (w4 : (Cond.instanceMethod ⟨"java/lang/Object", "clone", "()Ljava/lang/Object;"⟩).before a0 Z = true) (w5 : (Cond.selects ad ⟨ad, "clone", "()Ljava/lang/Object;"⟩ ⟨"java/lang/Object", "clone", "()Ljava/lang/Object;"⟩).before a0 Z = true) (w6 : (Cond.castable ad "java/lang/Cloneable").before a0 Z = true)
    (F : Arv Z h a ka ty z vs dv) (E : Exa Z h a ad) (hsz : Ls.size = ml) (hf : 1 ≤ R.frames) (hW : 2 * 0 + (rest.map fun v => v.category).sum ≤ W) (hl : W + 14 ≤ R.locals) (hcap : z.toNatClampNeg ≤ cap) (hc : k + 1 ≤ R.cells) (hsl : n + cap ≤ R.slots)
    (r : ∀ T' h' b, b = h.size → St p l e R s m args below meth c Z B own nm ml ret n0 T' h' (k + 1) (n + cap) → Ext h h' → Arv Z h' b ka ty z vs dv → Exa Z h' b ad → Go p e below s n0 Q kC kS (T'.setTop (mkF m (pc + 3) Ls (.ref b :: rest)))) : Go p e below s n0 Q kC kS (T.setTop (mkF m pc Ls (.ref a :: rest))) := by
  obtain ⟨⟨hx, hby, hZ, hown, hml, q⟩, locs, X, eT, N⟩ := X
  obtain ⟨T', h', X', e', E', V', G', st'⟩ := cloneH X hx hZ hown w1 w2 w3 w4 w5 w6 eT F.arh E (g := mkF m pc Ls (.ref a :: rest)) rfl (by rw [hml]; exact hsz) rfl (by rw [hby]; exact hd) hf hW hl hcap hc hsl
  exact (r T' h' _ rfl ⟨⟨hx, hby, hZ, hown, hml, q⟩, locs, X', e', N⟩ E' V' G').st st'
theorem cast_ (X : St p l e R s m args below meth c Z B own nm ml ret n0 T h k n) {a0 : Array Value} {K : String} {idx pc : Nat} {Ls : Array Slot} {rest : List Value} {a : Addr} (hd : decode B pc = .ok (.checkcast idx, 3)) (w : (Cond.classLink own idx K).before a0 Z = true) (F : Ins Z h a K true)
    (r : ∀ T', St p l e R s m args below meth c Z B own nm ml ret n0 T' h k n → Go p e below s n0 Q kC kS (T'.setTop (mkF m (pc + 3) Ls (.ref a :: rest)))) : Go p e below s n0 Q kC kS (T.setTop (mkF m pc Ls (.ref a :: rest))) := by
  obtain ⟨⟨hx, hby, hZ, hown, q⟩, locs, X, eT, N⟩ := X
  obtain ⟨T', X', e', st'⟩ := castY X hx hZ hown w eT F (g := mkF m pc Ls (.ref a :: rest)) rfl rfl (by rw [hby]; exact hd)
  exact (r T' ⟨⟨hx, hby, hZ, hown, q⟩, locs, X', e', N⟩).st st'

theorem enter {y : MethodName} {ws : List Jvm.Cond} {rm : Room} {as : Array Value} {h0 : Heap} {Ls : Array Slot} {own nm : String} (hpl : plainFor y = true) (ho : y.cls = own) (hnm : y.name = nm) (hef : ∀ m, entryFrame m as ml = mkF m 0 Ls [])
    (body : ∀ p e s m below meth c T, St p l e rm s m as below meth c Z B own nm ml ret n0 T h0 0 0 → Go p e below s n0 Q rm.cells rm.slots (T.setTop (mkF m 0 Ls []))) : Con l Z y ws B ml ret rm as h0 n0 Q := by
  refine MetFree.of_bodySF hpl hisR ?_
  intro p e s m args below meth c s₁ Bd hml0 hP hK
  obtain ⟨rfl, hZ, hh⟩ := hP
  have X0 : Stand p l e rm s m _ below meth c s₁ [] 0 0 := Stand.of_body Bd
  have e0 : s₁.heap = h0 := by rw [← hh, Bd.state]; rfl
  rw [hef]
  exact body p e s m below meth c s₁ ⟨⟨Bd.exec, Bd.bytes, hZ, ho ▸ findClass_of_methodNamed Bd.named, hml0, Bd.returns, Bd.notSynchronized, (name_of_methodNamed Bd.named Bd.method).1.trans hnm⟩, [], X0, e0, Fr.nil n0⟩
theorem Con.imp {y : MethodName} {ws : List Jvm.Cond} {rm : Room} {as : Array Value} {h0 : Heap} {Q' : Option Value → Heap → Prop} (C : Con l Z y ws B ml ret rm as h0 n0 Q') (q : ∀ v h, Q' v h → Q v h) : Con l Z y ws B ml ret rm as h0 n0 Q := by
  intro p e ha hc hk s m args below hf happ hP hK
  obtain ⟨n, o, h1, h2, h3, v, L, h4, ⟨h5, h6⟩, h7⟩ := C p e ha hc hk s m args below hf happ hP hK
  exact ⟨n, o, h1, h2, h3, v, L, h4, ⟨q _ _ h5, h6⟩, h7⟩
end Kit
end Jvm.Own

namespace Jvm.Own
open Jvm.FP Jvm.FP.Core Jvm.Free.Fl
/-- one, in units of 2^-1074 -/
def U : Int := (one64 : Int)
theorem U_pos : 0 < U := by unfold U; have := one64_pos; omega
theorem U_pow : U = 2 ^ 1074 := by unfold U one64; exact Int.natCast_pow 2 1074
theorem U_lt {a b : Int} : a * U < b * U ↔ a < b := Int.mul_lt_mul_right U_pos
theorem U_le {a b : Int} : a * U ≤ b * U ↔ a ≤ b := Int.mul_le_mul_right U_pos
theorem U_eq {a b : Int} : a * U = b * U ↔ a = b := Int.mul_eq_mul_right_iff (by have := U_pos; omega)
theorem nn_0 : NoNaN64 0 := by unfold NoNaN64; decide
theorem nn_1 : NoNaN64 4607182418800017408 := by unfold NoNaN64; decide
theorem fin_0 : Fin64 0 := by unfold Fin64; decide
theorem fin_1 : Fin64 4607182418800017408 := by unfold Fin64; decide
theorem dz_0 : dz 0 = 0 := zval64_zero
theorem dz_int {i : Int} {v : UInt64} (h : DInt i v) : Fin64 v ∧ dz v = i * U := by
  refine ⟨fin64_core.mpr ?_, DInt_zval h⟩
  unfold DInt at h
  cases hv : val64 v with
  | nan => rw [hv] at h; exact h.elim
  | inf q => rw [hv] at h; exact h.elim
  | fin s c q => exact ⟨s, c, q, hv⟩
theorem dz_1 : dz 4607182418800017408 = U := by rw [(dz_int dint_one).2, Int.one_mul]
theorem i2d_v {x : Int32} {v : UInt64} (h : FP.i2d x = v) : Fin64 v ∧ dz v = x.toInt * U := h ▸ dz_int (i2d_int x)
theorem l2d_v {x : Int64} {v : UInt64} (h : FP.l2d x = v) (hx : x.toInt.natAbs ≤ 2 ^ 53) : Fin64 v ∧ dz v = x.toInt * U := h ▸ dz_int (l2d_int hx)
theorem fin_val {x : UInt64} (h : Fin64 x) : ∃ s c q, val64 x = .fin s c q := fin64_core.mp h
/-- the greatest magnitude, and one more -/
def Top : Nat := b64.tails * 2 ^ (b64.exps - 2)
theorem Top_pow : Top = 2 ^ 2098 := by unfold Top; rw [tails_b64, show b64.exps - 2 = 2046 from by decide, ← Nat.pow_add]
theorem fin_lt {x : UInt64} (h : Fin64 x) : (dz x).natAbs < Top := by
  have := (fin64_core.mp h).zval_lt
  show (signed _ _).natAbs < _
  rw [natAbs_signed]; exact this
theorem fin_of {x : UInt64} (h : NoNaN64 x) (q : (dz x).natAbs < Top) : Fin64 x := by
  refine fin64_core.mpr ?_
  cases hv : val64 x with
  | nan => exact absurd hv (val64_no.mp h)
  | inf s =>
    have : (dz x).natAbs = Top := by
      show (signed _ (zmag b64 (val64 x))).natAbs = _
      rw [natAbs_signed, hv]; rfl
    omega
  | fin s c q => exact ⟨s, c, q, hv⟩
/-- a number of at most 53 digits, at any place within reach, is a double -/
theorem rep (k : Int) (j : Nat) (hk : k.natAbs < 2 ^ 53) (hj : j ≤ 2040) : ∃ V : UInt64, Fin64 V ∧ dz V = k * 2 ^ j := by
  obtain ⟨c', q', h1, h2⟩ := round_exact good_b64 (decide (k < 0)) (c := k.natAbs) (q := b64.qmin + (j : Int)) hk (by omega) (by
    have : b64.qmax = b64.qmin + 2045 := by decide
    omega)
  have hf : Core.fits b64 (.fin (decide (k < 0)) c' q') := h1 ▸ round_fits good_b64 _
  refine ⟨of64 (.fin (decide (k < 0)) c' q'), fin64_core.mpr ⟨_, _, _, val64_of64 hf⟩, ?_⟩
  show zval b64 (val64 _) = _
  rw [val64_of64 hf]
  show signed _ (inUnits c' q' b64.qmin) = _
  rw [h2]
  unfold inUnits
  rw [show (b64.qmin + (j : Int) - b64.qmin).toNat = j by omega, signed_mul, show ((2 ^ j : Nat) : Int) = 2 ^ j from Int.natCast_pow 2 j]
  congr 1
  unfold signed
  by_cases q : k < 0 <;> simp [q, sgn] <;> omega
theorem repU (k : Int) (j : Nat) (hk : k.natAbs < 2 ^ 53) (hj : j ≤ 1074) : ∃ V : UInt64, Fin64 V ∧ dz V * 2 ^ j = k * U := by
  obtain ⟨V, h1, h2⟩ := rep k (1074 - j) hk (by omega)
  refine ⟨V, h1, ?_⟩
  rw [h2, Int.mul_assoc, ← Int.pow_add, show 1074 - j + j = 1074 by omega, U_pow]
/-! sums -/
theorem dadd_le {a b V : UInt64} (fa : Fin64 a) (fb : Fin64 b) (nV : NoNaN64 V) (h : dz a + dz b ≤ dz V) : dz (FP.dadd a b) ≤ dz V := by
  show zval b64 (val64 (Core.dadd a b)) ≤ _
  rw [val64_dadd]
  exact sum_le good_b64 (fin_val fa) (fin_val fb) (val64_fits a) (val64_fits b) (val64_fits V) (nn_val nV) h
theorem dadd_ge {a b V : UInt64} (fa : Fin64 a) (fb : Fin64 b) (nV : NoNaN64 V) (h : dz V ≤ dz a + dz b) : dz V ≤ dz (FP.dadd a b) := by
  show _ ≤ zval b64 (val64 (Core.dadd a b))
  rw [val64_dadd]
  exact sum_ge good_b64 (fin_val fa) (fin_val fb) (val64_fits a) (val64_fits b) (val64_fits V) (nn_val nV) h
theorem neg_fin {d : Datum} (h : ∃ s c q, d = .fin s c q) : ∃ s c q, negate d = .fin s c q := by
  obtain ⟨s, c, q, rfl⟩ := h; exact ⟨_, _, _, rfl⟩
theorem dsub_le {a b V : UInt64} (fa : Fin64 a) (fb : Fin64 b) (nV : NoNaN64 V) (h : dz a - dz b ≤ dz V) : dz (FP.dsub a b) ≤ dz V := by
  show zval b64 (val64 (Core.dsub a b)) ≤ _
  rw [val64_dsub]
  refine sum_le good_b64 (fin_val fa) (neg_fin (fin_val fb)) (val64_fits a) (negate_fits (val64_fits b)) (val64_fits V) (nn_val nV) ?_
  rw [zval_negate]; exact h
theorem dsub_ge {a b V : UInt64} (fa : Fin64 a) (fb : Fin64 b) (nV : NoNaN64 V) (h : dz V ≤ dz a - dz b) : dz V ≤ dz (FP.dsub a b) := by
  show _ ≤ zval b64 (val64 (Core.dsub a b))
  rw [val64_dsub]
  refine sum_ge good_b64 (fin_val fa) (neg_fin (fin_val fb)) (val64_fits a) (negate_fits (val64_fits b)) (val64_fits V) (nn_val nV) ?_
  rw [zval_negate]; exact h
/-- a sum that is a double is exact -/
theorem dadd_x {a b v V : UInt64} (e : FP.dadd a b = v) (fa : Fin64 a) (fb : Fin64 b) (fV : Fin64 V) (h : dz a + dz b = dz V) : Fin64 v ∧ dz v = dz a + dz b := by
  subst e
  have q : dz (FP.dadd a b) = dz a + dz b := by
    have h1 := dadd_le fa fb fV.noNaN (Int.le_of_eq h)
    have h2 := dadd_ge fa fb fV.noNaN (Int.le_of_eq h.symm)
    omega
  exact ⟨fin_of (dadd_out fa.noNaN fb) (by rw [q, h]; exact fin_lt fV), q⟩
theorem dsub_x {a b v V : UInt64} (e : FP.dsub a b = v) (fa : Fin64 a) (fb : Fin64 b) (fV : Fin64 V) (h : dz a - dz b = dz V) : Fin64 v ∧ dz v = dz a - dz b := by
  subst e
  have q : dz (FP.dsub a b) = dz a - dz b := by
    have h1 := dsub_le fa fb fV.noNaN (Int.le_of_eq h)
    have h2 := dsub_ge fa fb fV.noNaN (Int.le_of_eq h.symm)
    omega
  exact ⟨fin_of (dsub_out fa.noNaN fb) (by rw [q, h]; exact fin_lt fV), q⟩
/-! products -/
theorem zval_fin (f : Fmt) (s : Bool) (c : Nat) (q : Int) : zval f (.fin s c q) = signed s (inUnits c q f.qmin) := rfl
theorem signed_xor' (s t : Bool) (c d : Nat) : signed (s != t) (c * d) = signed s c * signed t d := signed_xor s t c d
theorem pow_two_qmin : ((2 ^ (b64.qmin - 2 * b64.qmin).toNat : Nat) : Int) = U := by
  unfold U; rw [← pow_qmin64]; rfl
theorem dmul_le {a b V : UInt64} (fa : Fin64 a) (fb : Fin64 b) (nV : NoNaN64 V) (h : dz a * dz b ≤ dz V * U) : dz (FP.dmul a b) ≤ dz V := by
  obtain ⟨s, c, q, ha⟩ := fin_val fa
  obtain ⟨t, d, r, hb⟩ := fin_val fb
  have fa' := val64_fits a
  have fb' := val64_fits b
  unfold dz at h ⊢
  show zval b64 (val64 (Core.dmul a b)) ≤ _
  rw [val64_dmul]
  rw [ha] at fa' h ⊢
  rw [hb] at fb' h ⊢
  obtain ⟨h1, h2, h3⟩ := product_units fa' fb'
  rw [h1]
  refine zval_round_le good_b64 (val64_fits V) (nn_val nV) (e0 := 2 * b64.qmin) (by decide) h2 ?_
  rw [h3, pow_two_qmin, signed_xor']
  exact h
theorem dmul_ge {a b V : UInt64} (fa : Fin64 a) (fb : Fin64 b) (nV : NoNaN64 V) (h : dz V * U ≤ dz a * dz b) : dz V ≤ dz (FP.dmul a b) := by
  obtain ⟨s, c, q, ha⟩ := fin_val fa
  obtain ⟨t, d, r, hb⟩ := fin_val fb
  have fa' := val64_fits a
  have fb' := val64_fits b
  unfold dz at h ⊢
  show _ ≤ zval b64 (val64 (Core.dmul a b))
  rw [val64_dmul]
  rw [ha] at fa' h ⊢
  rw [hb] at fb' h ⊢
  obtain ⟨h1, h2, h3⟩ := product_units fa' fb'
  rw [h1]
  refine zval_round_ge good_b64 (val64_fits V) (nn_val nV) (e0 := 2 * b64.qmin) (by decide) h2 ?_
  rw [h3, pow_two_qmin, signed_xor']
  exact h
theorem dmul_x {a b v V : UInt64} (e : FP.dmul a b = v) (fa : Fin64 a) (fb : Fin64 b) (fV : Fin64 V) (h : dz a * dz b = dz V * U) : Fin64 v ∧ dz v = dz V := by
  subst e
  have q : dz (FP.dmul a b) = dz V := by
    have h1 := dmul_le fa fb fV.noNaN (Int.le_of_eq h)
    have h2 := dmul_ge fa fb fV.noNaN (Int.le_of_eq h.symm)
    omega
  exact ⟨fin_of (dmul_out fa fb) (by rw [q]; exact fin_lt fV), q⟩
/-! quotients -/
theorem nz_of {b : UInt64} (h : dz b ≠ 0) : Nz64 b := nz64_core.mpr fun ⟨s, q, e⟩ => h (by
  show zval b64 (val64 b) = 0
  rw [e, zval_fin]; unfold inUnits; rw [Nat.zero_mul]; exact signed_zero s)
theorem quo_mag {s t : Bool} {c d : Nat} {q r : Int} (hx : Core.fits b64 (.fin s c q)) (hy : Core.fits b64 (.fin t d r)) :
    inUnits c (q - r) (2 * b64.qmin - r) = zmag b64 (.fin s c q) * one64 ∧ 2 ^ (b64.qmin - (2 * b64.qmin - r)).toNat * d = zmag b64 (.fin t d r) := by
  have h1 := hx.2.1
  have h2 := hy.2.1
  have hq : b64.qmin = -1074 := qmin_b64
  constructor
  · rw [← pow_qmin64]
    show c * _ = c * _ * _
    rw [Nat.mul_assoc, ← Nat.pow_add]; congr 2; omega
  · show _ = d * _
    rw [Nat.mul_comm]; congr 2; omega
theorem ddiv_val {a b : UInt64} {s t : Bool} {c d : Nat} {q r : Int} (ha : val64 a = .fin s c q) (hb : val64 b = .fin t d r) (hd : d ≠ 0) : val64 (FP.ddiv a b) = roundRatio b64 (s != t) c d (q - r) := by
  show val64 (Core.ddiv a b) = _
  rw [val64_ddiv, ha, hb]; simp only [quotient, if_neg hd]
theorem ddiv_zm {a b : UInt64} (fa : Fin64 a) (fb : Fin64 b) (hb : dz b ≠ 0) :
    sgn (val64 (FP.ddiv a b)) = (sgn (val64 a) != sgn (val64 b)) ∧
    (∀ V : UInt64, NoNaN64 V → zmag b64 (val64 a) * one64 ≤ zmag b64 (val64 V) * zmag b64 (val64 b) → zmag b64 (val64 (FP.ddiv a b)) ≤ zmag b64 (val64 V)) ∧
    (∀ V : UInt64, zmag b64 (val64 V) * zmag b64 (val64 b) ≤ zmag b64 (val64 a) * one64 → zmag b64 (val64 V) ≤ zmag b64 (val64 (FP.ddiv a b))) := by
  obtain ⟨s, c, q, ha⟩ := fin_val fa
  obtain ⟨t, d, r, hb'⟩ := fin_val fb
  have fa' := val64_fits a
  have fb' := val64_fits b
  rw [ha] at fa'
  rw [hb'] at fb'
  have hd : d ≠ 0 := by
    rintro rfl
    apply hb
    show zval b64 (val64 b) = 0
    rw [hb', zval_fin]; unfold inUnits; rw [Nat.zero_mul]; exact signed_zero t
  have hv := ddiv_val ha hb' hd
  obtain ⟨e1, e2⟩ := quo_mag fa' fb'
  have hq1 := fa'.2.1
  have hq2 := fb'.2.1
  have hqm : b64.qmin = -1074 := qmin_b64
  refine ⟨?_, fun V nV h => ?_, fun V h => ?_⟩
  · rw [hv, sgn_roundRatio, ha, hb']; rfl
  · rw [hv]
    refine zmag_roundRatio_le good_b64 (by omega) (val64_fits V) (nn_val nV) (e0 := 2 * b64.qmin - r) (by omega) (by omega) ?_
    rw [e1, Nat.mul_assoc, e2]
    rw [ha, hb'] at h
    exact h
  · rw [hv]
    refine zmag_roundRatio_ge good_b64 (by omega) (val64_fits V) (e0 := 2 * b64.qmin - r) (by omega) (by omega) ?_
    rw [e1, Nat.mul_assoc, e2]
    rw [ha, hb'] at h
    exact h
theorem dz_def (x : UInt64) : dz x = signed (sgn (val64 x)) (zmag b64 (val64 x)) := rfl
theorem ddiv_le {a b V : UInt64} (fa : Fin64 a) (fb : Fin64 b) (hb : 0 < dz b) (nV : NoNaN64 V) (h : dz a * U ≤ dz V * dz b) : dz (FP.ddiv a b) ≤ dz V := by
  obtain ⟨h1, h2, h3⟩ := ddiv_zm fa fb (by omega)
  have h2 := h2 V nV
  have h3 := h3 V
  have hU : U = (one64 : Int) := rfl
  rw [dz_def (FP.ddiv a b), h1]
  rw [hU] at h
  rw [dz_def V] at h ⊢
  rw [dz_def a] at h
  rw [dz_def b] at h hb
  have p1 := one64_pos
  generalize zmag b64 (val64 (FP.ddiv a b)) = R at *
  generalize zmag b64 (val64 V) = v at *
  generalize zmag b64 (val64 a) = x at *
  generalize zmag b64 (val64 b) = y at *
  generalize sgn (val64 a) = sa at *
  generalize sgn (val64 b) = sb at *
  generalize sgn (val64 V) = sv at *
  cases sb with
  | true => simp only [signed, if_true] at hb; omega
  | false =>
    simp only [signed, Bool.false_eq_true, if_false] at hb h ⊢
    have key : signed sv v * (y : Int) = signed sv (v * y) := (signed_mul sv v y).symm
    have key2 : signed sa x * (one64 : Int) = signed sa (x * one64) := (signed_mul sa x one64).symm
    have yp : 0 < y := by omega
    change signed sa x * (one64 : Int) ≤ signed sv v * (y : Int) at h
    change signed (sa != false) R ≤ signed sv v
    rw [key, key2] at h
    have z1 : x * one64 = 0 → x = 0 := fun e => (Nat.mul_eq_zero.mp e).resolve_right (by omega)
    have z2 : v * y = 0 → v = 0 := fun e => (Nat.mul_eq_zero.mp e).resolve_right (by omega)
    have z3 : v = 0 → v * y = 0 := fun e => by rw [e, Nat.zero_mul]
    have z4 : x = 0 → x * one64 = 0 := fun e => by rw [e, Nat.zero_mul]
    generalize v * y = vy at *
    generalize x * one64 = xo at *
    cases sa <;> cases sv <;> simp only [signed, Bool.bne_false, Bool.false_eq_true, if_true, if_false] at h ⊢
    · have := h2 (by omega); omega
    · have := h2 (by omega); omega
    · omega
    · have := h3 (by omega); omega
theorem ddiv_ge {a b V : UInt64} (fa : Fin64 a) (fb : Fin64 b) (hb : 0 < dz b) (nV : NoNaN64 V) (h : dz V * dz b ≤ dz a * U) : dz V ≤ dz (FP.ddiv a b) := by
  obtain ⟨h1, h2, h3⟩ := ddiv_zm fa fb (by omega)
  have h2 := h2 V nV
  have h3 := h3 V
  have hU : U = (one64 : Int) := rfl
  rw [dz_def (FP.ddiv a b), h1]
  rw [hU] at h
  rw [dz_def V] at h ⊢
  rw [dz_def a] at h
  rw [dz_def b] at h hb
  have p1 := one64_pos
  generalize zmag b64 (val64 (FP.ddiv a b)) = R at *
  generalize zmag b64 (val64 V) = v at *
  generalize zmag b64 (val64 a) = x at *
  generalize zmag b64 (val64 b) = y at *
  generalize sgn (val64 a) = sa at *
  generalize sgn (val64 b) = sb at *
  generalize sgn (val64 V) = sv at *
  cases sb with
  | true => simp only [signed, if_true] at hb; omega
  | false =>
    simp only [signed, Bool.false_eq_true, if_false] at hb h ⊢
    have key : signed sv v * (y : Int) = signed sv (v * y) := (signed_mul sv v y).symm
    have key2 : signed sa x * (one64 : Int) = signed sa (x * one64) := (signed_mul sa x one64).symm
    have yp : 0 < y := by omega
    change signed sv v * (y : Int) ≤ signed sa x * (one64 : Int) at h
    change signed sv v ≤ signed (sa != false) R
    rw [key, key2] at h
    have z1 : x * one64 = 0 → x = 0 := fun e => (Nat.mul_eq_zero.mp e).resolve_right (by omega)
    have z2 : v * y = 0 → v = 0 := fun e => (Nat.mul_eq_zero.mp e).resolve_right (by omega)
    have z3 : v = 0 → v * y = 0 := fun e => by rw [e, Nat.zero_mul]
    have z4 : x = 0 → x * one64 = 0 := fun e => by rw [e, Nat.zero_mul]
    generalize v * y = vy at *
    generalize x * one64 = xo at *
    cases sa <;> cases sv <;> simp only [signed, Bool.bne_false, Bool.false_eq_true, if_true, if_false] at h ⊢
    · have := h3 (by omega); omega
    · omega
    · have := h2 (by omega); omega
    · have := h2 (by omega); omega
theorem ddiv_nn {a b : UInt64} (fa : Fin64 a) (fb : Fin64 b) (hb : dz b ≠ 0) : NoNaN64 (FP.ddiv a b) := ddiv_out fa.noNaN fb (nz_of hb)
theorem ddiv_x {a b v V : UInt64} (e : FP.ddiv a b = v) (fa : Fin64 a) (fb : Fin64 b) (hb : 0 < dz b) (fV : Fin64 V) (h : dz a * U = dz V * dz b) : Fin64 v ∧ dz v = dz V := by
  subst e
  have q : dz (FP.ddiv a b) = dz V := by
    have h1 := ddiv_le fa fb hb fV.noNaN (Int.le_of_eq h)
    have h2 := ddiv_ge fa fb hb fV.noNaN (Int.le_of_eq h.symm)
    omega
  exact ⟨fin_of (ddiv_nn fa fb (by omega)) (by rw [q]; exact fin_lt fV), q⟩
/-! the sign turned -/
theorem xor_top (a : UInt64) : a.toNat = (FP.dneg a).toNat + 2 ^ 63 ∨ (FP.dneg a).toNat = a.toNat + 2 ^ 63 := by
  have hlt := a.toNat_lt
  have e : (FP.dneg a).toNat = a.toNat ^^^ 2 ^ 63 := by rw [dneg_xor, UInt64.toNat_xor]; rfl
  have hd : (FP.dneg a).toNat % 2 ^ 63 = a.toNat % 2 ^ 63 := by
    rw [e]
    apply Nat.eq_of_testBit_eq; intro i
    simp only [Nat.testBit_mod_two_pow, Nat.testBit_xor, Nat.testBit_two_pow]
    by_cases q : i < 63
    · have : ¬ (63 = i) := by omega
      simp [q, this]
    · simp [q]
  have hb : (FP.dneg a).toNat.testBit 63 = !(a.toNat.testBit 63) := by
    rw [e, Nat.testBit_xor, Nat.testBit_two_pow_self]; simp
  have hl2 : (FP.dneg a).toNat < 2 ^ 64 := (FP.dneg a).toNat_lt
  generalize (FP.dneg a).toNat = y at *
  generalize a.toNat = x at *
  simp only [Nat.testBit, Nat.shiftRight_eq_div_pow, Nat.and_comm 1, Nat.and_one_is_mod, bne_iff_ne] at hb
  by_cases q : x < 2 ^ 63
  · right
    have h1 : x / 2 ^ 63 = 0 := Nat.div_eq_of_lt q
    have h2 : y / 2 ^ 63 ≠ 0 := by
      intro z; rw [h1, z] at hb; simp at hb
    have h3 : ¬ y < 2 ^ 63 := fun z => h2 (Nat.div_eq_of_lt z)
    omega
  · left
    have h1 : x / 2 ^ 63 = 1 := by omega
    have h3 : y < 2 ^ 63 := by
      refine Nat.lt_of_not_le fun z => ?_
      have : y / 2 ^ 63 = 1 := by omega
      rw [h1, this] at hb; simp at hb
    omega
theorem dneg_val (a : UInt64) : val64 (FP.dneg a) = negate (val64 a) := val64_neg_bits (xor_top a)
theorem dz_neg (a : UInt64) : dz (FP.dneg a) = -dz a := by unfold dz; rw [dneg_val, zval_negate]
theorem nn_neg {a : UInt64} (h : NoNaN64 a) : NoNaN64 (FP.dneg a) := val64_no.mpr (by rw [dneg_val]; exact negate_ne_nan (val64_no.mp h))
theorem fin_neg {a : UInt64} (h : Fin64 a) : Fin64 (FP.dneg a) := fin_of (nn_neg h.noNaN) (by rw [dz_neg, Int.natAbs_neg]; exact fin_lt h)
end Jvm.Own
namespace Jvm.Own
open Jvm.FP Jvm.FP.Core Jvm.Free.Fl
theorem p2_pos (j : Nat) : (0 : Int) < 2 ^ j := Int.pow_pos (by decide)
/-! against k / 2^j: what is at most (at least) that rounds to at most (at least) that -/
theorem quo_le {a b v : UInt64} {p q : Int} (e : FP.ddiv a b = v) (fa : Fin64 a) (fb : Fin64 b) (ha : dz a = p * U) (hb : dz b = q * U) (hq : 0 < q) (k : Int) (j : Nat) (hk : k.natAbs < 2 ^ 53) (hj : j ≤ 1074) (h : p * 2 ^ j ≤ k * q) : dz v * 2 ^ j ≤ k * U := by
  obtain ⟨V, fV, hV⟩ := repU k j hk hj
  have hU := U_pos
  have hp := p2_pos j
  have hbp : 0 < dz b := by rw [hb]; exact Int.mul_pos hq hU
  have key : dz a * U ≤ dz V * dz b := by
    refine Int.le_of_mul_le_mul_right ?_ hp
    rw [ha, hb, show p * U * U * 2 ^ j = p * 2 ^ j * (U * U) by generalize U = u; ac_rfl, show dz V * (q * U) * 2 ^ j = dz V * 2 ^ j * (q * U) by generalize U = u; ac_rfl, hV, show k * U * (q * U) = k * q * (U * U) by generalize U = u; ac_rfl]
    exact Int.mul_le_mul_of_nonneg_right h (Int.le_of_lt (Int.mul_pos hU hU))
  rw [← hV, ← e]
  exact Int.mul_le_mul_of_nonneg_right (ddiv_le fa fb hbp fV.noNaN key) (Int.le_of_lt hp)
theorem quo_ge {a b v : UInt64} {p q : Int} (e : FP.ddiv a b = v) (fa : Fin64 a) (fb : Fin64 b) (ha : dz a = p * U) (hb : dz b = q * U) (hq : 0 < q) (k : Int) (j : Nat) (hk : k.natAbs < 2 ^ 53) (hj : j ≤ 1074) (h : k * q ≤ p * 2 ^ j) : k * U ≤ dz v * 2 ^ j := by
  obtain ⟨V, fV, hV⟩ := repU k j hk hj
  have hU := U_pos
  have hp := p2_pos j
  have hbp : 0 < dz b := by rw [hb]; exact Int.mul_pos hq hU
  have key : dz V * dz b ≤ dz a * U := by
    refine Int.le_of_mul_le_mul_right ?_ hp
    rw [ha, hb, show p * U * U * 2 ^ j = p * 2 ^ j * (U * U) by generalize U = u; ac_rfl, show dz V * (q * U) * 2 ^ j = dz V * 2 ^ j * (q * U) by generalize U = u; ac_rfl, hV, show k * U * (q * U) = k * q * (U * U) by generalize U = u; ac_rfl]
    exact Int.mul_le_mul_of_nonneg_right h (Int.le_of_lt (Int.mul_pos hU hU))
  rw [← hV, ← e]
  exact Int.mul_le_mul_of_nonneg_right (ddiv_ge fa fb hbp fV.noNaN key) (Int.le_of_lt hp)
theorem Top_U : (2 : Int) ^ 1000 * U < (Top : Int) := by
  rw [U_pow, ← Int.pow_add, Top_pow, show ((2 ^ 2098 : Nat) : Int) = 2 ^ 2098 from Int.natCast_pow 2 2098]
  exact Int.pow_lt_pow_of_lt (by decide) (by decide)
theorem fin_bd {v : UInt64} (n : NoNaN64 v) (h1 : -(2 ^ 1000 * U) ≤ dz v) (h2 : dz v ≤ 2 ^ 1000 * U) : Fin64 v := fin_of n (by have := Top_U; omega)
theorem add_le {a b v : UInt64} (e : FP.dadd a b = v) (fa : Fin64 a) (fb : Fin64 b) (k : Int) (j : Nat) (hk : k.natAbs < 2 ^ 53) (hj : j ≤ 1074) (h : (dz a + dz b) * 2 ^ j ≤ k * U) : dz v * 2 ^ j ≤ k * U := by
  obtain ⟨V, fV, hV⟩ := repU k j hk hj
  have hp := p2_pos j
  rw [← hV] at h ⊢
  rw [← e]
  exact Int.mul_le_mul_of_nonneg_right (dadd_le fa fb fV.noNaN (Int.le_of_mul_le_mul_right h hp)) (Int.le_of_lt hp)
theorem add_ge {a b v : UInt64} (e : FP.dadd a b = v) (fa : Fin64 a) (fb : Fin64 b) (k : Int) (j : Nat) (hk : k.natAbs < 2 ^ 53) (hj : j ≤ 1074) (h : k * U ≤ (dz a + dz b) * 2 ^ j) : k * U ≤ dz v * 2 ^ j := by
  obtain ⟨V, fV, hV⟩ := repU k j hk hj
  have hp := p2_pos j
  rw [← hV] at h ⊢
  rw [← e]
  exact Int.mul_le_mul_of_nonneg_right (dadd_ge fa fb fV.noNaN (Int.le_of_mul_le_mul_right h hp)) (Int.le_of_lt hp)
theorem sub_le {a b v : UInt64} (e : FP.dsub a b = v) (fa : Fin64 a) (fb : Fin64 b) (k : Int) (j : Nat) (hk : k.natAbs < 2 ^ 53) (hj : j ≤ 1074) (h : (dz a - dz b) * 2 ^ j ≤ k * U) : dz v * 2 ^ j ≤ k * U := by
  obtain ⟨V, fV, hV⟩ := repU k j hk hj
  have hp := p2_pos j
  rw [← hV] at h ⊢
  rw [← e]
  exact Int.mul_le_mul_of_nonneg_right (dsub_le fa fb fV.noNaN (Int.le_of_mul_le_mul_right h hp)) (Int.le_of_lt hp)
theorem sub_ge {a b v : UInt64} (e : FP.dsub a b = v) (fa : Fin64 a) (fb : Fin64 b) (k : Int) (j : Nat) (hk : k.natAbs < 2 ^ 53) (hj : j ≤ 1074) (h : k * U ≤ (dz a - dz b) * 2 ^ j) : k * U ≤ dz v * 2 ^ j := by
  obtain ⟨V, fV, hV⟩ := repU k j hk hj
  have hp := p2_pos j
  rw [← hV] at h ⊢
  rw [← e]
  exact Int.mul_le_mul_of_nonneg_right (dsub_ge fa fb fV.noNaN (Int.le_of_mul_le_mul_right h hp)) (Int.le_of_lt hp)
/-- a sum, a difference of dyadics that is one of at most 53 digits is exact -/
theorem add_x {a b v : UInt64} (e : FP.dadd a b = v) (fa : Fin64 a) (fb : Fin64 b) (k : Int) (j : Nat) (hk : k.natAbs < 2 ^ 53) (hj : j ≤ 1074) (h : (dz a + dz b) * 2 ^ j = k * U) : Fin64 v ∧ dz v = dz a + dz b := by
  obtain ⟨V, fV, hV⟩ := repU k j hk hj
  exact dadd_x e fa fb fV (Int.eq_of_mul_eq_mul_right (by have := p2_pos j; omega) (h.trans hV.symm))
theorem sub_x {a b v : UInt64} (e : FP.dsub a b = v) (fa : Fin64 a) (fb : Fin64 b) (k : Int) (j : Nat) (hk : k.natAbs < 2 ^ 53) (hj : j ≤ 1074) (h : (dz a - dz b) * 2 ^ j = k * U) : Fin64 v ∧ dz v = dz a - dz b := by
  obtain ⟨V, fV, hV⟩ := repU k j hk hj
  exact dsub_x e fa fb fV (Int.eq_of_mul_eq_mul_right (by have := p2_pos j; omega) (h.trans hV.symm))
theorem quo_x {a b v : UInt64} {p q : Int} (e : FP.ddiv a b = v) (fa : Fin64 a) (fb : Fin64 b) (ha : dz a = p * U) (hb : dz b = q * U) (hq : 0 < q) (k : Int) (j : Nat) (hk : k.natAbs < 2 ^ 53) (hj : j ≤ 1074) (h : p * 2 ^ j = k * q) : Fin64 v ∧ dz v * 2 ^ j = k * U := by
  obtain ⟨V, fV, hV⟩ := repU k j hk hj
  have h1 := quo_le e fa fb ha hb hq k j hk hj (Int.le_of_eq h)
  have h2 := quo_ge e fa fb ha hb hq k j hk hj (Int.le_of_eq h.symm)
  have h3 : dz v * 2 ^ j = k * U := by omega
  have h4 : dz v = dz V := Int.eq_of_mul_eq_mul_right (by have := p2_pos j; omega) (h3.trans hV.symm)
  refine ⟨fin_of ?_ (by rw [h4]; exact fin_lt fV), h3⟩
  rw [← e]
  exact ddiv_nn fa fb (by rw [hb]; have := Int.mul_pos hq U_pos; omega)
theorem quo_nn {a b v : UInt64} {q : Int} (e : FP.ddiv a b = v) (fa : Fin64 a) (fb : Fin64 b) (hb : dz b = q * U) (hq : 0 < q) : NoNaN64 v := by
  rw [← e]; exact ddiv_nn fa fb (by rw [hb]; have := Int.mul_pos hq U_pos; omega)
end Jvm.Own
namespace Jvm.Own
open Jvm.FP Jvm.FP.Core Jvm.Free.Fl
theorem fin_2 : Fin64 4611686018427387904 := by unfold Fin64; decide
theorem nz_2 : Nz64 4611686018427387904 := by unfold Nz64; decide
theorem dz_2 : dz 4611686018427387904 = 2 * U := by
  have e : FP.dadd 4607182418800017408 4607182418800017408 = 4611686018427387904 := by decide +kernel
  have h := (add_x e fin_1 fin_1 2 0 (by decide) (by decide) (by rw [dz_1, Int.pow_zero]; omega)).2
  rw [h, dz_1]; omega
end Jvm.Own
namespace Jvm.Own
theorem ite_I {P : Prop} [Decidable P] {a b v : Int32} (e : (if P then a else b) = v) : (P → v.toInt = a.toInt) ∧ (¬ P → v.toInt = b.toInt) := by
  subst e; exact ⟨fun q => by rw [if_pos q], fun q => by rw [if_neg q]⟩
end Jvm.Own
namespace Jvm.Own
open Jvm.FP Jvm.FP.Core Jvm.Free.Fl
theorem add0 {a v : UInt64} (e : FP.dadd a 0 = v) (fa : Fin64 a) : Fin64 v ∧ dz v = dz a := by
  obtain ⟨h1, h2⟩ := dadd_x e fa fin_0 fa (by rw [dz_0]; omega)
  exact ⟨h1, by rw [h2, dz_0]; omega⟩
end Jvm.Own
namespace Jvm.Own
open Jvm.FP Jvm.FP.Core Jvm.Free.Fl
/-! a divisor below nought -/
theorem ddiv_leN {a b V : UInt64} (fa : Fin64 a) (fb : Fin64 b) (hb : dz b < 0) (nV : NoNaN64 V) (h : dz V * dz b ≤ dz a * U) : dz (FP.ddiv a b) ≤ dz V := by
  obtain ⟨h1, h2, h3⟩ := ddiv_zm fa fb (by omega)
  have h2 := h2 V nV
  have h3 := h3 V
  have hU : U = (one64 : Int) := rfl
  rw [dz_def (FP.ddiv a b), h1]
  rw [hU] at h
  rw [dz_def V] at h ⊢
  rw [dz_def a] at h
  rw [dz_def b] at h hb
  have p1 := one64_pos
  generalize zmag b64 (val64 (FP.ddiv a b)) = R at *
  generalize zmag b64 (val64 V) = v at *
  generalize zmag b64 (val64 a) = x at *
  generalize zmag b64 (val64 b) = y at *
  generalize sgn (val64 a) = sa at *
  generalize sgn (val64 b) = sb at *
  generalize sgn (val64 V) = sv at *
  cases sb with
  | false => simp only [signed, Bool.false_eq_true, if_false] at hb; omega
  | true =>
    simp only [signed, if_true] at hb
    change signed sv v * (-(y : Int)) ≤ signed sa x * (one64 : Int) at h
    change signed (sa != true) R ≤ signed sv v
    have key : signed sv v * (y : Int) = signed sv (v * y) := (signed_mul sv v y).symm
    have key2 : signed sa x * (one64 : Int) = signed sa (x * one64) := (signed_mul sa x one64).symm
    have yp : 0 < y := by omega
    rw [Int.mul_neg, key, key2] at h
    have z2 : v * y = 0 → v = 0 := fun e => (Nat.mul_eq_zero.mp e).resolve_right (by omega)
    have z3 : v = 0 → v * y = 0 := fun e => by rw [e, Nat.zero_mul]
    have z4 : x = 0 → x * one64 = 0 := fun e => by rw [e, Nat.zero_mul]
    generalize v * y = vy at *
    generalize x * one64 = xo at *
    cases sa <;> cases sv <;> simp only [signed, Bool.bne_true, Bool.not_false, Bool.not_true, Bool.false_eq_true, if_true, if_false] at h ⊢
    · omega
    · have := h3 (by omega); omega
    · have := h2 (by omega); omega
    · have := h2 (by omega); omega
theorem ddiv_geN {a b V : UInt64} (fa : Fin64 a) (fb : Fin64 b) (hb : dz b < 0) (nV : NoNaN64 V) (h : dz a * U ≤ dz V * dz b) : dz V ≤ dz (FP.ddiv a b) := by
  obtain ⟨h1, h2, h3⟩ := ddiv_zm fa fb (by omega)
  have h2 := h2 V nV
  have h3 := h3 V
  have hU : U = (one64 : Int) := rfl
  rw [dz_def (FP.ddiv a b), h1]
  rw [hU] at h
  rw [dz_def V] at h ⊢
  rw [dz_def a] at h
  rw [dz_def b] at h hb
  have p1 := one64_pos
  generalize zmag b64 (val64 (FP.ddiv a b)) = R at *
  generalize zmag b64 (val64 V) = v at *
  generalize zmag b64 (val64 a) = x at *
  generalize zmag b64 (val64 b) = y at *
  generalize sgn (val64 a) = sa at *
  generalize sgn (val64 b) = sb at *
  generalize sgn (val64 V) = sv at *
  cases sb with
  | false => simp only [signed, Bool.false_eq_true, if_false] at hb; omega
  | true =>
    simp only [signed, if_true] at hb
    change signed sa x * (one64 : Int) ≤ signed sv v * (-(y : Int)) at h
    change signed sv v ≤ signed (sa != true) R
    have key : signed sv v * (y : Int) = signed sv (v * y) := (signed_mul sv v y).symm
    have key2 : signed sa x * (one64 : Int) = signed sa (x * one64) := (signed_mul sa x one64).symm
    have yp : 0 < y := by omega
    rw [Int.mul_neg, key, key2] at h
    have z2 : v * y = 0 → v = 0 := fun e => (Nat.mul_eq_zero.mp e).resolve_right (by omega)
    have z3 : v = 0 → v * y = 0 := fun e => by rw [e, Nat.zero_mul]
    have z4 : x = 0 → x * one64 = 0 := fun e => by rw [e, Nat.zero_mul]
    generalize v * y = vy at *
    generalize x * one64 = xo at *
    cases sa <;> cases sv <;> simp only [signed, Bool.bne_true, Bool.not_false, Bool.not_true, Bool.false_eq_true, if_true, if_false] at h ⊢
    · have := h2 (by omega); omega
    · have := h2 (by omega); omega
    · have := h3 (by omega); omega
    · omega
/-- a whole number's multiple, divided by it -/
theorem ddiv_mul {a b v : UInt64} {m q : Int} (e : FP.ddiv a b = v) (fa : Fin64 a) (fb : Fin64 b) (ha : dz a = m * q * U) (hb : dz b = q * U) (hq : q ≠ 0) (hm : m.natAbs < 2 ^ 53) : NoNaN64 v ∧ dz v = m * U := by
  obtain ⟨V, fV, hV⟩ := repU m 0 hm (by decide)
  rw [Int.pow_zero, Int.mul_one] at hV
  have hU := U_pos
  have k1 : dz a * U = dz V * dz b := by rw [ha, hb, hV]; generalize U = u; ac_rfl
  have hbz : dz b ≠ 0 := by rw [hb]; intro z; rcases Int.mul_eq_zero.mp z with z | z <;> omega
  subst e
  refine ⟨ddiv_nn fa fb hbz, ?_⟩
  rw [← hV]
  rcases Int.lt_or_gt_of_ne hbz with z | z
  · exact Int.le_antisymm (ddiv_leN fa fb z fV.noNaN (Int.le_of_eq k1.symm)) (ddiv_geN fa fb z fV.noNaN (Int.le_of_eq k1))
  · exact Int.le_antisymm (ddiv_le fa fb z fV.noNaN (Int.le_of_eq k1)) (ddiv_ge fa fb z fV.noNaN (Int.le_of_eq k1.symm))
end Jvm.Own
namespace Jvm.Own
open Jvm.FP Jvm.FP.Core Jvm.Free.Fl
theorem abs_max {u : UInt64} (h : Fin64 u) : dz (u &&& 0x7fffffffffffffff) ≤ dz 9218868437227405311 :=
  (dcmp_le.mp ((le_max (noNaN64_no.mp h.noNaN)).mpr (fin64_core.mp h))).2.2
end Jvm.Own
namespace Jvm.Own
open Jvm.FP Jvm.FP.Core Jvm.Free.Fl
/-- finite, and of a magnitude of at most A -/
def Bd (x : UInt64) (A : Int) : Prop := Fin64 x ∧ -(A * U) ≤ dz x ∧ dz x ≤ A * U
theorem Bd.fin {x : UInt64} {A : Int} (h : Bd x A) : Fin64 x := h.1
theorem big_U {A : Int} (h : A.natAbs < 2 ^ 53) : A * U ≤ 2 ^ 1000 * U ∧ -(2 ^ 1000 * U) ≤ A * U := by
  have z : (2 : Int) ^ 53 ≤ 2 ^ 1000 := by
    have h1 := Nat.pow_le_pow_right (n := 2) (by decide) (show 53 ≤ 1000 by decide)
    have e1 : ((2 ^ 53 : Nat) : Int) = 2 ^ 53 := Int.natCast_pow 2 53
    have e2 : ((2 ^ 1000 : Nat) : Int) = 2 ^ 1000 := Int.natCast_pow 2 1000
    rw [← e1, ← e2]; exact Int.ofNat_le.mpr h1
  have e : (2 : Int) ^ 53 = 9007199254740992 := by decide
  have hU := U_pos
  have a1 : A * U ≤ 2 ^ 1000 * U := Int.mul_le_mul_of_nonneg_right (by omega) (Int.le_of_lt hU)
  have a2 : (-(2 ^ 1000)) * U ≤ A * U := Int.mul_le_mul_of_nonneg_right (by omega) (Int.le_of_lt hU)
  rw [Int.neg_mul] at a2
  exact ⟨a1, a2⟩
theorem Bd.int {x : UInt64} {i A : Int} (f : Fin64 x) (z : dz x = i * U) (h1 : -A ≤ i) (h2 : i ≤ A) : Bd x A := by
  have hU := U_pos
  have a1 : i * U ≤ A * U := Int.mul_le_mul_of_nonneg_right h2 (Int.le_of_lt hU)
  have a2 : (-A) * U ≤ i * U := Int.mul_le_mul_of_nonneg_right h1 (Int.le_of_lt hU)
  rw [Int.neg_mul] at a2
  exact ⟨f, by omega, by omega⟩
theorem Bd.add {a b v : UInt64} {A B : Int} (e : FP.dadd a b = v) (ha : Bd a A) (hb : Bd b B) (h : (A + B).natAbs < 2 ^ 53) : Bd v (A + B) := by
  obtain ⟨fa, a1, a2⟩ := ha
  obtain ⟨fb, b1, b2⟩ := hb
  have h1 := add_le e fa fb (A + B) 0 h (by decide) (by rw [Int.pow_zero, Int.mul_one, Int.add_mul]; omega)
  have h2 := add_ge e fa fb (-(A + B)) 0 (by omega) (by decide) (by rw [Int.pow_zero, Int.mul_one, Int.neg_mul, Int.add_mul]; omega)
  rw [Int.pow_zero, Int.mul_one] at h1 h2
  rw [Int.neg_mul] at h2
  have := big_U h
  exact ⟨fin_bd (e ▸ dadd_out fa.noNaN fb) (by omega) (by omega), h2, h1⟩
theorem Bd.sub {a b v : UInt64} {A B : Int} (e : FP.dsub a b = v) (ha : Bd a A) (hb : Bd b B) (h : (A + B).natAbs < 2 ^ 53) : Bd v (A + B) := by
  obtain ⟨fa, a1, a2⟩ := ha
  obtain ⟨fb, b1, b2⟩ := hb
  have h1 := sub_le e fa fb (A + B) 0 h (by decide) (by rw [Int.pow_zero, Int.mul_one, Int.add_mul]; omega)
  have h2 := sub_ge e fa fb (-(A + B)) 0 (by omega) (by decide) (by rw [Int.pow_zero, Int.mul_one, Int.neg_mul, Int.add_mul]; omega)
  rw [Int.pow_zero, Int.mul_one] at h1 h2
  rw [Int.neg_mul] at h2
  have := big_U h
  exact ⟨fin_bd (e ▸ dsub_out fa.noNaN fb) (by omega) (by omega), h2, h1⟩
theorem Bd.mono {x : UInt64} {A B : Int} (h : Bd x A) (q : A ≤ B) : Bd x B := by
  have a1 : A * U ≤ B * U := Int.mul_le_mul_of_nonneg_right q (Int.le_of_lt U_pos)
  exact ⟨h.1, by have := h.2.1; omega, by have := h.2.2; omega⟩
theorem Bd.i2d {x : Int32} {v : UInt64} (e : FP.i2d x = v) : Bd v 2147483648 := by
  obtain ⟨f, z⟩ := i2d_v e
  have h1 := Int32.le_toInt x
  have h2 := Int32.toInt_lt x
  exact Bd.int f z (by omega) (by omega)
end Jvm.Own
namespace Jvm.Own
open Jvm.FP Jvm.FP.Core Jvm.Free.Fl
theorem mul_le' {a b v : UInt64} (e : FP.dmul a b = v) (fa : Fin64 a) (fb : Fin64 b) (k : Int) (hk : k.natAbs < 2 ^ 53) (h : dz a * dz b ≤ k * U * U) : dz v ≤ k * U := by
  obtain ⟨V, fV, hV⟩ := repU k 0 hk (by decide)
  rw [Int.pow_zero, Int.mul_one] at hV
  rw [← hV, ← e]
  exact dmul_le fa fb fV.noNaN (by rw [hV]; exact h)
theorem mul_ge' {a b v : UInt64} (e : FP.dmul a b = v) (fa : Fin64 a) (fb : Fin64 b) (k : Int) (hk : k.natAbs < 2 ^ 53) (h : k * U * U ≤ dz a * dz b) : k * U ≤ dz v := by
  obtain ⟨V, fV, hV⟩ := repU k 0 hk (by decide)
  rw [Int.pow_zero, Int.mul_one] at hV
  rw [← hV, ← e]
  exact dmul_ge fa fb fV.noNaN (by rw [hV]; exact h)
theorem abs_mul_le {x y A B : Int} (h1 : -A ≤ x) (h2 : x ≤ A) (h3 : -B ≤ y) (h4 : y ≤ B) : -(A * B) ≤ x * y ∧ x * y ≤ A * B := by
  have e : (x * y).natAbs = x.natAbs * y.natAbs := Int.natAbs_mul x y
  have e2 : x.natAbs * y.natAbs ≤ A.natAbs * B.natAbs := Nat.mul_le_mul (by omega) (by omega)
  have e3 : (A * B).natAbs = A.natAbs * B.natAbs := Int.natAbs_mul A B
  have e4 : 0 ≤ A * B := Int.mul_nonneg (by omega) (by omega)
  omega
theorem Bd.mul {a b v : UInt64} {A B : Int} (e : FP.dmul a b = v) (ha : Bd a A) (hb : Bd b B) (h : (A * B).natAbs < 2 ^ 53) : Bd v (A * B) := by
  obtain ⟨fa, a1, a2⟩ := ha
  obtain ⟨fb, b1, b2⟩ := hb
  obtain ⟨q1, q2⟩ := abs_mul_le a1 a2 b1 b2
  have r1 : A * U * (B * U) = A * B * U * U := by generalize U = u; ac_rfl
  rw [r1] at q1 q2
  have h1 := mul_le' e fa fb (A * B) h q2
  have h2 := mul_ge' e fa fb (-(A * B)) (by omega) (by rw [Int.neg_mul, Int.neg_mul]; exact q1)
  rw [Int.neg_mul] at h2
  have := big_U h
  exact ⟨fin_bd (e ▸ dmul_out fa fb) (by omega) (by omega), h2, h1⟩
end Jvm.Own

namespace Jvm.Pilot.@@N@@
open Jvm Jvm.ClassFile Sem Op Lib Jvm.Free Jvm.Stand Jvm.LawKit Jvm.RoadKit Bundle Jvm.Free.Fl Jvm.Pilot.@@N@@.Jvm.D
abbrev mn_0 : MethodName := (⟨"java/lang/Math", "min", "(II)I"⟩ : MethodName)
abbrev mn_1 : MethodName := (⟨"java/lang/Math", "max", "(II)I"⟩ : MethodName)
theorem pn_com_example_pliant_pliant_ml_CurvatureDotPinLaw : plainName "com/example/pliant/pliant/ml/CurvatureDotPinLaw" = true := by first | (simp [plainName, overriddenIn]; done) | decide +kernel
abbrev mn_2 : MethodName := (⟨"com/example/pliant/pliant/ml/CurvatureDotPinLaw", "v", "(II)D"⟩ : MethodName)
theorem pn_com_example_pliant_pliant_ml_Curvature : plainName "com/example/pliant/pliant/ml/Curvature" = true := by first | (simp [plainName, overriddenIn]; done) | decide +kernel
abbrev mn_3 : MethodName := (⟨"com/example/pliant/pliant/ml/Curvature", "<init>", "(I)V"⟩ : MethodName)
abbrev mn_4 : MethodName := (⟨"com/example/pliant/pliant/ml/Curvature", "step", "(I)I"⟩ : MethodName)
abbrev mn_5 : MethodName := (⟨"com/example/pliant/pliant/ml/Curvature", "change", "(I)I"⟩ : MethodName)
abbrev mn_6 : MethodName := (⟨"com/example/pliant/pliant/ml/Curvature", "gradient", "()I"⟩ : MethodName)
abbrev mn_7 : MethodName := (⟨"com/example/pliant/pliant/ml/Curvature", "contains", "(I)Z"⟩ : MethodName)
abbrev mn_8 : MethodName := (⟨"com/example/pliant/pliant/ml/Curvature", "set", "(I[D)V"⟩ : MethodName)
theorem pd_9 : parseMethodDescriptor "(I)I" = some ⟨[.int], some .int⟩ := by decide +kernel
theorem pd_10 : parseMethodDescriptor "(I[D)V" = some ⟨[.int, (.array .double)], none⟩ := by decide +kernel
abbrev mn_11 : MethodName := (⟨"com/example/pliant/pliant/ml/Curvature", "add", "(I[D[D[D)V"⟩ : MethodName)
theorem pd_12 : parseMethodDescriptor "()I" = some ⟨[], some .int⟩ := by decide +kernel
theorem pd_13 : parseMethodDescriptor "(I)Z" = some ⟨[.int], some .boolean⟩ := by decide +kernel
abbrev mn_14 : MethodName := (⟨"com/example/pliant/pliant/ml/Curvature", "dot", "([DI)D"⟩ : MethodName)
theorem pd_15 : parseMethodDescriptor "(II)I" = some ⟨[.int, .int], some .int⟩ := by decide +kernel
abbrev mn_16 : MethodName := (⟨"com/example/pliant/pliant/ml/CurvatureDotPinLaw", "entry", "(IIDDDDDD)D"⟩ : MethodName)
theorem pd_17 : parseMethodDescriptor "(II)D" = some ⟨[.int, .int], some .double⟩ := by decide +kernel
theorem pd_18 : parseMethodDescriptor "(I)V" = some ⟨[.int], none⟩ := by decide +kernel
theorem pd_19 : parseMethodDescriptor "(I[D[D[D)V" = some ⟨[.int, (.array .double), (.array .double), (.array .double)], none⟩ := by decide +kernel
theorem pd_20 : parseMethodDescriptor "([DI)D" = some ⟨[(.array .double), .int], some .double⟩ := by decide +kernel
theorem pd_21 : parseMethodDescriptor "(IIDDDDDD)D" = some ⟨[.int, .int, .double, .double, .double, .double, .double, .double], some .double⟩ := by decide +kernel
theorem d12_0 : decode jdk_29_method_69_code 0 = .ok (.iload_n 0, 1) := by decide +kernel
theorem d12_1 : decode jdk_29_method_69_code 1 = .ok (.iload_n 1, 1) := by decide +kernel
theorem d12_2 : decode jdk_29_method_69_code 2 = .ok (.if_icmp .gt 7, 3) := by decide +kernel
theorem d12_9 : decode jdk_29_method_69_code 9 = .ok (.iload_n 1, 1) := by decide +kernel
theorem d12_5 : decode jdk_29_method_69_code 5 = .ok (.iload_n 0, 1) := by decide +kernel
theorem d12_6 : decode jdk_29_method_69_code 6 = .ok (.goto 4, 3) := by decide +kernel
theorem d12_10 : decode jdk_29_method_69_code 10 = .ok (.ireturn, 1) := by decide +kernel
theorem d13_0 : decode jdk_29_method_65_code 0 = .ok (.iload_n 0, 1) := by decide +kernel
theorem d13_1 : decode jdk_29_method_65_code 1 = .ok (.iload_n 1, 1) := by decide +kernel
theorem d13_2 : decode jdk_29_method_65_code 2 = .ok (.if_icmp .lt 7, 3) := by decide +kernel
theorem d13_9 : decode jdk_29_method_65_code 9 = .ok (.iload_n 1, 1) := by decide +kernel
theorem d13_5 : decode jdk_29_method_65_code 5 = .ok (.iload_n 0, 1) := by decide +kernel
theorem d13_6 : decode jdk_29_method_65_code 6 = .ok (.goto 4, 3) := by decide +kernel
theorem d13_10 : decode jdk_29_method_65_code 10 = .ok (.ireturn, 1) := by decide +kernel
theorem d1_0 : decode method_2_code 0 = .ok (.iload_n 0, 1) := by decide +kernel
theorem d1_1 : decode method_2_code 1 = .ok (.bipush 8, 2) := by decide +kernel
theorem d1_3 : decode method_2_code 3 = .ok (.iload_n 1, 1) := by decide +kernel
theorem d1_4 : decode method_2_code 4 = .ok (.imul, 1) := by decide +kernel
theorem d1_5 : decode method_2_code 5 = .ok (.iushr, 1) := by decide +kernel
theorem d1_6 : decode method_2_code 6 = .ok (.sipush 255, 3) := by decide +kernel
theorem d1_9 : decode method_2_code 9 = .ok (.iand, 1) := by decide +kernel
theorem d1_10 : decode method_2_code 10 = .ok (.sipush 128, 3) := by decide +kernel
theorem d1_13 : decode method_2_code 13 = .ok (.isub, 1) := by decide +kernel
theorem d1_14 : decode method_2_code 14 = .ok (.i2d, 1) := by decide +kernel
theorem d1_15 : decode method_2_code 15 = .ok (.dreturn, 1) := by decide +kernel
theorem d2_0 : decode prog_94_method_1_code 0 = .ok (.aload_n 0, 1) := by decide +kernel
theorem d2_1 : decode prog_94_method_1_code 1 = .ok (.invokespecial 1, 3) := by decide +kernel
theorem d2_4 : decode prog_94_method_1_code 4 = .ok (.aload_n 0, 1) := by decide +kernel
theorem d2_5 : decode prog_94_method_1_code 5 = .ok (.iconst 0, 1) := by decide +kernel
theorem d2_6 : decode prog_94_method_1_code 6 = .ok (.newarray .int, 2) := by decide +kernel
theorem d2_8 : decode prog_94_method_1_code 8 = .ok (.putfield 7, 3) := by decide +kernel
theorem d2_11 : decode prog_94_method_1_code 11 = .ok (.aload_n 0, 1) := by decide +kernel
theorem d2_12 : decode prog_94_method_1_code 12 = .ok (.iload_n 1, 1) := by decide +kernel
theorem d2_13 : decode prog_94_method_1_code 13 = .ok (.putfield 13, 3) := by decide +kernel
theorem d2_16 : decode prog_94_method_1_code 16 = .ok (.aload_n 0, 1) := by decide +kernel
theorem d2_17 : decode prog_94_method_1_code 17 = .ok (.iconst 2, 1) := by decide +kernel
theorem d2_18 : decode prog_94_method_1_code 18 = .ok (.iload_n 1, 1) := by decide +kernel
theorem d2_19 : decode prog_94_method_1_code 19 = .ok (.imul, 1) := by decide +kernel
theorem d2_20 : decode prog_94_method_1_code 20 = .ok (.iconst 1, 1) := by decide +kernel
theorem d2_21 : decode prog_94_method_1_code 21 = .ok (.iadd, 1) := by decide +kernel
theorem d2_22 : decode prog_94_method_1_code 22 = .ok (.iconst 2, 1) := by decide +kernel
theorem d2_23 : decode prog_94_method_1_code 23 = .ok (.iload_n 1, 1) := by decide +kernel
theorem d2_24 : decode prog_94_method_1_code 24 = .ok (.imul, 1) := by decide +kernel
theorem d2_25 : decode prog_94_method_1_code 25 = .ok (.iconst 1, 1) := by decide +kernel
theorem d2_26 : decode prog_94_method_1_code 26 = .ok (.iadd, 1) := by decide +kernel
theorem d2_27 : decode prog_94_method_1_code 27 = .ok (.multianewarray 17 2, 4) := by decide +kernel
theorem d2_31 : decode prog_94_method_1_code 31 = .ok (.putfield 19, 3) := by decide +kernel
theorem d2_34 : decode prog_94_method_1_code 34 = .ok (.return_, 1) := by decide +kernel
theorem d5_0 : decode prog_94_method_3_code 0 = .ok (.iload_n 1, 1) := by decide +kernel
theorem d5_1 : decode prog_94_method_3_code 1 = .ok (.ireturn, 1) := by decide +kernel
theorem d7_0 : decode prog_94_method_4_code 0 = .ok (.aload_n 0, 1) := by decide +kernel
theorem d7_1 : decode prog_94_method_4_code 1 = .ok (.getfield 13, 3) := by decide +kernel
theorem d7_4 : decode prog_94_method_4_code 4 = .ok (.iload_n 1, 1) := by decide +kernel
theorem d7_5 : decode prog_94_method_4_code 5 = .ok (.iadd, 1) := by decide +kernel
theorem d7_6 : decode prog_94_method_4_code 6 = .ok (.ireturn, 1) := by decide +kernel
theorem d8_0 : decode prog_94_method_5_code 0 = .ok (.iconst 2, 1) := by decide +kernel
theorem d8_1 : decode prog_94_method_5_code 1 = .ok (.aload_n 0, 1) := by decide +kernel
theorem d8_2 : decode prog_94_method_5_code 2 = .ok (.getfield 13, 3) := by decide +kernel
theorem d8_5 : decode prog_94_method_5_code 5 = .ok (.imul, 1) := by decide +kernel
theorem d8_6 : decode prog_94_method_5_code 6 = .ok (.ireturn, 1) := by decide +kernel
theorem d9_0 : decode prog_94_method_14_code 0 = .ok (.aload_n 0, 1) := by decide +kernel
theorem d9_1 : decode prog_94_method_14_code 1 = .ok (.getfield 7, 3) := by decide +kernel
theorem d9_4 : decode prog_94_method_14_code 4 = .ok (.astore_n 2, 1) := by decide +kernel
theorem d9_5 : decode prog_94_method_14_code 5 = .ok (.aload_n 2, 1) := by decide +kernel
theorem d9_6 : decode prog_94_method_14_code 6 = .ok (.arraylength, 1) := by decide +kernel
theorem d9_7 : decode prog_94_method_14_code 7 = .ok (.istore_n 3, 1) := by decide +kernel
theorem d9_8 : decode prog_94_method_14_code 8 = .ok (.iconst 0, 1) := by decide +kernel
theorem d9_9 : decode prog_94_method_14_code 9 = .ok (.istore 4, 2) := by decide +kernel
theorem d9_11 : decode prog_94_method_14_code 11 = .ok (.iload 4, 2) := by decide +kernel
theorem d9_13 : decode prog_94_method_14_code 13 = .ok (.iload_n 3, 1) := by decide +kernel
theorem d9_14 : decode prog_94_method_14_code 14 = .ok (.if_icmp .ge 23, 3) := by decide +kernel
theorem d9_37 : decode prog_94_method_14_code 37 = .ok (.iconst 0, 1) := by decide +kernel
theorem d9_38 : decode prog_94_method_14_code 38 = .ok (.ireturn, 1) := by decide +kernel
theorem d6_0 : decode prog_94_method_15_code 0 = .ok (.iconst 0, 1) := by decide +kernel
theorem d6_1 : decode prog_94_method_15_code 1 = .ok (.istore_n 3, 1) := by decide +kernel
theorem d6_2 : decode prog_94_method_15_code 2 = .ok (.iload_n 3, 1) := by decide +kernel
theorem d6_3 : decode prog_94_method_15_code 3 = .ok (.aload_n 0, 1) := by decide +kernel
theorem d6_4 : decode prog_94_method_15_code 4 = .ok (.getfield 19, 3) := by decide +kernel
theorem d6_7 : decode prog_94_method_15_code 7 = .ok (.arraylength, 1) := by decide +kernel
theorem d6_8 : decode prog_94_method_15_code 8 = .ok (.if_icmp .ge 31, 3) := by decide +kernel
theorem d6_11 : decode prog_94_method_15_code 11 = .ok (.aload_n 0, 1) := by decide +kernel
theorem d6_12 : decode prog_94_method_15_code 12 = .ok (.getfield 19, 3) := by decide +kernel
theorem d6_15 : decode prog_94_method_15_code 15 = .ok (.iload_n 1, 1) := by decide +kernel
theorem d6_16 : decode prog_94_method_15_code 16 = .ok (.aaload, 1) := by decide +kernel
theorem d6_17 : decode prog_94_method_15_code 17 = .ok (.iload_n 3, 1) := by decide +kernel
theorem d6_18 : decode prog_94_method_15_code 18 = .ok (.aload_n 2, 1) := by decide +kernel
theorem d6_19 : decode prog_94_method_15_code 19 = .ok (.iload_n 3, 1) := by decide +kernel
theorem d6_20 : decode prog_94_method_15_code 20 = .ok (.daload, 1) := by decide +kernel
theorem d6_21 : decode prog_94_method_15_code 21 = .ok (.dastore, 1) := by decide +kernel
theorem d6_22 : decode prog_94_method_15_code 22 = .ok (.aload_n 0, 1) := by decide +kernel
theorem d6_23 : decode prog_94_method_15_code 23 = .ok (.getfield 19, 3) := by decide +kernel
theorem d6_26 : decode prog_94_method_15_code 26 = .ok (.iload_n 3, 1) := by decide +kernel
theorem d6_27 : decode prog_94_method_15_code 27 = .ok (.aaload, 1) := by decide +kernel
theorem d6_28 : decode prog_94_method_15_code 28 = .ok (.iload_n 1, 1) := by decide +kernel
theorem d6_29 : decode prog_94_method_15_code 29 = .ok (.aload_n 2, 1) := by decide +kernel
theorem d6_30 : decode prog_94_method_15_code 30 = .ok (.iload_n 3, 1) := by decide +kernel
theorem d6_31 : decode prog_94_method_15_code 31 = .ok (.daload, 1) := by decide +kernel
theorem d6_32 : decode prog_94_method_15_code 32 = .ok (.dastore, 1) := by decide +kernel
theorem d6_33 : decode prog_94_method_15_code 33 = .ok (.iinc 3 1, 3) := by decide +kernel
theorem d6_36 : decode prog_94_method_15_code 36 = .ok (.goto (-34), 3) := by decide +kernel
theorem d6_39 : decode prog_94_method_15_code 39 = .ok (.return_, 1) := by decide +kernel
theorem d4_0 : decode prog_94_method_9_code 0 = .ok (.aload_n 0, 1) := by decide +kernel
theorem d4_1 : decode prog_94_method_9_code 1 = .ok (.aload_n 0, 1) := by decide +kernel
theorem d4_2 : decode prog_94_method_9_code 2 = .ok (.iload_n 1, 1) := by decide +kernel
theorem d4_3 : decode prog_94_method_9_code 3 = .ok (.invokevirtual 34, 3) := by decide +kernel
theorem d4_6 : decode prog_94_method_9_code 6 = .ok (.aload_n 2, 1) := by decide +kernel
theorem d4_7 : decode prog_94_method_9_code 7 = .ok (.invokevirtual 30, 3) := by decide +kernel
theorem d4_10 : decode prog_94_method_9_code 10 = .ok (.aload_n 0, 1) := by decide +kernel
theorem d4_11 : decode prog_94_method_9_code 11 = .ok (.aload_n 0, 1) := by decide +kernel
theorem d4_12 : decode prog_94_method_9_code 12 = .ok (.iload_n 1, 1) := by decide +kernel
theorem d4_13 : decode prog_94_method_9_code 13 = .ok (.invokevirtual 38, 3) := by decide +kernel
theorem d4_16 : decode prog_94_method_9_code 16 = .ok (.aload_n 3, 1) := by decide +kernel
theorem d4_17 : decode prog_94_method_9_code 17 = .ok (.invokevirtual 30, 3) := by decide +kernel
theorem d4_20 : decode prog_94_method_9_code 20 = .ok (.aload_n 0, 1) := by decide +kernel
theorem d4_21 : decode prog_94_method_9_code 21 = .ok (.aload_n 0, 1) := by decide +kernel
theorem d4_22 : decode prog_94_method_9_code 22 = .ok (.invokevirtual 26, 3) := by decide +kernel
theorem d4_25 : decode prog_94_method_9_code 25 = .ok (.aload 4, 2) := by decide +kernel
theorem d4_27 : decode prog_94_method_9_code 27 = .ok (.invokevirtual 30, 3) := by decide +kernel
theorem d4_30 : decode prog_94_method_9_code 30 = .ok (.aload_n 0, 1) := by decide +kernel
theorem d4_31 : decode prog_94_method_9_code 31 = .ok (.getfield 7, 3) := by decide +kernel
theorem d4_34 : decode prog_94_method_9_code 34 = .ok (.arraylength, 1) := by decide +kernel
theorem d4_35 : decode prog_94_method_9_code 35 = .ok (.aload_n 0, 1) := by decide +kernel
theorem d4_36 : decode prog_94_method_9_code 36 = .ok (.iload_n 1, 1) := by decide +kernel
theorem d4_37 : decode prog_94_method_9_code 37 = .ok (.invokevirtual 22, 3) := by decide +kernel
theorem d4_40 : decode prog_94_method_9_code 40 = .ok (.ifCond .eq 7, 3) := by decide +kernel
theorem d4_47 : decode prog_94_method_9_code 47 = .ok (.iconst 1, 1) := by decide +kernel
theorem d4_48 : decode prog_94_method_9_code 48 = .ok (.iadd, 1) := by decide +kernel
theorem d4_49 : decode prog_94_method_9_code 49 = .ok (.newarray .int, 2) := by decide +kernel
theorem d4_51 : decode prog_94_method_9_code 51 = .ok (.astore 5, 2) := by decide +kernel
theorem d4_53 : decode prog_94_method_9_code 53 = .ok (.iconst 0, 1) := by decide +kernel
theorem d4_54 : decode prog_94_method_9_code 54 = .ok (.istore 6, 2) := by decide +kernel
theorem d4_56 : decode prog_94_method_9_code 56 = .ok (.aload_n 0, 1) := by decide +kernel
theorem d4_57 : decode prog_94_method_9_code 57 = .ok (.getfield 7, 3) := by decide +kernel
theorem d4_60 : decode prog_94_method_9_code 60 = .ok (.astore 7, 2) := by decide +kernel
theorem d4_62 : decode prog_94_method_9_code 62 = .ok (.aload 7, 2) := by decide +kernel
theorem d4_64 : decode prog_94_method_9_code 64 = .ok (.arraylength, 1) := by decide +kernel
theorem d4_65 : decode prog_94_method_9_code 65 = .ok (.istore 8, 2) := by decide +kernel
theorem d4_67 : decode prog_94_method_9_code 67 = .ok (.iconst 0, 1) := by decide +kernel
theorem d4_68 : decode prog_94_method_9_code 68 = .ok (.istore 9, 2) := by decide +kernel
theorem d4_70 : decode prog_94_method_9_code 70 = .ok (.iload 9, 2) := by decide +kernel
theorem d4_72 : decode prog_94_method_9_code 72 = .ok (.iload 8, 2) := by decide +kernel
theorem d4_74 : decode prog_94_method_9_code 74 = .ok (.if_icmp .ge 32, 3) := by decide +kernel
theorem d4_106 : decode prog_94_method_9_code 106 = .ok (.aload 5, 2) := by decide +kernel
theorem d4_108 : decode prog_94_method_9_code 108 = .ok (.iload 6, 2) := by decide +kernel
theorem d4_110 : decode prog_94_method_9_code 110 = .ok (.iload_n 1, 1) := by decide +kernel
theorem d4_111 : decode prog_94_method_9_code 111 = .ok (.iastore, 1) := by decide +kernel
theorem d4_112 : decode prog_94_method_9_code 112 = .ok (.aload_n 0, 1) := by decide +kernel
theorem d4_113 : decode prog_94_method_9_code 113 = .ok (.aload 5, 2) := by decide +kernel
theorem d4_115 : decode prog_94_method_9_code 115 = .ok (.putfield 7, 3) := by decide +kernel
theorem d4_118 : decode prog_94_method_9_code 118 = .ok (.return_, 1) := by decide +kernel
theorem d10_0 : decode prog_94_method_13_code 0 = .ok (.dconst 0, 1) := by decide +kernel
theorem d10_1 : decode prog_94_method_13_code 1 = .ok (.dstore_n 3, 1) := by decide +kernel
theorem d10_2 : decode prog_94_method_13_code 2 = .ok (.iconst 0, 1) := by decide +kernel
theorem d10_3 : decode prog_94_method_13_code 3 = .ok (.istore 5, 2) := by decide +kernel
theorem d10_5 : decode prog_94_method_13_code 5 = .ok (.iload 5, 2) := by decide +kernel
theorem d10_7 : decode prog_94_method_13_code 7 = .ok (.aload_n 1, 1) := by decide +kernel
theorem d10_8 : decode prog_94_method_13_code 8 = .ok (.arraylength, 1) := by decide +kernel
theorem d10_9 : decode prog_94_method_13_code 9 = .ok (.if_icmp .ge 26, 3) := by decide +kernel
theorem d10_35 : decode prog_94_method_13_code 35 = .ok (.dload_n 3, 1) := by decide +kernel
theorem d10_36 : decode prog_94_method_13_code 36 = .ok (.dreturn, 1) := by decide +kernel
theorem d10_12 : decode prog_94_method_13_code 12 = .ok (.dload_n 3, 1) := by decide +kernel
theorem d10_13 : decode prog_94_method_13_code 13 = .ok (.aload_n 1, 1) := by decide +kernel
theorem d10_14 : decode prog_94_method_13_code 14 = .ok (.iload 5, 2) := by decide +kernel
theorem d10_16 : decode prog_94_method_13_code 16 = .ok (.daload, 1) := by decide +kernel
theorem d10_17 : decode prog_94_method_13_code 17 = .ok (.aload_n 0, 1) := by decide +kernel
theorem d10_18 : decode prog_94_method_13_code 18 = .ok (.getfield 19, 3) := by decide +kernel
theorem d10_21 : decode prog_94_method_13_code 21 = .ok (.iload 5, 2) := by decide +kernel
theorem d10_23 : decode prog_94_method_13_code 23 = .ok (.aaload, 1) := by decide +kernel
theorem d10_24 : decode prog_94_method_13_code 24 = .ok (.iload_n 2, 1) := by decide +kernel
theorem d10_25 : decode prog_94_method_13_code 25 = .ok (.daload, 1) := by decide +kernel
theorem d10_26 : decode prog_94_method_13_code 26 = .ok (.dmul, 1) := by decide +kernel
theorem d10_27 : decode prog_94_method_13_code 27 = .ok (.dadd, 1) := by decide +kernel
theorem d10_28 : decode prog_94_method_13_code 28 = .ok (.dstore_n 3, 1) := by decide +kernel
theorem d10_29 : decode prog_94_method_13_code 29 = .ok (.iinc 5 1, 3) := by decide +kernel
theorem d10_32 : decode prog_94_method_13_code 32 = .ok (.goto (-27), 3) := by decide +kernel
theorem d11_0 : decode method_3_code 0 = .ok (.iload_n 0, 1) := by decide +kernel
theorem d11_1 : decode method_3_code 1 = .ok (.iload_n 1, 1) := by decide +kernel
theorem d11_2 : decode method_3_code 2 = .ok (.invokestatic 7, 3) := by decide +kernel
theorem d11_5 : decode method_3_code 5 = .ok (.istore 14, 2) := by decide +kernel
theorem d11_7 : decode method_3_code 7 = .ok (.iload_n 0, 1) := by decide +kernel
theorem d11_8 : decode method_3_code 8 = .ok (.iload_n 1, 1) := by decide +kernel
theorem d11_9 : decode method_3_code 9 = .ok (.invokestatic 13, 3) := by decide +kernel
theorem d11_12 : decode method_3_code 12 = .ok (.istore 15, 2) := by decide +kernel
theorem d11_14 : decode method_3_code 14 = .ok (.iload 14, 2) := by decide +kernel
theorem d11_16 : decode method_3_code 16 = .ok (.ifCond .ne 22, 3) := by decide +kernel
theorem d11_38 : decode method_3_code 38 = .ok (.iload 14, 2) := by decide +kernel
theorem d11_40 : decode method_3_code 40 = .ok (.iconst 1, 1) := by decide +kernel
theorem d11_41 : decode method_3_code 41 = .ok (.if_icmp .ne 15, 3) := by decide +kernel
theorem d11_56 : decode method_3_code 56 = .ok (.dload 12, 2) := by decide +kernel
theorem d11_58 : decode method_3_code 58 = .ok (.dreturn, 1) := by decide +kernel
theorem d11_44 : decode method_3_code 44 = .ok (.iload 15, 2) := by decide +kernel
theorem d11_46 : decode method_3_code 46 = .ok (.iconst 1, 1) := by decide +kernel
theorem d11_47 : decode method_3_code 47 = .ok (.if_icmp .ne 6, 3) := by decide +kernel
theorem d11_53 : decode method_3_code 53 = .ok (.dload 10, 2) := by decide +kernel
theorem d11_55 : decode method_3_code 55 = .ok (.dreturn, 1) := by decide +kernel
theorem d11_50 : decode method_3_code 50 = .ok (.dload 6, 2) := by decide +kernel
theorem d11_52 : decode method_3_code 52 = .ok (.dreturn, 1) := by decide +kernel
theorem d11_19 : decode method_3_code 19 = .ok (.iload 15, 2) := by decide +kernel
theorem d11_21 : decode method_3_code 21 = .ok (.ifCond .ne 5, 3) := by decide +kernel
theorem d11_26 : decode method_3_code 26 = .ok (.iload 15, 2) := by decide +kernel
theorem d11_28 : decode method_3_code 28 = .ok (.iconst 1, 1) := by decide +kernel
theorem d11_29 : decode method_3_code 29 = .ok (.if_icmp .ne 6, 3) := by decide +kernel
theorem d11_35 : decode method_3_code 35 = .ok (.dload 8, 2) := by decide +kernel
theorem d11_37 : decode method_3_code 37 = .ok (.dreturn, 1) := by decide +kernel
theorem d11_32 : decode method_3_code 32 = .ok (.dload 4, 2) := by decide +kernel
theorem d11_34 : decode method_3_code 34 = .ok (.dreturn, 1) := by decide +kernel
theorem d11_24 : decode method_3_code 24 = .ok (.dload_n 2, 1) := by decide +kernel
theorem d11_25 : decode method_3_code 25 = .ok (.dreturn, 1) := by decide +kernel

def own_at (j : Int32) (a b c : UInt64) : UInt64 := if j.toInt = 0 then a else if j.toInt = 1 then b else c
def own_ent (x y : Int32) (s0 c0 c1 g0 g1 g2 : UInt64) : UInt64 := if x.toInt = 0 then own_at y s0 c0 g0 else if x.toInt = 1 then own_at y c0 c1 g1 else own_at y g0 g1 g2
def own_dot (ln sl : Int32) (q0 q1 q2 x00 x01 x02 x10 x11 x12 x20 x21 x22 : UInt64) : UInt64 :=
  if ln.toInt ≤ 0 then 0 else if ln.toInt ≤ 1 then FP.dadd 0 (FP.dmul q0 (own_at sl x00 x01 x02)) else if ln.toInt ≤ 2 then FP.dadd (FP.dadd 0 (FP.dmul q0 (own_at sl x00 x01 x02))) (FP.dmul q1 (own_at sl x10 x11 x12)) else FP.dadd (FP.dadd (FP.dadd 0 (FP.dmul q0 (own_at sl x00 x01 x02))) (FP.dmul q1 (own_at sl x10 x11 x12))) (FP.dmul q2 (own_at sl x20 x21 x22))
theorem Own.Bd.zero : Own.Bd 0 0 := ⟨Own.fin_0, by rw [Own.dz_0]; omega, by rw [Own.dz_0]; omega⟩
theorem Own.Bd.zero128 : Own.Bd 0 128 := Own.Bd.zero.mono (by decide)
theorem own_v {u : Int32} {v : UInt64} (e : FP.i2d ((u &&& (255 : Int32)) - (128 : Int32)) = v) : Own.Bd v 128 := by
  obtain ⟨f, z⟩ := Own.i2d_v e
  have h1 := c_mask u 255 8 (by decide) (by decide)
  have h2 := c_isub (u &&& 255) 128
  have h3 := rng32 ((u &&& 255) - 128)
  have h4 : (128 : Int32).toInt = 128 := by decide
  exact Own.Bd.int f z (by omega) (by omega)
theorem own_sl (i s : Int32) (e : (i &&& (2147483647 : Int32)) % (3 : Int32) = s) : 0 ≤ s.toInt ∧ s.toInt < 3 := by
  have h1 := c_mask i 2147483647 31 (by decide) (by decide)
  have h2 := (c_irem (i &&& 2147483647) 3 3 (by decide)).1 (by rw [h1]; exact Int.emod_nonneg _ (by decide))
  rw [e] at h2
  omega
theorem own_ln (u l : Int32) (e : u &&& (3 : Int32) = l) : 0 ≤ l.toInt ∧ l.toInt ≤ 3 := by
  have h1 := c_mask u 3 2 (by decide) (by decide)
  rw [e] at h1; omega
theorem own_nn {l : Int32} (h : 0 ≤ l.toInt ∧ l.toInt ≤ 3) : ¬ l < 0 := fun q => by
  rw [Int32.lt_iff_toInt_lt] at q; have : (0 : Int32).toInt = 0 := by decide
  omega
theorem own_cap {l : Int32} (h : 0 ≤ l.toInt ∧ l.toInt ≤ 3) : l.toNatClampNeg ≤ 3 := by
  have : l.toNatClampNeg = l.toInt.toNat := rfl
  omega
theorem own_lt (b : Int32) {l : Int32} (h : ¬ (l.toInt ≤ b.toInt)) (hb : ¬ b < 0) : ¬ b < 0 ∧ b < l := ⟨hb, by rw [Int32.lt_iff_toInt_lt]; omega⟩
theorem own_at_get (j : Int32) (a b c : UInt64) (h : 0 ≤ j.toInt ∧ j.toInt < 3) : [Value.double a, .double b, .double c].getD j.toNatClampNeg (.double 0) = .double (own_at j a b c) := by
  have e : j.toNatClampNeg = j.toInt.toNat := rfl
  rw [e]
  rcases (by omega : j.toInt = 0 ∨ j.toInt = 1 ∨ j.toInt = 2) with q | q | q <;> rw [q] <;> simp [own_at, q]
theorem own_at_bd (j : Int32) {a b c : UInt64} {A : Int} (ha : Own.Bd a A) (hb : Own.Bd b A) (hc : Own.Bd c A) : Own.Bd (own_at j a b c) A := by
  unfold own_at; split; exact ha; split <;> first | exact hb | exact hc
theorem own_ent_bd (x y : Int32) {s0 c0 c1 g0 g1 g2 : UInt64} (h0 : Own.Bd s0 128) (h1 : Own.Bd c0 128) (h2 : Own.Bd c1 128) (h3 : Own.Bd g0 128) (h4 : Own.Bd g1 128) (h5 : Own.Bd g2 128) : Own.Bd (own_ent x y s0 c0 c1 g0 g1 g2) 128 := by
  unfold own_ent; split; exact own_at_bd _ h0 h1 h3; split <;> first | exact own_at_bd _ h1 h2 h4 | exact own_at_bd _ h3 h4 h5
theorem own_dot_bd {ln sl : Int32} {q0 q1 q2 x00 x01 x02 x10 x11 x12 x20 x21 x22 : UInt64} (b0 : Own.Bd q0 128) (b1 : Own.Bd q1 128) (b2 : Own.Bd q2 128) (a00 : Own.Bd x00 128) (a01 : Own.Bd x01 128) (a02 : Own.Bd x02 128) (a10 : Own.Bd x10 128) (a11 : Own.Bd x11 128) (a12 : Own.Bd x12 128) (a20 : Own.Bd x20 128) (a21 : Own.Bd x21 128) (a22 : Own.Bd x22 128) :
    Own.Bd (own_dot ln sl q0 q1 q2 x00 x01 x02 x10 x11 x12 x20 x21 x22) 49152 := by
  have m0 := Own.Bd.mul rfl b0 (own_at_bd sl a00 a01 a02) (by decide)
  have m1 := Own.Bd.mul rfl b1 (own_at_bd sl a10 a11 a12) (by decide)
  have m2 := Own.Bd.mul rfl b2 (own_at_bd sl a20 a21 a22) (by decide)
  have t1 := Own.Bd.add rfl Own.Bd.zero m0 (by decide)
  have t2 := Own.Bd.add rfl t1 m1 (by decide)
  have t3 := Own.Bd.add rfl t2 m2 (by decide)
  unfold own_dot
  split; exact Own.Bd.zero.mono (by decide)
  split; exact t1.mono (by decide)
  split <;> first | exact t2.mono (by decide) | exact t3.mono (by decide)

theorem ef_12 (m : MethodId) (x0 : Int32) (x1 : Int32) : entryFrame m #[.int x0, .int x1] 2 = mkF m 0 #[.val (.int x0), .val (.int x1)] [] := by first | (simp [entryFrame, mkF, argsToLocals, Value.category, maxLocals]; done) | rfl
set_option maxRecDepth 65536 in
set_option maxHeartbeats 40000000 in
theorem rm12 (l : Launch) (Z : State) (a0 : Array Value) (hw : ∀ d ∈ tables_1, d.before a0 Z = true) (x : Int32) (y : Int32)   (h0 : Heap) (n0 : Nat) (Z0 : n0 ≤ h0.size)   :
    Own.Con l Z mn_0 [] jdk_29_method_69_code 2 (some .int) ({ frames := 0, cells := 0, slots := 0, locals := 0 } : Room) #[.int x, .int y] h0 n0 (fun v h => v = some (.int (if y.toInt < x.toInt then y else x)) ∧ h0 = h) := by
  refine Own.enter (own := "java/lang/Math") (nm := "min") (Jvm.Free.JP.mathPlain rfl (by decide +kernel)) rfl rfl (fun m => ef_12 m x y) fun p e s m below meth c T X => ?_
  refine Own.iloadN X d12_0 rfl ?_
  refine Own.iloadN X d12_1 rfl ?_
  suffices J2_1 : ∀ (z10_1 : Int32), z10_1 = (if y.toInt < x.toInt then y else x) → Own.Go p e below s n0 (fun v h => v = some (.int (if y.toInt < x.toInt then y else x)) ∧ h0 = h) 0 0 (T.setTop (mkF m 10 #[.val (.int x), .val (.int y)] [.int z10_1])) by
    refine Own.icmp_ X (pc' := 9) d12_2 (by decide) (fun (h2 : y.toInt < x.toInt) => ?_) (fun (h2 : ¬ (y.toInt < x.toInt)) => ?_)
    · refine Own.iloadN X d12_9 rfl ?_
      exact J2_1 _ (if_pos h2).symm
    · refine Own.iloadN X d12_5 rfl ?_
      refine Own.goto_ X (pc' := 10) d12_6 (by decide) ?_
      exact J2_1 _ (if_neg h2).symm
  intro z e_z
  exact Own.retI X d12_10 ⟨congrArg (fun z => some (Value.int z)) e_z, rfl⟩ (by decide) (by decide)
theorem ef_13 (m : MethodId) (x0 : Int32) (x1 : Int32) : entryFrame m #[.int x0, .int x1] 2 = mkF m 0 #[.val (.int x0), .val (.int x1)] [] := by first | (simp [entryFrame, mkF, argsToLocals, Value.category, maxLocals]; done) | rfl
set_option maxRecDepth 65536 in
set_option maxHeartbeats 40000000 in
theorem rm13 (l : Launch) (Z : State) (a0 : Array Value) (hw : ∀ d ∈ tables_1, d.before a0 Z = true) (x : Int32) (y : Int32)   (h0 : Heap) (n0 : Nat) (Z0 : n0 ≤ h0.size)   :
    Own.Con l Z mn_1 [] jdk_29_method_65_code 2 (some .int) ({ frames := 0, cells := 0, slots := 0, locals := 0 } : Room) #[.int x, .int y] h0 n0 (fun v h => v = some (.int (if x.toInt < y.toInt then y else x)) ∧ h0 = h) := by
  refine Own.enter (own := "java/lang/Math") (nm := "max") (Jvm.Free.JP.mathPlain rfl (by decide +kernel)) rfl rfl (fun m => ef_13 m x y) fun p e s m below meth c T X => ?_
  refine Own.iloadN X d13_0 rfl ?_
  refine Own.iloadN X d13_1 rfl ?_
  suffices J2_1 : ∀ (z10_1 : Int32), z10_1 = (if x.toInt < y.toInt then y else x) → Own.Go p e below s n0 (fun v h => v = some (.int (if x.toInt < y.toInt then y else x)) ∧ h0 = h) 0 0 (T.setTop (mkF m 10 #[.val (.int x), .val (.int y)] [.int z10_1])) by
    refine Own.icmp_ X (pc' := 9) d13_2 (by decide) (fun (h2 : x.toInt < y.toInt) => ?_) (fun (h2 : ¬ (x.toInt < y.toInt)) => ?_)
    · refine Own.iloadN X d13_9 rfl ?_
      exact J2_1 _ (if_pos h2).symm
    · refine Own.iloadN X d13_5 rfl ?_
      refine Own.goto_ X (pc' := 10) d13_6 (by decide) ?_
      exact J2_1 _ (if_neg h2).symm
  intro z e_z
  exact Own.retI X d13_10 ⟨congrArg (fun z => some (Value.int z)) e_z, rfl⟩ (by decide) (by decide)
theorem ef_1 (m : MethodId) (x0 : Int32) (x1 : Int32) : entryFrame m #[.int x0, .int x1] 2 = mkF m 0 #[.val (.int x0), .val (.int x1)] [] := by first | (simp [entryFrame, mkF, argsToLocals, Value.category, maxLocals]; done) | rfl
set_option maxRecDepth 65536 in
set_option maxHeartbeats 40000000 in
theorem rm1 (l : Launch) (Z : State) (a0 : Array Value) (hw : ∀ d ∈ tables_1, d.before a0 Z = true) (xx : Int32) (kk : Int32)   (h0 : Heap) (n0 : Nat) (Z0 : n0 ≤ h0.size)   :
    Own.Con l Z mn_2 [] method_2_code 2 (some .double) ({ frames := 0, cells := 0, slots := 0, locals := 0 } : Room) #[.int xx, .int kk] h0 n0 (fun v h => v = some (.double (FP.i2d (((Jvm.Free.XT.ushr xx ((8 : Int32) * kk)) &&& (255 : Int32)) - (128 : Int32)))) ∧ h0 = h) := by
  refine Own.enter (own := "com/example/pliant/pliant/ml/CurvatureDotPinLaw") (nm := "v") (plainFor_of_name pn_com_example_pliant_pliant_ml_CurvatureDotPinLaw) rfl rfl (fun m => ef_1 m xx kk) fun p e s m below meth c T X => ?_
  refine Own.iloadN X d1_0 rfl ?_
  refine Own.bipush X (v := 8) d1_1 rfl ?_
  refine Own.iloadN X d1_3 rfl ?_
  refine Own.imul X d1_4 ?_
  refine Own.iushr X d1_5 ?_
  refine Own.sipush X (v := 255) d1_6 rfl ?_
  refine Own.iand X d1_9 ?_
  refine Own.sipush X (v := 128) d1_10 rfl ?_
  refine Own.isub X d1_13 ?_
  obtain ⟨d14, e_d14⟩ : ∃ v, FP.i2d (((Jvm.Free.XT.ushr xx ((8 : Int32) * kk)) &&& (255 : Int32)) - (128 : Int32)) = v := ⟨_, rfl⟩
  obtain ⟨f_d14, z_d14⟩ := Own.i2d_v e_d14
  have n_d14 := f_d14.noNaN
  refine Own.i2d X d1_14 e_d14 ?_
  exact Own.retD X d1_15 ⟨by rw [e_d14], rfl⟩ (by decide) (by decide)
theorem ef_2 (m : MethodId) (x0 : Addr) (x1 : Int32) : entryFrame m #[.ref x0, .int x1] 2 = mkF m 0 #[.val (.ref x0), .val (.int x1)] [] := by first | (simp [entryFrame, mkF, argsToLocals, Value.category, maxLocals]; done) | rfl
set_option maxRecDepth 65536 in
set_option maxHeartbeats 40000000 in
theorem rm2 (l : Launch) (Z : State) (a0 : Array Value) (hw : ∀ d ∈ tables_1, d.before a0 Z = true) (a : Addr) (h0 : Heap) (n0 : Nat) (Z0 : n0 ≤ h0.size) (f0 : Exa Z h0 a "com/example/pliant/pliant/ml/Curvature") (f1 : Fld Z h0 a "com/example/pliant/pliant/ml/Curvature" "pairs" "[I" (.null)) (f2 : Fld Z h0 a "com/example/pliant/pliant/ml/Curvature" "history" "I" (.int (0 : Int32))) (f3 : Fld Z h0 a "com/example/pliant/pliant/ml/Curvature" "dots" "[[D" (.null)) (w0 : n0 ≤ a)  :
    Own.Con l Z mn_3 [] prog_94_method_1_code 2 none ({ frames := 1, cells := 5, slots := 12, locals := 12 } : Room) #[.ref a, .int (1 : Int32)] h0 n0 (fun v h => ∃ (pa : Addr) (gd : Addr) (r0 : Addr) (r1 : Addr) (r2 : Addr) (k_pa : ClassId) (k_gd : ClassId) (c_gd : ClassId), v = none ∧ Keep h0 h [a] ∧ h0.size ≤ pa ∧ h0.size ≤ gd ∧ h0.size ≤ r0 ∧ h0.size ≤ r1 ∧ h0.size ≤ r2 ∧ pa ≠ gd ∧ pa ≠ r0 ∧ pa ≠ r1 ∧ pa ≠ r2 ∧ gd ≠ r0 ∧ gd ≠ r1 ∧ gd ≠ r2 ∧ r0 ≠ r1 ∧ r0 ≠ r2 ∧ r1 ≠ r2 ∧ Fld Z h a "com/example/pliant/pliant/ml/Curvature" "pairs" "[I" (.ref pa) ∧ Fld Z h a "com/example/pliant/pliant/ml/Curvature" "history" "I" (.int (1 : Int32)) ∧ Fld Z h a "com/example/pliant/pliant/ml/Curvature" "dots" "[[D" (.ref gd) ∧ Arv Z h pa k_pa .int (0 : Int32) [] (.int (0 : Int32)) ∧ Arv Z h gd k_gd (.array .double) (3 : Int32) [.ref r0, .ref r1, .ref r2] (.null) ∧ Arv Z h r0 c_gd .double (3 : Int32) [.double 0, .double 0, .double 0] (.double 0) ∧ Arv Z h r1 c_gd .double (3 : Int32) [.double 0, .double 0, .double 0] (.double 0) ∧ Arv Z h r2 c_gd .double (3 : Int32) [.double 0, .double 0, .double 0] (.double 0)) := by
  refine Own.enter (own := "com/example/pliant/pliant/ml/Curvature") (nm := "<init>") (plainFor_of_name pn_com_example_pliant_pliant_ml_Curvature) rfl rfl (fun m => ef_2 m a (1 : Int32)) fun p e s m below meth c T X => ?_
  refine Own.aloadN X d2_0 rfl rfl ?_
  refine Own.initO_ X d2_1 (Own.wd hw 12 rfl) (Own.wd hw 13 rfl) (Own.wd hw 14 rfl) rfl (W := 0) (by decide) (Nat.le_of_eq rfl) (by decide) fun T1 X1 => ?_
  refine Own.aloadN X1 d2_4 rfl rfl ?_
  refine Own.iconst X1 (v := 0) d2_5 rfl ?_
  refine Own.newP_ X1 (cap := 0) (ty := .int) (dv := .int (0 : Int32)) (ad := "[I") d2_6 rfl rfl (by decide) (Own.wd hw 15 rfl) (by decide) (by decide) (by decide) (by decide) (by decide) fun T2 h2 pa k_pa g_pa X2 E2 V2 A2 => ?_
  have ne3 : a ≠ pa := Nat.ne_of_lt (Nat.lt_of_lt_of_le f0.lt (Nat.le_of_eq g_pa.symm))
  have fr4 : n0 ≤ pa := Nat.le_trans Z0 (Nat.le_of_eq g_pa.symm)
  have bn5 : h0.size ≤ pa := Nat.le_trans (Keep.refl h0 [a]).1 (Nat.le_of_eq g_pa.symm)
  have F6 := f0.ext E2
  have F7 := f1.ext E2
  have F8 := f2.ext E2
  have F9 := f3.ext E2
  have F10 := (Keep.refl h0 [a]).ext E2
  have Z11 : n0 ≤ h2.size := Nat.le_trans Z0 E2.1
  have V12 : Arv Z h2 pa k_pa .int (0 : Int32) [] (.int (0 : Int32)) := V2.pad (pad_rep [] (.int (0 : Int32)) 0)
  refine Own.putF_ X2 d2_8 (host := "") (Or.inl (Own.wd hw 16 rfl)) Via.refl F7 F6 (Or.inl (Own.wd hw 17 rfl)) (Own.wd hw 7 rfl) (ty := (.array .int)) (by decide) rfl rfl w0 fun T13 h13 X13 W13 => ?_
  have F14 := F6.wr W13
  have F15 := F8.other W13 (Or.inr (slot_ne (Or.inr (Own.wd hw 19 rfl)) (Or.inl (Own.wd hw 17 rfl)) (by decide) (t := .int) (t' := (.array .int)) (by decide) (by decide)))
  have F16 := F9.other W13 (Or.inr (slot_ne (Or.inr (Own.wd hw 23 rfl)) (Or.inl (Own.wd hw 17 rfl)) (by decide) (t := (.array (.array .double))) (t' := (.array .int)) (by decide) (by decide)))
  have F17 := F10.wr W13 (Or.inl (List.mem_of_getElem? (i := 0) rfl))
  have F18 := A2.wr W13
  have F19 := V12.other W13 (Ne.symm ne3)
  have F20 : Fld Z h13 a "com/example/pliant/pliant/ml/Curvature" "pairs" "[I" (.ref pa) := Fld.same W13 F7
  have Z21 : n0 ≤ h13.size := by rw [W13.size]; exact Z11
  refine Own.aloadN X13 d2_11 rfl rfl ?_
  refine Own.iloadN X13 d2_12 rfl ?_
  refine Own.putF_ X13 d2_13 (host := "") (Or.inl (Own.wd hw 18 rfl)) Via.refl F15 F14 (Or.inr ⟨(Own.wd hw 19 rfl), rfl, rfl⟩) (Own.wd hw 7 rfl) (ty := .int) (by decide) rfl rfl w0 fun T22 h22 X22 W22 => ?_
  have F23 := F14.wr W22
  have F24 := F16.other W22 (Or.inr (slot_ne (Or.inr (Own.wd hw 23 rfl)) (Or.inr (Own.wd hw 19 rfl)) (by decide) (t := (.array (.array .double))) (t' := .int) (by decide) (by decide)))
  have F25 := F17.wr W22 (Or.inl (List.mem_of_getElem? (i := 0) rfl))
  have F26 := F18.wr W22
  have F27 := F19.other W22 (Ne.symm ne3)
  have F28 := F20.other W22 (Or.inr (slot_ne (Or.inl (Own.wd hw 17 rfl)) (Or.inr (Own.wd hw 19 rfl)) (by decide) (t := (.array .int)) (t' := .int) (by decide) (by decide)))
  have F29 : Fld Z h22 a "com/example/pliant/pliant/ml/Curvature" "history" "I" (.int (1 : Int32)) := Fld.same W22 F15
  have Z30 : n0 ≤ h22.size := by rw [W22.size]; exact Z21
  refine Own.aloadN X22 d2_16 rfl rfl ?_
  refine Own.iconst X22 (v := 2) d2_17 rfl ?_
  refine Own.iloadN X22 d2_18 rfl ?_
  refine Own.imul X22 d2_19 ?_
  show Own.Go p e below s n0 _ _ _ (T22.setTop (mkF m 20 _ [.int (2 : Int32), .ref a]))
  refine Own.iconst X22 (v := 1) d2_20 rfl ?_
  refine Own.iadd X22 d2_21 ?_
  show Own.Go p e below s n0 _ _ _ (T22.setTop (mkF m 22 _ [.int (3 : Int32), .ref a]))
  refine Own.iconst X22 (v := 2) d2_22 rfl ?_
  refine Own.iloadN X22 d2_23 rfl ?_
  refine Own.imul X22 d2_24 ?_
  show Own.Go p e below s n0 _ _ _ (T22.setTop (mkF m 25 _ [.int (2 : Int32), .int (3 : Int32), .ref a]))
  refine Own.iconst X22 (v := 1) d2_25 rfl ?_
  refine Own.iadd X22 d2_26 ?_
  show Own.Go p e below s n0 _ _ _ (T22.setTop (mkF m 27 _ [.int (3 : Int32), .int (3 : Int32), .ref a]))
  refine Own.gridM3_ (ty := .double) (C := "[D") (ad := "[[D") X22 (cap := 3) (dv := .double 0) d2_27 (by decide) (by decide) (Own.wd hw 20 rfl) (Own.wd hw 21 rfl) (Own.wd hw 5 rfl) rfl (by decide) (by decide) (by decide) rfl rfl (by decide) (by decide) fun T31 h31 gd r0 r1 r2 k_gd c_gd g_gd g_r0 g_r1 g_r2 X31 E31 V31 O31 A31 V31_0 V31_1 V31_2 A31_0 A31_1 A31_2 => ?_
  have ne32 : a ≠ r0 := Nat.ne_of_lt (Nat.lt_of_lt_of_le F23.lt (by omega))
  have ne33 : a ≠ r1 := Nat.ne_of_lt (Nat.lt_of_lt_of_le F23.lt (by omega))
  have ne34 : a ≠ r2 := Nat.ne_of_lt (Nat.lt_of_lt_of_le F23.lt (by omega))
  have ne35 : pa ≠ r0 := Nat.ne_of_lt (Nat.lt_of_lt_of_le F26.lt (by omega))
  have ne36 : pa ≠ r1 := Nat.ne_of_lt (Nat.lt_of_lt_of_le F26.lt (by omega))
  have ne37 : pa ≠ r2 := Nat.ne_of_lt (Nat.lt_of_lt_of_le F26.lt (by omega))
  have ne38 : a ≠ gd := Nat.ne_of_lt (Nat.lt_of_lt_of_le F23.lt (Nat.le_of_eq g_gd.symm))
  have ne39 : pa ≠ gd := Nat.ne_of_lt (Nat.lt_of_lt_of_le F26.lt (Nat.le_of_eq g_gd.symm))
  have fr40 : n0 ≤ gd := Nat.le_trans Z30 (Nat.le_of_eq g_gd.symm)
  have bn41 : h0.size ≤ gd := Nat.le_trans F25.1 (Nat.le_of_eq g_gd.symm)
  have F42 := F23.ext E31
  have F43 := F24.ext E31
  have F44 := F25.ext E31
  have F45 := F26.ext E31
  have F46 := F27.ext E31
  have F47 := F28.ext E31
  have F48 := F29.ext E31
  have Z49 : n0 ≤ h31.size := Nat.le_trans Z30 E31.1
  have ne50 : gd ≠ r0 := by omega
  have fr51 : n0 ≤ r0 := by omega
  have bn52 : h0.size ≤ r0 := by have := bn41; omega
  have ne53 : r0 ≠ r1 := by omega
  have ne54 : r0 ≠ r2 := by omega
  have ne55 : gd ≠ r1 := by omega
  have fr56 : n0 ≤ r1 := by omega
  have bn57 : h0.size ≤ r1 := by have := bn41; omega
  have ne58 : r1 ≠ r2 := by omega
  have ne59 : gd ≠ r2 := by omega
  have fr60 : n0 ≤ r2 := by omega
  have bn61 : h0.size ≤ r2 := by have := bn41; omega
  have V62 : Arv Z h31 r0 c_gd .double (3 : Int32) [.double 0, .double 0, .double 0] (.double 0) := V31_0.pad (pad_rep [] (.double 0) 3)
  have V63 : Arv Z h31 r1 c_gd .double (3 : Int32) [.double 0, .double 0, .double 0] (.double 0) := V31_1.pad (pad_rep [] (.double 0) 3)
  have V64 : Arv Z h31 r2 c_gd .double (3 : Int32) [.double 0, .double 0, .double 0] (.double 0) := V31_2.pad (pad_rep [] (.double 0) 3)
  refine Own.putF_ X31 d2_31 (host := "") (Or.inl (Own.wd hw 22 rfl)) Via.refl F43 F42 (Or.inr ⟨(Own.wd hw 23 rfl), rfl, rfl⟩) (Own.wd hw 7 rfl) (ty := (.array (.array .double))) (by decide) rfl rfl w0 fun T65 h65 X65 W65 => ?_
  have F66 := F42.wr W65
  have F67 := F44.wr W65 (Or.inl (List.mem_of_getElem? (i := 0) rfl))
  have F68 := F45.wr W65
  have F69 := F46.other W65 (Ne.symm ne3)
  have F70 := F47.other W65 (Or.inr (slot_ne (Or.inl (Own.wd hw 17 rfl)) (Or.inr (Own.wd hw 23 rfl)) (by decide) (t := (.array .int)) (t' := (.array (.array .double))) (by decide) (by decide)))
  have F71 := F48.other W65 (Or.inr (slot_ne (Or.inr (Own.wd hw 19 rfl)) (Or.inr (Own.wd hw 23 rfl)) (by decide) (t := .int) (t' := (.array (.array .double))) (by decide) (by decide)))
  have F72 := A31.wr W65
  have F73 := V31.other W65 (Ne.symm ne38)
  have F74 := V62.other W65 (Ne.symm ne32)
  have F75 := A31_0.wr W65
  have F76 := V63.other W65 (Ne.symm ne33)
  have F77 := A31_1.wr W65
  have F78 := V64.other W65 (Ne.symm ne34)
  have F79 := A31_2.wr W65
  have F80 : Fld Z h65 a "com/example/pliant/pliant/ml/Curvature" "dots" "[[D" (.ref gd) := Fld.same W65 F43
  have Z81 : n0 ≤ h65.size := by rw [W65.size]; exact Z49
  exact Own.retV X65 d2_34 ⟨pa, gd, r0, r1, r2, k_pa, k_gd, c_gd, rfl, F67, bn5, bn41, bn52, bn57, bn61, ne39, ne35, ne36, ne37, ne50, ne55, ne59, ne53, ne54, ne58, F70, F71, F80, F69, F73, F74, F76, F78⟩ (by decide) (by decide)
theorem ef_5 (m : MethodId) (x0 : Addr) (x1 : Int32) : entryFrame m #[.ref x0, .int x1] 2 = mkF m 0 #[.val (.ref x0), .val (.int x1)] [] := by first | (simp [entryFrame, mkF, argsToLocals, Value.category, maxLocals]; done) | rfl
set_option maxRecDepth 65536 in
set_option maxHeartbeats 40000000 in
theorem rm5 (l : Launch) (Z : State) (a0 : Array Value) (hw : ∀ d ∈ tables_1, d.before a0 Z = true) (a : Addr) (q : Int32) (h0 : Heap) (n0 : Nat) (Z0 : n0 ≤ h0.size)   :
    Own.Con l Z mn_4 [] prog_94_method_3_code 2 (some .int) ({ frames := 0, cells := 0, slots := 0, locals := 0 } : Room) #[.ref a, .int q] h0 n0 (fun v h => v = some (.int q) ∧ h0 = h) := by
  refine Own.enter (own := "com/example/pliant/pliant/ml/Curvature") (nm := "step") (plainFor_of_name pn_com_example_pliant_pliant_ml_Curvature) rfl rfl (fun m => ef_5 m a q) fun p e s m below meth c T X => ?_
  refine Own.iloadN X d5_0 rfl ?_
  exact Own.retI X d5_1 ⟨rfl, rfl⟩ (by decide) (by decide)
theorem ef_7 (m : MethodId) (x0 : Addr) (x1 : Int32) : entryFrame m #[.ref x0, .int x1] 2 = mkF m 0 #[.val (.ref x0), .val (.int x1)] [] := by first | (simp [entryFrame, mkF, argsToLocals, Value.category, maxLocals]; done) | rfl
set_option maxRecDepth 65536 in
set_option maxHeartbeats 40000000 in
theorem rm7 (l : Launch) (Z : State) (a0 : Array Value) (hw : ∀ d ∈ tables_1, d.before a0 Z = true) (a : Addr) (h0 : Heap) (n0 : Nat) (Z0 : n0 ≤ h0.size) (f0 : Fld Z h0 a "com/example/pliant/pliant/ml/Curvature" "history" "I" (.int (1 : Int32)))  :
    Own.Con l Z mn_5 [] prog_94_method_4_code 2 (some .int) ({ frames := 0, cells := 0, slots := 0, locals := 0 } : Room) #[.ref a, .int (0 : Int32)] h0 n0 (fun v h => v = some (.int (1 : Int32)) ∧ h0 = h) := by
  refine Own.enter (own := "com/example/pliant/pliant/ml/Curvature") (nm := "change") (plainFor_of_name pn_com_example_pliant_pliant_ml_Curvature) rfl rfl (fun m => ef_7 m a (0 : Int32)) fun p e s m below meth c T X => ?_
  refine Own.aloadN X d7_0 rfl rfl ?_
  refine Own.getF_ X d7_1 (host := "") (Or.inl (Own.wd hw 18 rfl)) Via.refl f0 fun T1 X1 => ?_
  refine Own.iloadN X1 d7_4 rfl ?_
  refine Own.iadd X1 d7_5 ?_
  show Own.Go p e below s n0 _ _ _ (T1.setTop (mkF m 6 _ [.int (1 : Int32)]))
  exact Own.retI X1 d7_6 ⟨rfl, rfl⟩ (by decide) (by decide)
theorem ef_8 (m : MethodId) (x0 : Addr) : entryFrame m #[.ref x0] 1 = mkF m 0 #[.val (.ref x0)] [] := by first | (simp [entryFrame, mkF, argsToLocals, Value.category, maxLocals]; done) | rfl
set_option maxRecDepth 65536 in
set_option maxHeartbeats 40000000 in
theorem rm8 (l : Launch) (Z : State) (a0 : Array Value) (hw : ∀ d ∈ tables_1, d.before a0 Z = true) (a : Addr) (h0 : Heap) (n0 : Nat) (Z0 : n0 ≤ h0.size) (f0 : Fld Z h0 a "com/example/pliant/pliant/ml/Curvature" "history" "I" (.int (1 : Int32)))  :
    Own.Con l Z mn_6 [] prog_94_method_5_code 1 (some .int) ({ frames := 0, cells := 0, slots := 0, locals := 0 } : Room) #[.ref a] h0 n0 (fun v h => v = some (.int (2 : Int32)) ∧ h0 = h) := by
  refine Own.enter (own := "com/example/pliant/pliant/ml/Curvature") (nm := "gradient") (plainFor_of_name pn_com_example_pliant_pliant_ml_Curvature) rfl rfl (fun m => ef_8 m a) fun p e s m below meth c T X => ?_
  refine Own.iconst X (v := 2) d8_0 rfl ?_
  refine Own.aloadN X d8_1 rfl rfl ?_
  refine Own.getF_ X d8_2 (host := "") (Or.inl (Own.wd hw 18 rfl)) Via.refl f0 fun T1 X1 => ?_
  refine Own.imul X1 d8_5 ?_
  show Own.Go p e below s n0 _ _ _ (T1.setTop (mkF m 6 _ [.int (2 : Int32)]))
  exact Own.retI X1 d8_6 ⟨rfl, rfl⟩ (by decide) (by decide)
theorem ef_9 (m : MethodId) (x0 : Addr) (x1 : Int32) : entryFrame m #[.ref x0, .int x1] 6 = mkF m 0 #[.val (.ref x0), .val (.int x1), .unset, .unset, .unset, .unset] [] := by first | (simp [entryFrame, mkF, argsToLocals, Value.category, maxLocals]; done) | rfl
set_option maxRecDepth 65536 in
set_option maxHeartbeats 40000000 in
theorem rm9 (l : Launch) (Z : State) (a0 : Array Value) (hw : ∀ d ∈ tables_1, d.before a0 Z = true) (a : Addr) (q : Int32) (pa : Addr) (k_pa : ClassId) (h0 : Heap) (n0 : Nat) (Z0 : n0 ≤ h0.size) (f0 : Fld Z h0 a "com/example/pliant/pliant/ml/Curvature" "pairs" "[I" (.ref pa)) (f1 : Arv Z h0 pa k_pa .int (0 : Int32) [] (.int (0 : Int32)))  :
    Own.Con l Z mn_7 [] prog_94_method_14_code 6 (some .boolean) ({ frames := 0, cells := 0, slots := 0, locals := 0 } : Room) #[.ref a, .int q] h0 n0 (fun v h => v = some (.int (0 : Int32)) ∧ h0 = h) := by
  refine Own.enter (own := "com/example/pliant/pliant/ml/Curvature") (nm := "contains") (plainFor_of_name pn_com_example_pliant_pliant_ml_Curvature) rfl rfl (fun m => ef_9 m a q) fun p e s m below meth c T X => ?_
  refine Own.aloadN X d9_0 rfl rfl ?_
  refine Own.getF_ X d9_1 (host := "") (Or.inl (Own.wd hw 16 rfl)) Via.refl f0 fun T1 X1 => ?_
  refine Own.astoreN X1 d9_4 rfl (l' := #[.val (.ref a), .val (.int q), .val (.ref pa), .unset, .unset, .unset]) rfl ?_
  refine Own.aloadN X1 d9_5 rfl rfl ?_
  refine Own.alen_ X1 d9_6 f1 ?_
  refine Own.istoreN X1 d9_7 (l' := #[.val (.ref a), .val (.int q), .val (.ref pa), .val (.int (0 : Int32)), .unset, .unset]) rfl ?_
  refine Own.iconst X1 (v := 0) d9_8 rfl ?_
  refine Own.istore X1 d9_9 (l' := #[.val (.ref a), .val (.int q), .val (.ref pa), .val (.int (0 : Int32)), .val (.int (0 : Int32)), .unset]) rfl ?_
  refine Own.iload X1 d9_11 rfl ?_
  refine Own.iloadN X1 d9_13 rfl ?_
  refine Own.icmp_ X1 (pc' := 37) d9_14 (by decide) (fun _ => ?_) (fun q => absurd (show (0 : Int) ≤ (0 : Int) from by decide) q)
  refine Own.iconst X1 (v := 0) d9_37 rfl ?_
  exact Own.retB X1 d9_38 (by decide) ⟨rfl, rfl⟩ (by decide) (by decide)
theorem ef_6s0 (m : MethodId) (x0 : Addr) (x1 : Int32) (x2 : Addr) : entryFrame m #[.ref x0, .int x1, .ref x2] 4 = mkF m 0 #[.val (.ref x0), .val (.int x1), .val (.ref x2), .unset] [] := by first | (simp [entryFrame, mkF, argsToLocals, Value.category, maxLocals]; done) | rfl
set_option maxRecDepth 65536 in
set_option maxHeartbeats 40000000 in
theorem rm6s0 (l : Launch) (Z : State) (a0 : Array Value) (hw : ∀ d ∈ tables_1, d.before a0 Z = true) (a : Addr) (ps : Addr) (gd : Addr) (r0 : Addr) (r1 : Addr) (r2 : Addr) (k_gd : ClassId) (c_gd : ClassId) (k_ps : ClassId) (x00 : UInt64) (x01 : UInt64) (x02 : UInt64) (x10 : UInt64) (x11 : UInt64) (x12 : UInt64) (x20 : UInt64) (x21 : UInt64) (x22 : UInt64) (y0 : UInt64) (y1 : UInt64) (y2 : UInt64) (h0 : Heap) (n0 : Nat) (Z0 : n0 ≤ h0.size) (f0 : Exa Z h0 a "com/example/pliant/pliant/ml/Curvature") (f1 : Fld Z h0 a "com/example/pliant/pliant/ml/Curvature" "dots" "[[D" (.ref gd)) (f2 : Arv Z h0 gd k_gd (.array .double) (3 : Int32) [.ref r0, .ref r1, .ref r2] (.null)) (f3 : Arv Z h0 r0 c_gd .double (3 : Int32) [.double x00, .double x01, .double x02] (.double 0)) (f4 : Arv Z h0 r1 c_gd .double (3 : Int32) [.double x10, .double x11, .double x12] (.double 0)) (f5 : Arv Z h0 r2 c_gd .double (3 : Int32) [.double x20, .double x21, .double x22] (.double 0)) (f6 : Arv Z h0 ps k_ps .double (3 : Int32) [.double y0, .double y1, .double y2] (.double 0)) (u0 : r0 ≠ r1) (u1 : r0 ≠ r2) (u2 : r1 ≠ r2) (u3 : a ≠ r0) (u4 : a ≠ r1) (u5 : a ≠ r2) (u6 : gd ≠ r0) (u7 : gd ≠ r1) (u8 : gd ≠ r2) (u9 : ps ≠ r0) (u10 : ps ≠ r1) (u11 : ps ≠ r2) (w0 : n0 ≤ r0) (w1 : n0 ≤ r1) (w2 : n0 ≤ r2)  :
    Own.Con l Z mn_8 [] prog_94_method_15_code 4 none ({ frames := 0, cells := 0, slots := 0, locals := 0 } : Room) #[.ref a, .int (0 : Int32), .ref ps] h0 n0 (fun v h => v = none ∧ Keep h0 h [r0, r1, r2] ∧ Arv Z h r0 c_gd .double (3 : Int32) [.double y0, .double y1, .double y2] (.double 0) ∧ Arv Z h r1 c_gd .double (3 : Int32) [.double y1, .double x11, .double x12] (.double 0) ∧ Arv Z h r2 c_gd .double (3 : Int32) [.double y2, .double x21, .double x22] (.double 0)) := by
  refine Own.enter (own := "com/example/pliant/pliant/ml/Curvature") (nm := "set") (plainFor_of_name pn_com_example_pliant_pliant_ml_Curvature) rfl rfl (fun m => ef_6s0 m a (0 : Int32) ps) fun p e s m below meth c T X => ?_
  refine Own.iconst X (v := 0) d6_0 rfl ?_
  refine Own.istoreN X d6_1 (l' := #[.val (.ref a), .val (.int (0 : Int32)), .val (.ref ps), .val (.int (0 : Int32))]) rfl ?_
  refine Own.iloadN X d6_2 rfl ?_
  refine Own.aloadN X d6_3 rfl rfl ?_
  refine Own.getF_ X d6_4 (host := "") (Or.inl (Own.wd hw 22 rfl)) Via.refl f1 fun T1 X1 => ?_
  refine Own.alen_ X1 d6_7 f2 ?_
  refine Own.icmp_ X1 (pc' := 39) d6_8 (by decide) (fun q => absurd (show (3 : Int) ≤ (0 : Int) from q) (show ¬ ((3 : Int) ≤ (0 : Int)) from by decide)) (fun _ => ?_)
  refine Own.aloadN X1 d6_11 rfl rfl ?_
  refine Own.getF_ X1 d6_12 (host := "") (Or.inl (Own.wd hw 22 rfl)) Via.refl f1 fun T2 X2 => ?_
  refine Own.iloadN X2 d6_15 rfl ?_
  refine Own.aaload_ X2 d6_16 f2 rfl (by decide) rfl ?_
  refine Own.iloadN X2 d6_17 rfl ?_
  refine Own.aloadN X2 d6_18 rfl rfl ?_
  refine Own.iloadN X2 d6_19 rfl ?_
  refine Own.daload_ X2 d6_20 f6 (by decide) rfl ?_
  refine Own.dastore_ X2 (i := 0) d6_21 f3 (by decide) rfl (Nat.le_of_ble_eq_true rfl) w0 fun T3 h3 X3 W3 V3 => ?_
  have F4 := f0.wr W3
  have F5 := f1.other W3 (Or.inl u3)
  have F6 := f2.other W3 u6
  have F7 := f4.other W3 (Ne.symm u0)
  have F8 := f5.other W3 (Ne.symm u1)
  have F9 := f6.other W3 u9
  have F10 := (Keep.refl h0 [r0, r1, r2]).wr W3 (Or.inl (List.mem_of_getElem? (i := 0) rfl))
  have Z11 : n0 ≤ h3.size := by rw [W3.size]; exact Z0
  have V12 : Arv Z h3 r0 c_gd .double (3 : Int32) [.double y0, .double x01, .double x02] (.double 0) := V3
  refine Own.aloadN X3 d6_22 rfl rfl ?_
  refine Own.getF_ X3 d6_23 (host := "") (Or.inl (Own.wd hw 22 rfl)) Via.refl F5 fun T13 X13 => ?_
  refine Own.iloadN X13 d6_26 rfl ?_
  refine Own.aaload_ X13 d6_27 F6 rfl (by decide) rfl ?_
  refine Own.iloadN X13 d6_28 rfl ?_
  refine Own.aloadN X13 d6_29 rfl rfl ?_
  refine Own.iloadN X13 d6_30 rfl ?_
  refine Own.daload_ X13 d6_31 F9 (by decide) rfl ?_
  refine Own.dastore_ X13 (i := 0) d6_32 V12 (by decide) rfl (Nat.le_of_ble_eq_true rfl) w0 fun T14 h14 X14 W14 V14 => ?_
  have F15 := F4.wr W14
  have F16 := F5.other W14 (Or.inl u3)
  have F17 := F6.other W14 u6
  have F18 := F7.other W14 (Ne.symm u0)
  have F19 := F8.other W14 (Ne.symm u1)
  have F20 := F9.other W14 u9
  have F21 := F10.wr W14 (Or.inl (List.mem_of_getElem? (i := 0) rfl))
  have Z22 : n0 ≤ h14.size := by rw [W14.size]; exact Z11
  have V23 : Arv Z h14 r0 c_gd .double (3 : Int32) [.double y0, .double x01, .double x02] (.double 0) := V14
  refine Own.iinc X14 d6_33 rfl (l' := #[.val (.ref a), .val (.int (0 : Int32)), .val (.ref ps), .val (.int (1 : Int32))]) rfl ?_
  refine Own.goto_ X14 (pc' := 2) d6_36 (by decide) ?_
  refine Own.iloadN X14 d6_2 rfl ?_
  refine Own.aloadN X14 d6_3 rfl rfl ?_
  refine Own.getF_ X14 d6_4 (host := "") (Or.inl (Own.wd hw 22 rfl)) Via.refl F16 fun T24 X24 => ?_
  refine Own.alen_ X24 d6_7 F17 ?_
  refine Own.icmp_ X24 (pc' := 39) d6_8 (by decide) (fun q => absurd (show (3 : Int) ≤ (1 : Int) from q) (show ¬ ((3 : Int) ≤ (1 : Int)) from by decide)) (fun _ => ?_)
  refine Own.aloadN X24 d6_11 rfl rfl ?_
  refine Own.getF_ X24 d6_12 (host := "") (Or.inl (Own.wd hw 22 rfl)) Via.refl F16 fun T25 X25 => ?_
  refine Own.iloadN X25 d6_15 rfl ?_
  refine Own.aaload_ X25 d6_16 F17 rfl (by decide) rfl ?_
  refine Own.iloadN X25 d6_17 rfl ?_
  refine Own.aloadN X25 d6_18 rfl rfl ?_
  refine Own.iloadN X25 d6_19 rfl ?_
  refine Own.daload_ X25 d6_20 F20 (by decide) rfl ?_
  refine Own.dastore_ X25 (i := 1) d6_21 V23 (by decide) rfl (Nat.le_of_ble_eq_true rfl) w0 fun T26 h26 X26 W26 V26 => ?_
  have F27 := F15.wr W26
  have F28 := F16.other W26 (Or.inl u3)
  have F29 := F17.other W26 u6
  have F30 := F18.other W26 (Ne.symm u0)
  have F31 := F19.other W26 (Ne.symm u1)
  have F32 := F20.other W26 u9
  have F33 := F21.wr W26 (Or.inl (List.mem_of_getElem? (i := 0) rfl))
  have Z34 : n0 ≤ h26.size := by rw [W26.size]; exact Z22
  have V35 : Arv Z h26 r0 c_gd .double (3 : Int32) [.double y0, .double y1, .double x02] (.double 0) := V26
  refine Own.aloadN X26 d6_22 rfl rfl ?_
  refine Own.getF_ X26 d6_23 (host := "") (Or.inl (Own.wd hw 22 rfl)) Via.refl F28 fun T36 X36 => ?_
  refine Own.iloadN X36 d6_26 rfl ?_
  refine Own.aaload_ X36 d6_27 F29 rfl (by decide) rfl ?_
  refine Own.iloadN X36 d6_28 rfl ?_
  refine Own.aloadN X36 d6_29 rfl rfl ?_
  refine Own.iloadN X36 d6_30 rfl ?_
  refine Own.daload_ X36 d6_31 F32 (by decide) rfl ?_
  refine Own.dastore_ X36 (i := 0) d6_32 F30 (by decide) rfl (Nat.le_of_ble_eq_true rfl) w1 fun T37 h37 X37 W37 V37 => ?_
  have F38 := F27.wr W37
  have F39 := F28.other W37 (Or.inl u4)
  have F40 := F29.other W37 u7
  have F41 := F31.other W37 (Ne.symm u2)
  have F42 := F32.other W37 u10
  have F43 := F33.wr W37 (Or.inl (List.mem_of_getElem? (i := 1) rfl))
  have F44 := V35.other W37 u0
  have Z45 : n0 ≤ h37.size := by rw [W37.size]; exact Z34
  have V46 : Arv Z h37 r1 c_gd .double (3 : Int32) [.double y1, .double x11, .double x12] (.double 0) := V37
  refine Own.iinc X37 d6_33 rfl (l' := #[.val (.ref a), .val (.int (0 : Int32)), .val (.ref ps), .val (.int (2 : Int32))]) rfl ?_
  refine Own.goto_ X37 (pc' := 2) d6_36 (by decide) ?_
  refine Own.iloadN X37 d6_2 rfl ?_
  refine Own.aloadN X37 d6_3 rfl rfl ?_
  refine Own.getF_ X37 d6_4 (host := "") (Or.inl (Own.wd hw 22 rfl)) Via.refl F39 fun T47 X47 => ?_
  refine Own.alen_ X47 d6_7 F40 ?_
  refine Own.icmp_ X47 (pc' := 39) d6_8 (by decide) (fun q => absurd (show (3 : Int) ≤ (2 : Int) from q) (show ¬ ((3 : Int) ≤ (2 : Int)) from by decide)) (fun _ => ?_)
  refine Own.aloadN X47 d6_11 rfl rfl ?_
  refine Own.getF_ X47 d6_12 (host := "") (Or.inl (Own.wd hw 22 rfl)) Via.refl F39 fun T48 X48 => ?_
  refine Own.iloadN X48 d6_15 rfl ?_
  refine Own.aaload_ X48 d6_16 F40 rfl (by decide) rfl ?_
  refine Own.iloadN X48 d6_17 rfl ?_
  refine Own.aloadN X48 d6_18 rfl rfl ?_
  refine Own.iloadN X48 d6_19 rfl ?_
  refine Own.daload_ X48 d6_20 F42 (by decide) rfl ?_
  refine Own.dastore_ X48 (i := 2) d6_21 F44 (by decide) rfl (Nat.le_of_ble_eq_true rfl) w0 fun T49 h49 X49 W49 V49 => ?_
  have F50 := F38.wr W49
  have F51 := F39.other W49 (Or.inl u3)
  have F52 := F40.other W49 u6
  have F53 := F41.other W49 (Ne.symm u1)
  have F54 := F42.other W49 u9
  have F55 := F43.wr W49 (Or.inl (List.mem_of_getElem? (i := 0) rfl))
  have F56 := V46.other W49 (Ne.symm u0)
  have Z57 : n0 ≤ h49.size := by rw [W49.size]; exact Z45
  have V58 : Arv Z h49 r0 c_gd .double (3 : Int32) [.double y0, .double y1, .double y2] (.double 0) := V49
  refine Own.aloadN X49 d6_22 rfl rfl ?_
  refine Own.getF_ X49 d6_23 (host := "") (Or.inl (Own.wd hw 22 rfl)) Via.refl F51 fun T59 X59 => ?_
  refine Own.iloadN X59 d6_26 rfl ?_
  refine Own.aaload_ X59 d6_27 F52 rfl (by decide) rfl ?_
  refine Own.iloadN X59 d6_28 rfl ?_
  refine Own.aloadN X59 d6_29 rfl rfl ?_
  refine Own.iloadN X59 d6_30 rfl ?_
  refine Own.daload_ X59 d6_31 F54 (by decide) rfl ?_
  refine Own.dastore_ X59 (i := 0) d6_32 F53 (by decide) rfl (Nat.le_of_ble_eq_true rfl) w2 fun T60 h60 X60 W60 V60 => ?_
  have F61 := F50.wr W60
  have F62 := F51.other W60 (Or.inl u5)
  have F63 := F52.other W60 u8
  have F64 := F54.other W60 u11
  have F65 := F55.wr W60 (Or.inl (List.mem_of_getElem? (i := 2) rfl))
  have F66 := F56.other W60 u2
  have F67 := V58.other W60 u1
  have Z68 : n0 ≤ h60.size := by rw [W60.size]; exact Z57
  have V69 : Arv Z h60 r2 c_gd .double (3 : Int32) [.double y2, .double x21, .double x22] (.double 0) := V60
  refine Own.iinc X60 d6_33 rfl (l' := #[.val (.ref a), .val (.int (0 : Int32)), .val (.ref ps), .val (.int (3 : Int32))]) rfl ?_
  refine Own.goto_ X60 (pc' := 2) d6_36 (by decide) ?_
  refine Own.iloadN X60 d6_2 rfl ?_
  refine Own.aloadN X60 d6_3 rfl rfl ?_
  refine Own.getF_ X60 d6_4 (host := "") (Or.inl (Own.wd hw 22 rfl)) Via.refl F62 fun T70 X70 => ?_
  refine Own.alen_ X70 d6_7 F63 ?_
  refine Own.icmp_ X70 (pc' := 39) d6_8 (by decide) (fun _ => ?_) (fun q => absurd (show (3 : Int) ≤ (3 : Int) from by decide) q)
  exact Own.retV X70 d6_39 ⟨rfl, F65, F67, F66, V69⟩ (by decide) (by decide)
theorem ef_6s1 (m : MethodId) (x0 : Addr) (x1 : Int32) (x2 : Addr) : entryFrame m #[.ref x0, .int x1, .ref x2] 4 = mkF m 0 #[.val (.ref x0), .val (.int x1), .val (.ref x2), .unset] [] := by first | (simp [entryFrame, mkF, argsToLocals, Value.category, maxLocals]; done) | rfl
set_option maxRecDepth 65536 in
set_option maxHeartbeats 40000000 in
theorem rm6s1 (l : Launch) (Z : State) (a0 : Array Value) (hw : ∀ d ∈ tables_1, d.before a0 Z = true) (a : Addr) (ps : Addr) (gd : Addr) (r0 : Addr) (r1 : Addr) (r2 : Addr) (k_gd : ClassId) (c_gd : ClassId) (k_ps : ClassId) (x00 : UInt64) (x01 : UInt64) (x02 : UInt64) (x10 : UInt64) (x11 : UInt64) (x12 : UInt64) (x20 : UInt64) (x21 : UInt64) (x22 : UInt64) (y0 : UInt64) (y1 : UInt64) (y2 : UInt64) (h0 : Heap) (n0 : Nat) (Z0 : n0 ≤ h0.size) (f0 : Exa Z h0 a "com/example/pliant/pliant/ml/Curvature") (f1 : Fld Z h0 a "com/example/pliant/pliant/ml/Curvature" "dots" "[[D" (.ref gd)) (f2 : Arv Z h0 gd k_gd (.array .double) (3 : Int32) [.ref r0, .ref r1, .ref r2] (.null)) (f3 : Arv Z h0 r0 c_gd .double (3 : Int32) [.double x00, .double x01, .double x02] (.double 0)) (f4 : Arv Z h0 r1 c_gd .double (3 : Int32) [.double x10, .double x11, .double x12] (.double 0)) (f5 : Arv Z h0 r2 c_gd .double (3 : Int32) [.double x20, .double x21, .double x22] (.double 0)) (f6 : Arv Z h0 ps k_ps .double (3 : Int32) [.double y0, .double y1, .double y2] (.double 0)) (u0 : r0 ≠ r1) (u1 : r0 ≠ r2) (u2 : r1 ≠ r2) (u3 : a ≠ r0) (u4 : a ≠ r1) (u5 : a ≠ r2) (u6 : gd ≠ r0) (u7 : gd ≠ r1) (u8 : gd ≠ r2) (u9 : ps ≠ r0) (u10 : ps ≠ r1) (u11 : ps ≠ r2) (w0 : n0 ≤ r0) (w1 : n0 ≤ r1) (w2 : n0 ≤ r2)  :
    Own.Con l Z mn_8 [] prog_94_method_15_code 4 none ({ frames := 0, cells := 0, slots := 0, locals := 0 } : Room) #[.ref a, .int (1 : Int32), .ref ps] h0 n0 (fun v h => v = none ∧ Keep h0 h [r0, r1, r2] ∧ Arv Z h r0 c_gd .double (3 : Int32) [.double x00, .double y0, .double x02] (.double 0) ∧ Arv Z h r1 c_gd .double (3 : Int32) [.double y0, .double y1, .double y2] (.double 0) ∧ Arv Z h r2 c_gd .double (3 : Int32) [.double x20, .double y2, .double x22] (.double 0)) := by
  refine Own.enter (own := "com/example/pliant/pliant/ml/Curvature") (nm := "set") (plainFor_of_name pn_com_example_pliant_pliant_ml_Curvature) rfl rfl (fun m => ef_6s1 m a (1 : Int32) ps) fun p e s m below meth c T X => ?_
  refine Own.iconst X (v := 0) d6_0 rfl ?_
  refine Own.istoreN X d6_1 (l' := #[.val (.ref a), .val (.int (1 : Int32)), .val (.ref ps), .val (.int (0 : Int32))]) rfl ?_
  refine Own.iloadN X d6_2 rfl ?_
  refine Own.aloadN X d6_3 rfl rfl ?_
  refine Own.getF_ X d6_4 (host := "") (Or.inl (Own.wd hw 22 rfl)) Via.refl f1 fun T1 X1 => ?_
  refine Own.alen_ X1 d6_7 f2 ?_
  refine Own.icmp_ X1 (pc' := 39) d6_8 (by decide) (fun q => absurd (show (3 : Int) ≤ (0 : Int) from q) (show ¬ ((3 : Int) ≤ (0 : Int)) from by decide)) (fun _ => ?_)
  refine Own.aloadN X1 d6_11 rfl rfl ?_
  refine Own.getF_ X1 d6_12 (host := "") (Or.inl (Own.wd hw 22 rfl)) Via.refl f1 fun T2 X2 => ?_
  refine Own.iloadN X2 d6_15 rfl ?_
  refine Own.aaload_ X2 d6_16 f2 rfl (by decide) rfl ?_
  refine Own.iloadN X2 d6_17 rfl ?_
  refine Own.aloadN X2 d6_18 rfl rfl ?_
  refine Own.iloadN X2 d6_19 rfl ?_
  refine Own.daload_ X2 d6_20 f6 (by decide) rfl ?_
  refine Own.dastore_ X2 (i := 0) d6_21 f4 (by decide) rfl (Nat.le_of_ble_eq_true rfl) w1 fun T3 h3 X3 W3 V3 => ?_
  have F4 := f0.wr W3
  have F5 := f1.other W3 (Or.inl u4)
  have F6 := f2.other W3 u7
  have F7 := f3.other W3 u0
  have F8 := f5.other W3 (Ne.symm u2)
  have F9 := f6.other W3 u10
  have F10 := (Keep.refl h0 [r0, r1, r2]).wr W3 (Or.inl (List.mem_of_getElem? (i := 1) rfl))
  have Z11 : n0 ≤ h3.size := by rw [W3.size]; exact Z0
  have V12 : Arv Z h3 r1 c_gd .double (3 : Int32) [.double y0, .double x11, .double x12] (.double 0) := V3
  refine Own.aloadN X3 d6_22 rfl rfl ?_
  refine Own.getF_ X3 d6_23 (host := "") (Or.inl (Own.wd hw 22 rfl)) Via.refl F5 fun T13 X13 => ?_
  refine Own.iloadN X13 d6_26 rfl ?_
  refine Own.aaload_ X13 d6_27 F6 rfl (by decide) rfl ?_
  refine Own.iloadN X13 d6_28 rfl ?_
  refine Own.aloadN X13 d6_29 rfl rfl ?_
  refine Own.iloadN X13 d6_30 rfl ?_
  refine Own.daload_ X13 d6_31 F9 (by decide) rfl ?_
  refine Own.dastore_ X13 (i := 1) d6_32 F7 (by decide) rfl (Nat.le_of_ble_eq_true rfl) w0 fun T14 h14 X14 W14 V14 => ?_
  have F15 := F4.wr W14
  have F16 := F5.other W14 (Or.inl u3)
  have F17 := F6.other W14 u6
  have F18 := F8.other W14 (Ne.symm u1)
  have F19 := F9.other W14 u9
  have F20 := F10.wr W14 (Or.inl (List.mem_of_getElem? (i := 0) rfl))
  have F21 := V12.other W14 (Ne.symm u0)
  have Z22 : n0 ≤ h14.size := by rw [W14.size]; exact Z11
  have V23 : Arv Z h14 r0 c_gd .double (3 : Int32) [.double x00, .double y0, .double x02] (.double 0) := V14
  refine Own.iinc X14 d6_33 rfl (l' := #[.val (.ref a), .val (.int (1 : Int32)), .val (.ref ps), .val (.int (1 : Int32))]) rfl ?_
  refine Own.goto_ X14 (pc' := 2) d6_36 (by decide) ?_
  refine Own.iloadN X14 d6_2 rfl ?_
  refine Own.aloadN X14 d6_3 rfl rfl ?_
  refine Own.getF_ X14 d6_4 (host := "") (Or.inl (Own.wd hw 22 rfl)) Via.refl F16 fun T24 X24 => ?_
  refine Own.alen_ X24 d6_7 F17 ?_
  refine Own.icmp_ X24 (pc' := 39) d6_8 (by decide) (fun q => absurd (show (3 : Int) ≤ (1 : Int) from q) (show ¬ ((3 : Int) ≤ (1 : Int)) from by decide)) (fun _ => ?_)
  refine Own.aloadN X24 d6_11 rfl rfl ?_
  refine Own.getF_ X24 d6_12 (host := "") (Or.inl (Own.wd hw 22 rfl)) Via.refl F16 fun T25 X25 => ?_
  refine Own.iloadN X25 d6_15 rfl ?_
  refine Own.aaload_ X25 d6_16 F17 rfl (by decide) rfl ?_
  refine Own.iloadN X25 d6_17 rfl ?_
  refine Own.aloadN X25 d6_18 rfl rfl ?_
  refine Own.iloadN X25 d6_19 rfl ?_
  refine Own.daload_ X25 d6_20 F19 (by decide) rfl ?_
  refine Own.dastore_ X25 (i := 1) d6_21 F21 (by decide) rfl (Nat.le_of_ble_eq_true rfl) w1 fun T26 h26 X26 W26 V26 => ?_
  have F27 := F15.wr W26
  have F28 := F16.other W26 (Or.inl u4)
  have F29 := F17.other W26 u7
  have F30 := F18.other W26 (Ne.symm u2)
  have F31 := F19.other W26 u10
  have F32 := F20.wr W26 (Or.inl (List.mem_of_getElem? (i := 1) rfl))
  have F33 := V23.other W26 u0
  have Z34 : n0 ≤ h26.size := by rw [W26.size]; exact Z22
  have V35 : Arv Z h26 r1 c_gd .double (3 : Int32) [.double y0, .double y1, .double x12] (.double 0) := V26
  refine Own.aloadN X26 d6_22 rfl rfl ?_
  refine Own.getF_ X26 d6_23 (host := "") (Or.inl (Own.wd hw 22 rfl)) Via.refl F28 fun T36 X36 => ?_
  refine Own.iloadN X36 d6_26 rfl ?_
  refine Own.aaload_ X36 d6_27 F29 rfl (by decide) rfl ?_
  refine Own.iloadN X36 d6_28 rfl ?_
  refine Own.aloadN X36 d6_29 rfl rfl ?_
  refine Own.iloadN X36 d6_30 rfl ?_
  refine Own.daload_ X36 d6_31 F31 (by decide) rfl ?_
  refine Own.dastore_ X36 (i := 1) d6_32 V35 (by decide) rfl (Nat.le_of_ble_eq_true rfl) w1 fun T37 h37 X37 W37 V37 => ?_
  have F38 := F27.wr W37
  have F39 := F28.other W37 (Or.inl u4)
  have F40 := F29.other W37 u7
  have F41 := F30.other W37 (Ne.symm u2)
  have F42 := F31.other W37 u10
  have F43 := F32.wr W37 (Or.inl (List.mem_of_getElem? (i := 1) rfl))
  have F44 := F33.other W37 u0
  have Z45 : n0 ≤ h37.size := by rw [W37.size]; exact Z34
  have V46 : Arv Z h37 r1 c_gd .double (3 : Int32) [.double y0, .double y1, .double x12] (.double 0) := V37
  refine Own.iinc X37 d6_33 rfl (l' := #[.val (.ref a), .val (.int (1 : Int32)), .val (.ref ps), .val (.int (2 : Int32))]) rfl ?_
  refine Own.goto_ X37 (pc' := 2) d6_36 (by decide) ?_
  refine Own.iloadN X37 d6_2 rfl ?_
  refine Own.aloadN X37 d6_3 rfl rfl ?_
  refine Own.getF_ X37 d6_4 (host := "") (Or.inl (Own.wd hw 22 rfl)) Via.refl F39 fun T47 X47 => ?_
  refine Own.alen_ X47 d6_7 F40 ?_
  refine Own.icmp_ X47 (pc' := 39) d6_8 (by decide) (fun q => absurd (show (3 : Int) ≤ (2 : Int) from q) (show ¬ ((3 : Int) ≤ (2 : Int)) from by decide)) (fun _ => ?_)
  refine Own.aloadN X47 d6_11 rfl rfl ?_
  refine Own.getF_ X47 d6_12 (host := "") (Or.inl (Own.wd hw 22 rfl)) Via.refl F39 fun T48 X48 => ?_
  refine Own.iloadN X48 d6_15 rfl ?_
  refine Own.aaload_ X48 d6_16 F40 rfl (by decide) rfl ?_
  refine Own.iloadN X48 d6_17 rfl ?_
  refine Own.aloadN X48 d6_18 rfl rfl ?_
  refine Own.iloadN X48 d6_19 rfl ?_
  refine Own.daload_ X48 d6_20 F42 (by decide) rfl ?_
  refine Own.dastore_ X48 (i := 2) d6_21 V46 (by decide) rfl (Nat.le_of_ble_eq_true rfl) w1 fun T49 h49 X49 W49 V49 => ?_
  have F50 := F38.wr W49
  have F51 := F39.other W49 (Or.inl u4)
  have F52 := F40.other W49 u7
  have F53 := F41.other W49 (Ne.symm u2)
  have F54 := F42.other W49 u10
  have F55 := F43.wr W49 (Or.inl (List.mem_of_getElem? (i := 1) rfl))
  have F56 := F44.other W49 u0
  have Z57 : n0 ≤ h49.size := by rw [W49.size]; exact Z45
  have V58 : Arv Z h49 r1 c_gd .double (3 : Int32) [.double y0, .double y1, .double y2] (.double 0) := V49
  refine Own.aloadN X49 d6_22 rfl rfl ?_
  refine Own.getF_ X49 d6_23 (host := "") (Or.inl (Own.wd hw 22 rfl)) Via.refl F51 fun T59 X59 => ?_
  refine Own.iloadN X59 d6_26 rfl ?_
  refine Own.aaload_ X59 d6_27 F52 rfl (by decide) rfl ?_
  refine Own.iloadN X59 d6_28 rfl ?_
  refine Own.aloadN X59 d6_29 rfl rfl ?_
  refine Own.iloadN X59 d6_30 rfl ?_
  refine Own.daload_ X59 d6_31 F54 (by decide) rfl ?_
  refine Own.dastore_ X59 (i := 1) d6_32 F53 (by decide) rfl (Nat.le_of_ble_eq_true rfl) w2 fun T60 h60 X60 W60 V60 => ?_
  have F61 := F50.wr W60
  have F62 := F51.other W60 (Or.inl u5)
  have F63 := F52.other W60 u8
  have F64 := F54.other W60 u11
  have F65 := F55.wr W60 (Or.inl (List.mem_of_getElem? (i := 2) rfl))
  have F66 := F56.other W60 u1
  have F67 := V58.other W60 u2
  have Z68 : n0 ≤ h60.size := by rw [W60.size]; exact Z57
  have V69 : Arv Z h60 r2 c_gd .double (3 : Int32) [.double x20, .double y2, .double x22] (.double 0) := V60
  refine Own.iinc X60 d6_33 rfl (l' := #[.val (.ref a), .val (.int (1 : Int32)), .val (.ref ps), .val (.int (3 : Int32))]) rfl ?_
  refine Own.goto_ X60 (pc' := 2) d6_36 (by decide) ?_
  refine Own.iloadN X60 d6_2 rfl ?_
  refine Own.aloadN X60 d6_3 rfl rfl ?_
  refine Own.getF_ X60 d6_4 (host := "") (Or.inl (Own.wd hw 22 rfl)) Via.refl F62 fun T70 X70 => ?_
  refine Own.alen_ X70 d6_7 F63 ?_
  refine Own.icmp_ X70 (pc' := 39) d6_8 (by decide) (fun _ => ?_) (fun q => absurd (show (3 : Int) ≤ (3 : Int) from by decide) q)
  exact Own.retV X70 d6_39 ⟨rfl, F65, F66, F67, V69⟩ (by decide) (by decide)
theorem ef_6s2 (m : MethodId) (x0 : Addr) (x1 : Int32) (x2 : Addr) : entryFrame m #[.ref x0, .int x1, .ref x2] 4 = mkF m 0 #[.val (.ref x0), .val (.int x1), .val (.ref x2), .unset] [] := by first | (simp [entryFrame, mkF, argsToLocals, Value.category, maxLocals]; done) | rfl
set_option maxRecDepth 65536 in
set_option maxHeartbeats 40000000 in
theorem rm6s2 (l : Launch) (Z : State) (a0 : Array Value) (hw : ∀ d ∈ tables_1, d.before a0 Z = true) (a : Addr) (ps : Addr) (gd : Addr) (r0 : Addr) (r1 : Addr) (r2 : Addr) (k_gd : ClassId) (c_gd : ClassId) (k_ps : ClassId) (x00 : UInt64) (x01 : UInt64) (x02 : UInt64) (x10 : UInt64) (x11 : UInt64) (x12 : UInt64) (x20 : UInt64) (x21 : UInt64) (x22 : UInt64) (y0 : UInt64) (y1 : UInt64) (y2 : UInt64) (h0 : Heap) (n0 : Nat) (Z0 : n0 ≤ h0.size) (f0 : Exa Z h0 a "com/example/pliant/pliant/ml/Curvature") (f1 : Fld Z h0 a "com/example/pliant/pliant/ml/Curvature" "dots" "[[D" (.ref gd)) (f2 : Arv Z h0 gd k_gd (.array .double) (3 : Int32) [.ref r0, .ref r1, .ref r2] (.null)) (f3 : Arv Z h0 r0 c_gd .double (3 : Int32) [.double x00, .double x01, .double x02] (.double 0)) (f4 : Arv Z h0 r1 c_gd .double (3 : Int32) [.double x10, .double x11, .double x12] (.double 0)) (f5 : Arv Z h0 r2 c_gd .double (3 : Int32) [.double x20, .double x21, .double x22] (.double 0)) (f6 : Arv Z h0 ps k_ps .double (3 : Int32) [.double y0, .double y1, .double y2] (.double 0)) (u0 : r0 ≠ r1) (u1 : r0 ≠ r2) (u2 : r1 ≠ r2) (u3 : a ≠ r0) (u4 : a ≠ r1) (u5 : a ≠ r2) (u6 : gd ≠ r0) (u7 : gd ≠ r1) (u8 : gd ≠ r2) (u9 : ps ≠ r0) (u10 : ps ≠ r1) (u11 : ps ≠ r2) (w0 : n0 ≤ r0) (w1 : n0 ≤ r1) (w2 : n0 ≤ r2)  :
    Own.Con l Z mn_8 [] prog_94_method_15_code 4 none ({ frames := 0, cells := 0, slots := 0, locals := 0 } : Room) #[.ref a, .int (2 : Int32), .ref ps] h0 n0 (fun v h => v = none ∧ Keep h0 h [r0, r1, r2] ∧ Arv Z h r0 c_gd .double (3 : Int32) [.double x00, .double x01, .double y0] (.double 0) ∧ Arv Z h r1 c_gd .double (3 : Int32) [.double x10, .double x11, .double y1] (.double 0) ∧ Arv Z h r2 c_gd .double (3 : Int32) [.double y0, .double y1, .double y2] (.double 0)) := by
  refine Own.enter (own := "com/example/pliant/pliant/ml/Curvature") (nm := "set") (plainFor_of_name pn_com_example_pliant_pliant_ml_Curvature) rfl rfl (fun m => ef_6s2 m a (2 : Int32) ps) fun p e s m below meth c T X => ?_
  refine Own.iconst X (v := 0) d6_0 rfl ?_
  refine Own.istoreN X d6_1 (l' := #[.val (.ref a), .val (.int (2 : Int32)), .val (.ref ps), .val (.int (0 : Int32))]) rfl ?_
  refine Own.iloadN X d6_2 rfl ?_
  refine Own.aloadN X d6_3 rfl rfl ?_
  refine Own.getF_ X d6_4 (host := "") (Or.inl (Own.wd hw 22 rfl)) Via.refl f1 fun T1 X1 => ?_
  refine Own.alen_ X1 d6_7 f2 ?_
  refine Own.icmp_ X1 (pc' := 39) d6_8 (by decide) (fun q => absurd (show (3 : Int) ≤ (0 : Int) from q) (show ¬ ((3 : Int) ≤ (0 : Int)) from by decide)) (fun _ => ?_)
  refine Own.aloadN X1 d6_11 rfl rfl ?_
  refine Own.getF_ X1 d6_12 (host := "") (Or.inl (Own.wd hw 22 rfl)) Via.refl f1 fun T2 X2 => ?_
  refine Own.iloadN X2 d6_15 rfl ?_
  refine Own.aaload_ X2 d6_16 f2 rfl (by decide) rfl ?_
  refine Own.iloadN X2 d6_17 rfl ?_
  refine Own.aloadN X2 d6_18 rfl rfl ?_
  refine Own.iloadN X2 d6_19 rfl ?_
  refine Own.daload_ X2 d6_20 f6 (by decide) rfl ?_
  refine Own.dastore_ X2 (i := 0) d6_21 f5 (by decide) rfl (Nat.le_of_ble_eq_true rfl) w2 fun T3 h3 X3 W3 V3 => ?_
  have F4 := f0.wr W3
  have F5 := f1.other W3 (Or.inl u5)
  have F6 := f2.other W3 u8
  have F7 := f3.other W3 u1
  have F8 := f4.other W3 u2
  have F9 := f6.other W3 u11
  have F10 := (Keep.refl h0 [r0, r1, r2]).wr W3 (Or.inl (List.mem_of_getElem? (i := 2) rfl))
  have Z11 : n0 ≤ h3.size := by rw [W3.size]; exact Z0
  have V12 : Arv Z h3 r2 c_gd .double (3 : Int32) [.double y0, .double x21, .double x22] (.double 0) := V3
  refine Own.aloadN X3 d6_22 rfl rfl ?_
  refine Own.getF_ X3 d6_23 (host := "") (Or.inl (Own.wd hw 22 rfl)) Via.refl F5 fun T13 X13 => ?_
  refine Own.iloadN X13 d6_26 rfl ?_
  refine Own.aaload_ X13 d6_27 F6 rfl (by decide) rfl ?_
  refine Own.iloadN X13 d6_28 rfl ?_
  refine Own.aloadN X13 d6_29 rfl rfl ?_
  refine Own.iloadN X13 d6_30 rfl ?_
  refine Own.daload_ X13 d6_31 F9 (by decide) rfl ?_
  refine Own.dastore_ X13 (i := 2) d6_32 F7 (by decide) rfl (Nat.le_of_ble_eq_true rfl) w0 fun T14 h14 X14 W14 V14 => ?_
  have F15 := F4.wr W14
  have F16 := F5.other W14 (Or.inl u3)
  have F17 := F6.other W14 u6
  have F18 := F8.other W14 (Ne.symm u0)
  have F19 := F9.other W14 u9
  have F20 := F10.wr W14 (Or.inl (List.mem_of_getElem? (i := 0) rfl))
  have F21 := V12.other W14 (Ne.symm u1)
  have Z22 : n0 ≤ h14.size := by rw [W14.size]; exact Z11
  have V23 : Arv Z h14 r0 c_gd .double (3 : Int32) [.double x00, .double x01, .double y0] (.double 0) := V14
  refine Own.iinc X14 d6_33 rfl (l' := #[.val (.ref a), .val (.int (2 : Int32)), .val (.ref ps), .val (.int (1 : Int32))]) rfl ?_
  refine Own.goto_ X14 (pc' := 2) d6_36 (by decide) ?_
  refine Own.iloadN X14 d6_2 rfl ?_
  refine Own.aloadN X14 d6_3 rfl rfl ?_
  refine Own.getF_ X14 d6_4 (host := "") (Or.inl (Own.wd hw 22 rfl)) Via.refl F16 fun T24 X24 => ?_
  refine Own.alen_ X24 d6_7 F17 ?_
  refine Own.icmp_ X24 (pc' := 39) d6_8 (by decide) (fun q => absurd (show (3 : Int) ≤ (1 : Int) from q) (show ¬ ((3 : Int) ≤ (1 : Int)) from by decide)) (fun _ => ?_)
  refine Own.aloadN X24 d6_11 rfl rfl ?_
  refine Own.getF_ X24 d6_12 (host := "") (Or.inl (Own.wd hw 22 rfl)) Via.refl F16 fun T25 X25 => ?_
  refine Own.iloadN X25 d6_15 rfl ?_
  refine Own.aaload_ X25 d6_16 F17 rfl (by decide) rfl ?_
  refine Own.iloadN X25 d6_17 rfl ?_
  refine Own.aloadN X25 d6_18 rfl rfl ?_
  refine Own.iloadN X25 d6_19 rfl ?_
  refine Own.daload_ X25 d6_20 F19 (by decide) rfl ?_
  refine Own.dastore_ X25 (i := 1) d6_21 F21 (by decide) rfl (Nat.le_of_ble_eq_true rfl) w2 fun T26 h26 X26 W26 V26 => ?_
  have F27 := F15.wr W26
  have F28 := F16.other W26 (Or.inl u5)
  have F29 := F17.other W26 u8
  have F30 := F18.other W26 u2
  have F31 := F19.other W26 u11
  have F32 := F20.wr W26 (Or.inl (List.mem_of_getElem? (i := 2) rfl))
  have F33 := V23.other W26 u1
  have Z34 : n0 ≤ h26.size := by rw [W26.size]; exact Z22
  have V35 : Arv Z h26 r2 c_gd .double (3 : Int32) [.double y0, .double y1, .double x22] (.double 0) := V26
  refine Own.aloadN X26 d6_22 rfl rfl ?_
  refine Own.getF_ X26 d6_23 (host := "") (Or.inl (Own.wd hw 22 rfl)) Via.refl F28 fun T36 X36 => ?_
  refine Own.iloadN X36 d6_26 rfl ?_
  refine Own.aaload_ X36 d6_27 F29 rfl (by decide) rfl ?_
  refine Own.iloadN X36 d6_28 rfl ?_
  refine Own.aloadN X36 d6_29 rfl rfl ?_
  refine Own.iloadN X36 d6_30 rfl ?_
  refine Own.daload_ X36 d6_31 F31 (by decide) rfl ?_
  refine Own.dastore_ X36 (i := 2) d6_32 F30 (by decide) rfl (Nat.le_of_ble_eq_true rfl) w1 fun T37 h37 X37 W37 V37 => ?_
  have F38 := F27.wr W37
  have F39 := F28.other W37 (Or.inl u4)
  have F40 := F29.other W37 u7
  have F41 := F31.other W37 u10
  have F42 := F32.wr W37 (Or.inl (List.mem_of_getElem? (i := 1) rfl))
  have F43 := F33.other W37 u0
  have F44 := V35.other W37 (Ne.symm u2)
  have Z45 : n0 ≤ h37.size := by rw [W37.size]; exact Z34
  have V46 : Arv Z h37 r1 c_gd .double (3 : Int32) [.double x10, .double x11, .double y1] (.double 0) := V37
  refine Own.iinc X37 d6_33 rfl (l' := #[.val (.ref a), .val (.int (2 : Int32)), .val (.ref ps), .val (.int (2 : Int32))]) rfl ?_
  refine Own.goto_ X37 (pc' := 2) d6_36 (by decide) ?_
  refine Own.iloadN X37 d6_2 rfl ?_
  refine Own.aloadN X37 d6_3 rfl rfl ?_
  refine Own.getF_ X37 d6_4 (host := "") (Or.inl (Own.wd hw 22 rfl)) Via.refl F39 fun T47 X47 => ?_
  refine Own.alen_ X47 d6_7 F40 ?_
  refine Own.icmp_ X47 (pc' := 39) d6_8 (by decide) (fun q => absurd (show (3 : Int) ≤ (2 : Int) from q) (show ¬ ((3 : Int) ≤ (2 : Int)) from by decide)) (fun _ => ?_)
  refine Own.aloadN X47 d6_11 rfl rfl ?_
  refine Own.getF_ X47 d6_12 (host := "") (Or.inl (Own.wd hw 22 rfl)) Via.refl F39 fun T48 X48 => ?_
  refine Own.iloadN X48 d6_15 rfl ?_
  refine Own.aaload_ X48 d6_16 F40 rfl (by decide) rfl ?_
  refine Own.iloadN X48 d6_17 rfl ?_
  refine Own.aloadN X48 d6_18 rfl rfl ?_
  refine Own.iloadN X48 d6_19 rfl ?_
  refine Own.daload_ X48 d6_20 F41 (by decide) rfl ?_
  refine Own.dastore_ X48 (i := 2) d6_21 F44 (by decide) rfl (Nat.le_of_ble_eq_true rfl) w2 fun T49 h49 X49 W49 V49 => ?_
  have F50 := F38.wr W49
  have F51 := F39.other W49 (Or.inl u5)
  have F52 := F40.other W49 u8
  have F53 := F41.other W49 u11
  have F54 := F42.wr W49 (Or.inl (List.mem_of_getElem? (i := 2) rfl))
  have F55 := F43.other W49 u1
  have F56 := V46.other W49 u2
  have Z57 : n0 ≤ h49.size := by rw [W49.size]; exact Z45
  have V58 : Arv Z h49 r2 c_gd .double (3 : Int32) [.double y0, .double y1, .double y2] (.double 0) := V49
  refine Own.aloadN X49 d6_22 rfl rfl ?_
  refine Own.getF_ X49 d6_23 (host := "") (Or.inl (Own.wd hw 22 rfl)) Via.refl F51 fun T59 X59 => ?_
  refine Own.iloadN X59 d6_26 rfl ?_
  refine Own.aaload_ X59 d6_27 F52 rfl (by decide) rfl ?_
  refine Own.iloadN X59 d6_28 rfl ?_
  refine Own.aloadN X59 d6_29 rfl rfl ?_
  refine Own.iloadN X59 d6_30 rfl ?_
  refine Own.daload_ X59 d6_31 F53 (by decide) rfl ?_
  refine Own.dastore_ X59 (i := 2) d6_32 V58 (by decide) rfl (Nat.le_of_ble_eq_true rfl) w2 fun T60 h60 X60 W60 V60 => ?_
  have F61 := F50.wr W60
  have F62 := F51.other W60 (Or.inl u5)
  have F63 := F52.other W60 u8
  have F64 := F53.other W60 u11
  have F65 := F54.wr W60 (Or.inl (List.mem_of_getElem? (i := 2) rfl))
  have F66 := F55.other W60 u1
  have F67 := F56.other W60 u2
  have Z68 : n0 ≤ h60.size := by rw [W60.size]; exact Z57
  have V69 : Arv Z h60 r2 c_gd .double (3 : Int32) [.double y0, .double y1, .double y2] (.double 0) := V60
  refine Own.iinc X60 d6_33 rfl (l' := #[.val (.ref a), .val (.int (2 : Int32)), .val (.ref ps), .val (.int (3 : Int32))]) rfl ?_
  refine Own.goto_ X60 (pc' := 2) d6_36 (by decide) ?_
  refine Own.iloadN X60 d6_2 rfl ?_
  refine Own.aloadN X60 d6_3 rfl rfl ?_
  refine Own.getF_ X60 d6_4 (host := "") (Or.inl (Own.wd hw 22 rfl)) Via.refl F62 fun T70 X70 => ?_
  refine Own.alen_ X70 d6_7 F63 ?_
  refine Own.icmp_ X70 (pc' := 39) d6_8 (by decide) (fun _ => ?_) (fun q => absurd (show (3 : Int) ≤ (3 : Int) from by decide) q)
  exact Own.retV X70 d6_39 ⟨rfl, F65, F66, F67, V69⟩ (by decide) (by decide)
theorem ef_4 (m : MethodId) (x0 : Addr) (x1 : Int32) (x2 : Addr) (x3 : Addr) (x4 : Addr) : entryFrame m #[.ref x0, .int x1, .ref x2, .ref x3, .ref x4] 11 = mkF m 0 #[.val (.ref x0), .val (.int x1), .val (.ref x2), .val (.ref x3), .val (.ref x4), .unset, .unset, .unset, .unset, .unset, .unset] [] := by first | (simp [entryFrame, mkF, argsToLocals, Value.category, maxLocals]; done) | rfl
set_option maxRecDepth 65536 in
set_option maxHeartbeats 40000000 in
theorem rm4 (l : Launch) (Z : State) (a0 : Array Value) (hw : ∀ d ∈ tables_1, d.before a0 Z = true) (a : Addr) (sp : Addr) (cp : Addr) (gp : Addr) (pa : Addr) (k_pa : ClassId) (gd : Addr) (r0 : Addr) (r1 : Addr) (r2 : Addr) (k_gd : ClassId) (c_gd : ClassId) (x00 : UInt64) (x01 : UInt64) (x02 : UInt64) (x10 : UInt64) (x11 : UInt64) (x12 : UInt64) (x20 : UInt64) (x21 : UInt64) (x22 : UInt64) (k_sp : ClassId) (k_cp : ClassId) (k_gp : ClassId) (sa : UInt64) (sb : UInt64) (sc : UInt64) (ca : UInt64) (cb : UInt64) (cd : UInt64) (ya : UInt64) (yb : UInt64) (yc : UInt64) (h0 : Heap) (n0 : Nat) (Z0 : n0 ≤ h0.size) (f0 : Exa Z h0 a "com/example/pliant/pliant/ml/Curvature") (f1 : Fld Z h0 a "com/example/pliant/pliant/ml/Curvature" "history" "I" (.int (1 : Int32))) (f2 : Fld Z h0 a "com/example/pliant/pliant/ml/Curvature" "pairs" "[I" (.ref pa)) (f3 : Arv Z h0 pa k_pa .int (0 : Int32) [] (.int (0 : Int32))) (f4 : Fld Z h0 a "com/example/pliant/pliant/ml/Curvature" "dots" "[[D" (.ref gd)) (f5 : Arv Z h0 gd k_gd (.array .double) (3 : Int32) [.ref r0, .ref r1, .ref r2] (.null)) (f6 : Arv Z h0 r0 c_gd .double (3 : Int32) [.double x00, .double x01, .double x02] (.double 0)) (f7 : Arv Z h0 r1 c_gd .double (3 : Int32) [.double x10, .double x11, .double x12] (.double 0)) (f8 : Arv Z h0 r2 c_gd .double (3 : Int32) [.double x20, .double x21, .double x22] (.double 0)) (f9 : Arv Z h0 sp k_sp .double (3 : Int32) [.double sa, .double sb, .double sc] (.double 0)) (f10 : Arv Z h0 cp k_cp .double (3 : Int32) [.double ca, .double cb, .double cd] (.double 0)) (f11 : Arv Z h0 gp k_gp .double (3 : Int32) [.double ya, .double yb, .double yc] (.double 0)) (u0 : r0 ≠ r1) (u1 : r0 ≠ r2) (u2 : r1 ≠ r2) (u3 : a ≠ r0) (u4 : a ≠ r1) (u5 : a ≠ r2) (u6 : gd ≠ r0) (u7 : gd ≠ r1) (u8 : gd ≠ r2) (u9 : sp ≠ r0) (u10 : sp ≠ r1) (u11 : sp ≠ r2) (u12 : cp ≠ r0) (u13 : cp ≠ r1) (u14 : cp ≠ r2) (u15 : gp ≠ r0) (u16 : gp ≠ r1) (u17 : gp ≠ r2) (u18 : pa ≠ r0) (u19 : pa ≠ r1) (u20 : pa ≠ r2) (u21 : a ≠ gd) (u22 : a ≠ sp) (u23 : a ≠ cp) (u24 : a ≠ gp) (u25 : a ≠ pa) (w0 : n0 ≤ r0) (w1 : n0 ≤ r1) (w2 : n0 ≤ r2) (w3 : n0 ≤ a)  :
    Own.Con l Z mn_11 [] prog_94_method_9_code 11 none ({ frames := 1, cells := 1, slots := 1, locals := 18 } : Room) #[.ref a, .int (0 : Int32), .ref sp, .ref cp, .ref gp] h0 n0 (fun v h => v = none ∧ Keep h0 h [r0, r1, r2, a] ∧ Fld Z h a "com/example/pliant/pliant/ml/Curvature" "dots" "[[D" (.ref gd) ∧ Arv Z h gd k_gd (.array .double) (3 : Int32) [.ref r0, .ref r1, .ref r2] (.null) ∧ Arv Z h r0 c_gd .double (3 : Int32) [.double sa, .double ca, .double ya] (.double 0) ∧ Arv Z h r1 c_gd .double (3 : Int32) [.double ca, .double cb, .double yb] (.double 0) ∧ Arv Z h r2 c_gd .double (3 : Int32) [.double ya, .double yb, .double yc] (.double 0)) := by
  refine Own.enter (own := "com/example/pliant/pliant/ml/Curvature") (nm := "add") (plainFor_of_name pn_com_example_pliant_pliant_ml_Curvature) rfl rfl (fun m => ef_4 m a (0 : Int32) sp cp gp) fun p e s m below meth c T X => ?_
  refine Own.aloadN X d4_0 rfl rfl ?_
  refine Own.aloadN X d4_1 rfl rfl ?_
  refine Own.iloadN X d4_2 rfl ?_
  refine Own.callV_ (y := mn_4) (z := mn_4) (a := a) X d4_3 (Own.wd hw 29 rfl) (Own.wd hw 30 rfl) (Own.wd hw 32 rfl) (Own.wd hw 31 rfl) rfl (Own.wd hw 8 rfl) (Own.wd hw 33 rfl) (by decide) f0 (rm5 l Z a0 hw a (0 : Int32) h0 n0 Z0  ) (lenOf pd_9 rfl) rfl (argsL := [.int (0 : Int32)]) (rest := [.ref a]) rfl (W := 1) (Nat.le_of_eq rfl) (by decide) (by decide) (by decide) (by decide) fun T1 h1 v1 X1 q1 => ?_
  obtain ⟨rfl, rfl⟩ := q1
  show Own.Go p e below s n0 _ _ _ (T1.setTop (mkF m 6 _ [.int (0 : Int32), .ref a]))
  refine Own.aloadN X1 d4_6 rfl rfl ?_
  refine Own.callP_ (y := mn_8) (D := "com/example/pliant/pliant/ml/Curvature") (z' := mn_11) (z := mn_11) (a := a) X1 d4_7 (Own.wd hw 34 rfl) (Own.wd hw 35 rfl) (Own.wd hw 27 rfl) rfl (Own.wd hw 36 rfl) (Own.wd hw 8 rfl) (Own.wd hw 37 rfl) (by decide) f0 (rm6s0 l Z a0 hw a sp gd r0 r1 r2 k_gd c_gd k_sp x00 x01 x02 x10 x11 x12 x20 x21 x22 sa sb sc h0 n0 Z0 f0 f4 f5 f6 f7 f8 f9 u0 u1 u2 u3 u4 u5 u6 u7 u8 u9 u10 u11 w0 w1 w2 ) (lenOf pd_10 rfl) rfl (argsL := [.int (0 : Int32), .ref sp]) (rest := []) rfl (W := 0) (Nat.le_of_eq rfl) (by decide) (by decide) (by decide) (by decide) fun T2 h2 v2 X2 q2 => ?_
  obtain ⟨rfl, K2, G2_0, G2_1, G2_2⟩ := q2
  have F3 := f0.keep K2
  have F4 := f1.keep K2 (ninS u3 (ninS u4 (ninS u5 nin0)))
  have F5 := f2.keep K2 (ninS u3 (ninS u4 (ninS u5 nin0)))
  have F6 := f3.keep K2 (ninS u18 (ninS u19 (ninS u20 nin0)))
  have F7 := f4.keep K2 (ninS u3 (ninS u4 (ninS u5 nin0)))
  have F8 := f5.keep K2 (ninS u6 (ninS u7 (ninS u8 nin0)))
  have F9 := f9.keep K2 (ninS u9 (ninS u10 (ninS u11 nin0)))
  have F10 := f10.keep K2 (ninS u12 (ninS u13 (ninS u14 nin0)))
  have F11 := f11.keep K2 (ninS u15 (ninS u16 (ninS u17 nin0)))
  have F12 := (Keep.refl h0 [r0, r1, r2, a]).trans K2 (allS (Or.inl (List.mem_of_getElem? (i := 0) rfl)) (allS (Or.inl (List.mem_of_getElem? (i := 1) rfl)) (allS (Or.inl (List.mem_of_getElem? (i := 2) rfl)) all0)))
  have Z13 : n0 ≤ h2.size := Nat.le_trans Z0 K2.1
  show Own.Go p e below s n0 _ _ _ (T2.setTop (mkF m 10 _ []))
  refine Own.aloadN X2 d4_10 rfl rfl ?_
  refine Own.aloadN X2 d4_11 rfl rfl ?_
  refine Own.iloadN X2 d4_12 rfl ?_
  refine Own.callV_ (y := mn_5) (z := mn_5) (a := a) X2 d4_13 (Own.wd hw 38 rfl) (Own.wd hw 39 rfl) (Own.wd hw 41 rfl) (Own.wd hw 40 rfl) rfl (Own.wd hw 8 rfl) (Own.wd hw 42 rfl) (by decide) F3 (rm7 l Z a0 hw a h2 n0 Z13 F4 ) (lenOf pd_9 rfl) rfl (argsL := [.int (0 : Int32)]) (rest := [.ref a]) rfl (W := 1) (Nat.le_of_eq rfl) (by decide) (by decide) (by decide) (by decide) fun T14 h14 v14 X14 q14 => ?_
  obtain ⟨rfl, rfl⟩ := q14
  show Own.Go p e below s n0 _ _ _ (T14.setTop (mkF m 16 _ [.int (1 : Int32), .ref a]))
  refine Own.aloadN X14 d4_16 rfl rfl ?_
  refine Own.callP_ (y := mn_8) (D := "com/example/pliant/pliant/ml/Curvature") (z' := mn_11) (z := mn_11) (a := a) X14 d4_17 (Own.wd hw 34 rfl) (Own.wd hw 35 rfl) (Own.wd hw 27 rfl) rfl (Own.wd hw 36 rfl) (Own.wd hw 8 rfl) (Own.wd hw 37 rfl) (by decide) F3 (rm6s1 l Z a0 hw a cp gd r0 r1 r2 k_gd c_gd k_cp sa sb sc sb x11 x12 sc x21 x22 ca cb cd h2 n0 Z13 F3 F7 F8 G2_0 G2_1 G2_2 F10 u0 u1 u2 u3 u4 u5 u6 u7 u8 u12 u13 u14 w0 w1 w2 ) (lenOf pd_10 rfl) rfl (argsL := [.int (1 : Int32), .ref cp]) (rest := []) rfl (W := 0) (Nat.le_of_eq rfl) (by decide) (by decide) (by decide) (by decide) fun T15 h15 v15 X15 q15 => ?_
  obtain ⟨rfl, K15, G15_0, G15_1, G15_2⟩ := q15
  have F16 := F3.keep K15
  have F17 := F4.keep K15 (ninS u3 (ninS u4 (ninS u5 nin0)))
  have F18 := F5.keep K15 (ninS u3 (ninS u4 (ninS u5 nin0)))
  have F19 := F6.keep K15 (ninS u18 (ninS u19 (ninS u20 nin0)))
  have F20 := F7.keep K15 (ninS u3 (ninS u4 (ninS u5 nin0)))
  have F21 := F8.keep K15 (ninS u6 (ninS u7 (ninS u8 nin0)))
  have F22 := F9.keep K15 (ninS u9 (ninS u10 (ninS u11 nin0)))
  have F23 := F10.keep K15 (ninS u12 (ninS u13 (ninS u14 nin0)))
  have F24 := F11.keep K15 (ninS u15 (ninS u16 (ninS u17 nin0)))
  have F25 := F12.trans K15 (allS (Or.inl (List.mem_of_getElem? (i := 0) rfl)) (allS (Or.inl (List.mem_of_getElem? (i := 1) rfl)) (allS (Or.inl (List.mem_of_getElem? (i := 2) rfl)) all0)))
  have Z26 : n0 ≤ h15.size := Nat.le_trans Z13 K15.1
  show Own.Go p e below s n0 _ _ _ (T15.setTop (mkF m 20 _ []))
  refine Own.aloadN X15 d4_20 rfl rfl ?_
  refine Own.aloadN X15 d4_21 rfl rfl ?_
  refine Own.callV_ (y := mn_6) (z := mn_6) (a := a) X15 d4_22 (Own.wd hw 43 rfl) (Own.wd hw 44 rfl) (Own.wd hw 46 rfl) (Own.wd hw 45 rfl) rfl (Own.wd hw 8 rfl) (Own.wd hw 47 rfl) (by decide) F16 (rm8 l Z a0 hw a h15 n0 Z26 F17 ) (lenOf pd_12 rfl) rfl (argsL := []) (rest := [.ref a]) rfl (W := 1) (Nat.le_of_eq rfl) (by decide) (by decide) (by decide) (by decide) fun T27 h27 v27 X27 q27 => ?_
  obtain ⟨rfl, rfl⟩ := q27
  show Own.Go p e below s n0 _ _ _ (T27.setTop (mkF m 25 _ [.int (2 : Int32), .ref a]))
  refine Own.aload X27 d4_25 rfl rfl ?_
  refine Own.callP_ (y := mn_8) (D := "com/example/pliant/pliant/ml/Curvature") (z' := mn_11) (z := mn_11) (a := a) X27 d4_27 (Own.wd hw 34 rfl) (Own.wd hw 35 rfl) (Own.wd hw 27 rfl) rfl (Own.wd hw 36 rfl) (Own.wd hw 8 rfl) (Own.wd hw 37 rfl) (by decide) F16 (rm6s2 l Z a0 hw a gp gd r0 r1 r2 k_gd c_gd k_gp sa ca sc ca cb cd sc cd x22 ya yb yc h15 n0 Z26 F16 F20 F21 G15_0 G15_1 G15_2 F24 u0 u1 u2 u3 u4 u5 u6 u7 u8 u15 u16 u17 w0 w1 w2 ) (lenOf pd_10 rfl) rfl (argsL := [.int (2 : Int32), .ref gp]) (rest := []) rfl (W := 0) (Nat.le_of_eq rfl) (by decide) (by decide) (by decide) (by decide) fun T28 h28 v28 X28 q28 => ?_
  obtain ⟨rfl, K28, G28_0, G28_1, G28_2⟩ := q28
  have F29 := F16.keep K28
  have F30 := F17.keep K28 (ninS u3 (ninS u4 (ninS u5 nin0)))
  have F31 := F18.keep K28 (ninS u3 (ninS u4 (ninS u5 nin0)))
  have F32 := F19.keep K28 (ninS u18 (ninS u19 (ninS u20 nin0)))
  have F33 := F20.keep K28 (ninS u3 (ninS u4 (ninS u5 nin0)))
  have F34 := F21.keep K28 (ninS u6 (ninS u7 (ninS u8 nin0)))
  have F35 := F22.keep K28 (ninS u9 (ninS u10 (ninS u11 nin0)))
  have F36 := F23.keep K28 (ninS u12 (ninS u13 (ninS u14 nin0)))
  have F37 := F24.keep K28 (ninS u15 (ninS u16 (ninS u17 nin0)))
  have F38 := F25.trans K28 (allS (Or.inl (List.mem_of_getElem? (i := 0) rfl)) (allS (Or.inl (List.mem_of_getElem? (i := 1) rfl)) (allS (Or.inl (List.mem_of_getElem? (i := 2) rfl)) all0)))
  have Z39 : n0 ≤ h28.size := Nat.le_trans Z26 K28.1
  show Own.Go p e below s n0 _ _ _ (T28.setTop (mkF m 30 _ []))
  refine Own.aloadN X28 d4_30 rfl rfl ?_
  refine Own.getF_ X28 d4_31 (host := "") (Or.inl (Own.wd hw 16 rfl)) Via.refl F31 fun T40 X40 => ?_
  refine Own.alen_ X40 d4_34 F32 ?_
  refine Own.aloadN X40 d4_35 rfl rfl ?_
  refine Own.iloadN X40 d4_36 rfl ?_
  refine Own.callP_ (y := mn_7) (D := "com/example/pliant/pliant/ml/Curvature") (z' := mn_11) (z := mn_11) (a := a) X40 d4_37 (Own.wd hw 48 rfl) (Own.wd hw 49 rfl) (Own.wd hw 27 rfl) rfl (Own.wd hw 50 rfl) (Own.wd hw 8 rfl) (Own.wd hw 51 rfl) (by decide) F29 (rm9 l Z a0 hw a (0 : Int32) pa k_pa h28 n0 Z39 F31 F32 ) (lenOf pd_13 rfl) rfl (argsL := [.int (0 : Int32)]) (rest := [.int (0 : Int32)]) rfl (W := 1) (Nat.le_of_eq rfl) (by decide) (by decide) (by decide) (by decide) fun T41 h41 v41 X41 q41 => ?_
  obtain ⟨rfl, rfl⟩ := q41
  show Own.Go p e below s n0 _ _ _ (T41.setTop (mkF m 40 _ [.int (0 : Int32), .int (0 : Int32)]))
  refine Own.iff_ X41 (pc' := 47) d4_40 (by decide) (fun _ => ?_) (fun q => absurd (show (0 : Int) = (0 : Int) from by decide) q)
  refine Own.iconst X41 (v := 1) d4_47 rfl ?_
  refine Own.iadd X41 d4_48 ?_
  show Own.Go p e below s n0 _ _ _ (T41.setTop (mkF m 49 _ [.int (1 : Int32)]))
  refine Own.newP_ X41 (cap := 1) (ty := .int) (dv := .int (0 : Int32)) (ad := "[I") d4_49 rfl rfl (by decide) (Own.wd hw 15 rfl) (by decide) (by decide) (by decide) (by decide) (by decide) fun T42 h42 kp k_kp g_kp X42 E42 V42 A42 => ?_
  have ne43 : a ≠ kp := Nat.ne_of_lt (Nat.lt_of_lt_of_le F29.lt (Nat.le_of_eq g_kp.symm))
  have ne44 : pa ≠ kp := Nat.ne_of_lt (Nat.lt_of_lt_of_le F32.lt (Nat.le_of_eq g_kp.symm))
  have ne45 : gd ≠ kp := Nat.ne_of_lt (Nat.lt_of_lt_of_le F34.lt (Nat.le_of_eq g_kp.symm))
  have ne46 : sp ≠ kp := Nat.ne_of_lt (Nat.lt_of_lt_of_le F35.lt (Nat.le_of_eq g_kp.symm))
  have ne47 : cp ≠ kp := Nat.ne_of_lt (Nat.lt_of_lt_of_le F36.lt (Nat.le_of_eq g_kp.symm))
  have ne48 : gp ≠ kp := Nat.ne_of_lt (Nat.lt_of_lt_of_le F37.lt (Nat.le_of_eq g_kp.symm))
  have ne49 : r0 ≠ kp := Nat.ne_of_lt (Nat.lt_of_lt_of_le G28_0.lt (Nat.le_of_eq g_kp.symm))
  have ne50 : r1 ≠ kp := Nat.ne_of_lt (Nat.lt_of_lt_of_le G28_1.lt (Nat.le_of_eq g_kp.symm))
  have ne51 : r2 ≠ kp := Nat.ne_of_lt (Nat.lt_of_lt_of_le G28_2.lt (Nat.le_of_eq g_kp.symm))
  have fr52 : n0 ≤ kp := Nat.le_trans Z39 (Nat.le_of_eq g_kp.symm)
  have bn53 : h0.size ≤ kp := Nat.le_trans F38.1 (Nat.le_of_eq g_kp.symm)
  have F54 := F29.ext E42
  have F55 := F30.ext E42
  have F56 := F31.ext E42
  have F57 := F32.ext E42
  have F58 := F33.ext E42
  have F59 := F34.ext E42
  have F60 := F35.ext E42
  have F61 := F36.ext E42
  have F62 := F37.ext E42
  have F63 := F38.ext E42
  have F64 := G28_0.ext E42
  have F65 := G28_1.ext E42
  have F66 := G28_2.ext E42
  have Z67 : n0 ≤ h42.size := Nat.le_trans Z39 E42.1
  have V68 : Arv Z h42 kp k_kp .int (1 : Int32) [.int (0 : Int32)] (.int (0 : Int32)) := V42.pad (pad_rep [] (.int (0 : Int32)) 1)
  refine Own.astore X42 d4_51 rfl (l' := #[.val (.ref a), .val (.int (0 : Int32)), .val (.ref sp), .val (.ref cp), .val (.ref gp), .val (.ref kp), .unset, .unset, .unset, .unset, .unset]) rfl ?_
  refine Own.iconst X42 (v := 0) d4_53 rfl ?_
  refine Own.istore X42 d4_54 (l' := #[.val (.ref a), .val (.int (0 : Int32)), .val (.ref sp), .val (.ref cp), .val (.ref gp), .val (.ref kp), .val (.int (0 : Int32)), .unset, .unset, .unset, .unset]) rfl ?_
  refine Own.aloadN X42 d4_56 rfl rfl ?_
  refine Own.getF_ X42 d4_57 (host := "") (Or.inl (Own.wd hw 16 rfl)) Via.refl F56 fun T69 X69 => ?_
  refine Own.astore X69 d4_60 rfl (l' := #[.val (.ref a), .val (.int (0 : Int32)), .val (.ref sp), .val (.ref cp), .val (.ref gp), .val (.ref kp), .val (.int (0 : Int32)), .val (.ref pa), .unset, .unset, .unset]) rfl ?_
  refine Own.aload X69 d4_62 rfl rfl ?_
  refine Own.alen_ X69 d4_64 F57 ?_
  refine Own.istore X69 d4_65 (l' := #[.val (.ref a), .val (.int (0 : Int32)), .val (.ref sp), .val (.ref cp), .val (.ref gp), .val (.ref kp), .val (.int (0 : Int32)), .val (.ref pa), .val (.int (0 : Int32)), .unset, .unset]) rfl ?_
  refine Own.iconst X69 (v := 0) d4_67 rfl ?_
  refine Own.istore X69 d4_68 (l' := #[.val (.ref a), .val (.int (0 : Int32)), .val (.ref sp), .val (.ref cp), .val (.ref gp), .val (.ref kp), .val (.int (0 : Int32)), .val (.ref pa), .val (.int (0 : Int32)), .val (.int (0 : Int32)), .unset]) rfl ?_
  refine Own.iload X69 d4_70 rfl ?_
  refine Own.iload X69 d4_72 rfl ?_
  refine Own.icmp_ X69 (pc' := 106) d4_74 (by decide) (fun _ => ?_) (fun q => absurd (show (0 : Int) ≤ (0 : Int) from by decide) q)
  refine Own.aload X69 d4_106 rfl rfl ?_
  refine Own.iload X69 d4_108 rfl ?_
  refine Own.iloadN X69 d4_110 rfl ?_
  refine Own.iastore_ X69 (i := 0) d4_111 V68 (by decide) rfl (Nat.le_of_ble_eq_true rfl) fr52 fun T70 h70 X70 W70 V70 => ?_
  have F71 := F54.wr W70
  have F72 := F55.other W70 (Or.inl ne43)
  have F73 := F56.other W70 (Or.inl ne43)
  have F74 := F57.other W70 ne44
  have F75 := F58.other W70 (Or.inl ne43)
  have F76 := F59.other W70 ne45
  have F77 := F60.other W70 ne46
  have F78 := F61.other W70 ne47
  have F79 := F62.other W70 ne48
  have F80 := F63.wr W70 (Or.inr bn53)
  have F81 := F64.other W70 ne49
  have F82 := F65.other W70 ne50
  have F83 := F66.other W70 ne51
  have F84 := A42.wr W70
  have Z85 : n0 ≤ h70.size := by rw [W70.size]; exact Z67
  have V86 : Arv Z h70 kp k_kp .int (1 : Int32) [.int (0 : Int32)] (.int (0 : Int32)) := V70
  refine Own.aloadN X70 d4_112 rfl rfl ?_
  refine Own.aload X70 d4_113 rfl rfl ?_
  refine Own.putF_ X70 d4_115 (host := "") (Or.inl (Own.wd hw 16 rfl)) Via.refl F73 F71 (Or.inl (Own.wd hw 17 rfl)) (Own.wd hw 7 rfl) (ty := (.array .int)) (by decide) rfl rfl w3 fun T87 h87 X87 W87 => ?_
  have F88 := F71.wr W87
  have F89 := F72.other W87 (Or.inr (slot_ne (Or.inr (Own.wd hw 19 rfl)) (Or.inl (Own.wd hw 17 rfl)) (by decide) (t := .int) (t' := (.array .int)) (by decide) (by decide)))
  have F90 := F74.other W87 (Ne.symm u25)
  have F91 := F75.other W87 (Or.inr (slot_ne (Or.inr (Own.wd hw 23 rfl)) (Or.inl (Own.wd hw 17 rfl)) (by decide) (t := (.array (.array .double))) (t' := (.array .int)) (by decide) (by decide)))
  have F92 := F76.other W87 (Ne.symm u21)
  have F93 := F77.other W87 (Ne.symm u22)
  have F94 := F78.other W87 (Ne.symm u23)
  have F95 := F79.other W87 (Ne.symm u24)
  have F96 := F80.wr W87 (Or.inl (List.mem_of_getElem? (i := 3) rfl))
  have F97 := F81.other W87 (Ne.symm u3)
  have F98 := F82.other W87 (Ne.symm u4)
  have F99 := F83.other W87 (Ne.symm u5)
  have F100 := F84.wr W87
  have F101 := V86.other W87 (Ne.symm ne43)
  have F102 : Fld Z h87 a "com/example/pliant/pliant/ml/Curvature" "pairs" "[I" (.ref kp) := Fld.same W87 F73
  have Z103 : n0 ≤ h87.size := by rw [W87.size]; exact Z85
  exact Own.retV X87 d4_118 ⟨rfl, F96, F91, F92, F97, F98, F99⟩ (by decide) (by decide)
theorem ef_10 (m : MethodId) (x0 : Addr) (x1 : Addr) (x2 : Int32) : entryFrame m #[.ref x0, .ref x1, .int x2] 6 = mkF m 0 #[.val (.ref x0), .val (.ref x1), .val (.int x2), .unset, .unset, .unset] [] := by first | (simp [entryFrame, mkF, argsToLocals, Value.category, maxLocals]; done) | rfl
set_option maxRecDepth 65536 in
set_option maxHeartbeats 40000000 in
theorem rm10 (l : Launch) (Z : State) (a0 : Array Value) (hw : ∀ d ∈ tables_1, d.before a0 Z = true) (a : Addr) (ac : Addr) (sl : Int32) (ln : Int32) (k_ac : ClassId) (gd : Addr) (r0 : Addr) (r1 : Addr) (r2 : Addr) (k_gd : ClassId) (c_gd : ClassId) (x00 : UInt64) (x01 : UInt64) (x02 : UInt64) (x10 : UInt64) (x11 : UInt64) (x12 : UInt64) (x20 : UInt64) (x21 : UInt64) (x22 : UInt64) (q0 : UInt64) (q1 : UInt64) (q2 : UInt64) (h0 : Heap) (n0 : Nat) (Z0 : n0 ≤ h0.size) (f0 : Arv Z h0 ac k_ac .double ln [.double q0, .double q1, .double q2] (.double 0)) (f1 : Fld Z h0 a "com/example/pliant/pliant/ml/Curvature" "dots" "[[D" (.ref gd)) (f2 : Arv Z h0 gd k_gd (.array .double) (3 : Int32) [.ref r0, .ref r1, .ref r2] (.null)) (f3 : Arv Z h0 r0 c_gd .double (3 : Int32) [.double x00, .double x01, .double x02] (.double 0)) (f4 : Arv Z h0 r1 c_gd .double (3 : Int32) [.double x10, .double x11, .double x12] (.double 0)) (f5 : Arv Z h0 r2 c_gd .double (3 : Int32) [.double x20, .double x21, .double x22] (.double 0)) (hl : 0 ≤ ln.toInt ∧ ln.toInt ≤ 3) (hs : 0 ≤ sl.toInt ∧ sl.toInt < 3) (B_x00 : Own.Bd x00 128) (B_x01 : Own.Bd x01 128) (B_x02 : Own.Bd x02 128) (B_x10 : Own.Bd x10 128) (B_x11 : Own.Bd x11 128) (B_x12 : Own.Bd x12 128) (B_x20 : Own.Bd x20 128) (B_x21 : Own.Bd x21 128) (B_x22 : Own.Bd x22 128) (B_q0 : Own.Bd q0 128) (B_q1 : Own.Bd q1 128) (B_q2 : Own.Bd q2 128) :
    Own.Con l Z mn_14 [] prog_94_method_13_code 6 (some .double) ({ frames := 0, cells := 0, slots := 0, locals := 0 } : Room) #[.ref a, .ref ac, .int sl] h0 n0 (fun v h => v = some (.double (own_dot ln sl q0 q1 q2 x00 x01 x02 x10 x11 x12 x20 x21 x22)) ∧ h0 = h) := by
  refine Own.enter (own := "com/example/pliant/pliant/ml/Curvature") (nm := "dot") (plainFor_of_name pn_com_example_pliant_pliant_ml_Curvature) rfl rfl (fun m => ef_10 m a ac sl) fun p e s m below meth c T X => ?_
  refine Own.dconst0 X d10_0 ?_
  refine Own.dstoreN X d10_1 (l' := #[.val (.ref a), .val (.ref ac), .val (.int sl), .val (.double 0), .second, .unset]) rfl ?_
  refine Own.iconst X (v := 0) d10_2 rfl ?_
  refine Own.istore X d10_3 (l' := #[.val (.ref a), .val (.ref ac), .val (.int sl), .val (.double 0), .second, .val (.int (0 : Int32))]) rfl ?_
  refine Own.iload X d10_5 rfl ?_
  refine Own.aloadN X d10_7 rfl rfl ?_
  refine Own.alen_ X d10_8 f0 ?_
  refine Own.icmp_ X (pc' := 35) d10_9 (by decide) (fun (hb0 : ln.toInt ≤ (0 : Int)) => ?_) (fun (hb0 : ¬ (ln.toInt ≤ (0 : Int))) => ?_)
  · refine Own.dloadN X d10_35 rfl ?_
    exact Own.retD X d10_36 ⟨congrArg (fun z => some (Value.double z)) (by unfold own_dot; rw [if_pos (by omega)]), rfl⟩ (by decide) (by decide)
  · refine Own.dloadN X d10_12 rfl ?_
    refine Own.aloadN X d10_13 rfl rfl ?_
    refine Own.iload X d10_14 rfl ?_
    refine Own.daload_ X d10_16 f0 (own_lt 0 hb0 (by decide)) rfl ?_
    refine Own.aloadN X d10_17 rfl rfl ?_
    refine Own.getF_ X d10_18 (host := "") (Or.inl (Own.wd hw 22 rfl)) Via.refl f1 fun T1 X1 => ?_
    refine Own.iload X1 d10_21 rfl ?_
    refine Own.aaload_ X1 d10_23 f2 rfl (by decide) rfl ?_
    refine Own.iloadN X1 d10_24 rfl ?_
    obtain ⟨v0, e_v0⟩ : ∃ v, own_at sl x00 x01 x02 = v := ⟨_, rfl⟩
    have B_v0 : Own.Bd v0 128 := e_v0 ▸ own_at_bd sl B_x00 B_x01 B_x02
    refine Own.daload_ X1 d10_25 f3 ⟨by rw [Int32.lt_iff_toInt_lt]; exact Int.not_lt.mpr hs.1, by rw [Int32.lt_iff_toInt_lt]; exact hs.2⟩ (e_v0 ▸ own_at_get sl x00 x01 x02 hs) ?_
    obtain ⟨m0, e_m0⟩ : ∃ v, FP.dmul q0 v0 = v := ⟨_, rfl⟩
    have B_m0 := Own.Bd.mul e_m0 B_q0 B_v0 (by decide)
    have n_m0 := B_m0.1.noNaN
    refine Own.dmul X1 d10_26 e_m0 n_m0 ?_
    obtain ⟨t0, e_t0⟩ : ∃ v, FP.dadd 0 m0 = v := ⟨_, rfl⟩
    have B_t0 := Own.Bd.add e_t0 Own.Bd.zero B_m0 (by decide)
    have n_t0 := B_t0.1.noNaN
    refine Own.dadd X1 d10_27 e_t0 n_t0 ?_
    refine Own.dstoreN X1 d10_28 (l' := #[.val (.ref a), .val (.ref ac), .val (.int sl), .val (.double t0), .second, .val (.int (0 : Int32))]) rfl ?_
    refine Own.iinc X1 d10_29 rfl (l' := #[.val (.ref a), .val (.ref ac), .val (.int sl), .val (.double t0), .second, .val (.int (1 : Int32))]) rfl ?_
    refine Own.goto_ X1 (pc' := 5) d10_32 (by decide) ?_
    refine Own.iload X1 d10_5 rfl ?_
    refine Own.aloadN X1 d10_7 rfl rfl ?_
    refine Own.alen_ X1 d10_8 f0 ?_
    refine Own.icmp_ X1 (pc' := 35) d10_9 (by decide) (fun (hb1 : ln.toInt ≤ (1 : Int)) => ?_) (fun (hb1 : ¬ (ln.toInt ≤ (1 : Int))) => ?_)
    · refine Own.dloadN X1 d10_35 rfl ?_
      exact Own.retD X1 d10_36 ⟨congrArg (fun z => some (Value.double z)) (by unfold own_dot; rw [if_neg (by omega), if_pos (by omega), e_v0, e_m0, e_t0]), rfl⟩ (by decide) (by decide)
    · refine Own.dloadN X1 d10_12 rfl ?_
      refine Own.aloadN X1 d10_13 rfl rfl ?_
      refine Own.iload X1 d10_14 rfl ?_
      refine Own.daload_ X1 d10_16 f0 (own_lt 1 hb1 (by decide)) rfl ?_
      refine Own.aloadN X1 d10_17 rfl rfl ?_
      refine Own.getF_ X1 d10_18 (host := "") (Or.inl (Own.wd hw 22 rfl)) Via.refl f1 fun T2 X2 => ?_
      refine Own.iload X2 d10_21 rfl ?_
      refine Own.aaload_ X2 d10_23 f2 rfl (by decide) rfl ?_
      refine Own.iloadN X2 d10_24 rfl ?_
      obtain ⟨v1, e_v1⟩ : ∃ v, own_at sl x10 x11 x12 = v := ⟨_, rfl⟩
      have B_v1 : Own.Bd v1 128 := e_v1 ▸ own_at_bd sl B_x10 B_x11 B_x12
      refine Own.daload_ X2 d10_25 f4 ⟨by rw [Int32.lt_iff_toInt_lt]; exact Int.not_lt.mpr hs.1, by rw [Int32.lt_iff_toInt_lt]; exact hs.2⟩ (e_v1 ▸ own_at_get sl x10 x11 x12 hs) ?_
      obtain ⟨m1, e_m1⟩ : ∃ v, FP.dmul q1 v1 = v := ⟨_, rfl⟩
      have B_m1 := Own.Bd.mul e_m1 B_q1 B_v1 (by decide)
      have n_m1 := B_m1.1.noNaN
      refine Own.dmul X2 d10_26 e_m1 n_m1 ?_
      obtain ⟨t1, e_t1⟩ : ∃ v, FP.dadd t0 m1 = v := ⟨_, rfl⟩
      have B_t1 := Own.Bd.add e_t1 B_t0 B_m1 (by decide)
      have n_t1 := B_t1.1.noNaN
      refine Own.dadd X2 d10_27 e_t1 n_t1 ?_
      refine Own.dstoreN X2 d10_28 (l' := #[.val (.ref a), .val (.ref ac), .val (.int sl), .val (.double t1), .second, .val (.int (1 : Int32))]) rfl ?_
      refine Own.iinc X2 d10_29 rfl (l' := #[.val (.ref a), .val (.ref ac), .val (.int sl), .val (.double t1), .second, .val (.int (2 : Int32))]) rfl ?_
      refine Own.goto_ X2 (pc' := 5) d10_32 (by decide) ?_
      refine Own.iload X2 d10_5 rfl ?_
      refine Own.aloadN X2 d10_7 rfl rfl ?_
      refine Own.alen_ X2 d10_8 f0 ?_
      refine Own.icmp_ X2 (pc' := 35) d10_9 (by decide) (fun (hb2 : ln.toInt ≤ (2 : Int)) => ?_) (fun (hb2 : ¬ (ln.toInt ≤ (2 : Int))) => ?_)
      · refine Own.dloadN X2 d10_35 rfl ?_
        exact Own.retD X2 d10_36 ⟨congrArg (fun z => some (Value.double z)) (by unfold own_dot; rw [if_neg (by omega), if_neg (by omega), if_pos (by omega), e_v0, e_m0, e_t0, e_v1, e_m1, e_t1]), rfl⟩ (by decide) (by decide)
      · refine Own.dloadN X2 d10_12 rfl ?_
        refine Own.aloadN X2 d10_13 rfl rfl ?_
        refine Own.iload X2 d10_14 rfl ?_
        refine Own.daload_ X2 d10_16 f0 (own_lt 2 hb2 (by decide)) rfl ?_
        refine Own.aloadN X2 d10_17 rfl rfl ?_
        refine Own.getF_ X2 d10_18 (host := "") (Or.inl (Own.wd hw 22 rfl)) Via.refl f1 fun T3 X3 => ?_
        refine Own.iload X3 d10_21 rfl ?_
        refine Own.aaload_ X3 d10_23 f2 rfl (by decide) rfl ?_
        refine Own.iloadN X3 d10_24 rfl ?_
        obtain ⟨v2, e_v2⟩ : ∃ v, own_at sl x20 x21 x22 = v := ⟨_, rfl⟩
        have B_v2 : Own.Bd v2 128 := e_v2 ▸ own_at_bd sl B_x20 B_x21 B_x22
        refine Own.daload_ X3 d10_25 f5 ⟨by rw [Int32.lt_iff_toInt_lt]; exact Int.not_lt.mpr hs.1, by rw [Int32.lt_iff_toInt_lt]; exact hs.2⟩ (e_v2 ▸ own_at_get sl x20 x21 x22 hs) ?_
        obtain ⟨m2, e_m2⟩ : ∃ v, FP.dmul q2 v2 = v := ⟨_, rfl⟩
        have B_m2 := Own.Bd.mul e_m2 B_q2 B_v2 (by decide)
        have n_m2 := B_m2.1.noNaN
        refine Own.dmul X3 d10_26 e_m2 n_m2 ?_
        obtain ⟨t2, e_t2⟩ : ∃ v, FP.dadd t1 m2 = v := ⟨_, rfl⟩
        have B_t2 := Own.Bd.add e_t2 B_t1 B_m2 (by decide)
        have n_t2 := B_t2.1.noNaN
        refine Own.dadd X3 d10_27 e_t2 n_t2 ?_
        refine Own.dstoreN X3 d10_28 (l' := #[.val (.ref a), .val (.ref ac), .val (.int sl), .val (.double t2), .second, .val (.int (2 : Int32))]) rfl ?_
        refine Own.iinc X3 d10_29 rfl (l' := #[.val (.ref a), .val (.ref ac), .val (.int sl), .val (.double t2), .second, .val (.int (3 : Int32))]) rfl ?_
        refine Own.goto_ X3 (pc' := 5) d10_32 (by decide) ?_
        refine Own.iload X3 d10_5 rfl ?_
        refine Own.aloadN X3 d10_7 rfl rfl ?_
        refine Own.alen_ X3 d10_8 f0 ?_
        refine Own.icmp_ X3 (pc' := 35) d10_9 (by decide) (fun _ => ?_) (fun q => absurd (show ln.toInt ≤ (3 : Int) from (by omega)) q)
        refine Own.dloadN X3 d10_35 rfl ?_
        exact Own.retD X3 d10_36 ⟨congrArg (fun z => some (Value.double z)) (by unfold own_dot; rw [if_neg (by omega), if_neg (by omega), if_neg (by omega), e_v0, e_m0, e_t0, e_v1, e_m1, e_t1, e_v2, e_m2, e_t2]), rfl⟩ (by decide) (by decide)
theorem ef_11 (m : MethodId) (x0 : Int32) (x1 : Int32) (x2 : UInt64) (x3 : UInt64) (x4 : UInt64) (x5 : UInt64) (x6 : UInt64) (x7 : UInt64) : entryFrame m #[.int x0, .int x1, .double x2, .double x3, .double x4, .double x5, .double x6, .double x7] 16 = mkF m 0 #[.val (.int x0), .val (.int x1), .val (.double x2), .second, .val (.double x3), .second, .val (.double x4), .second, .val (.double x5), .second, .val (.double x6), .second, .val (.double x7), .second, .unset, .unset] [] := by first | (simp [entryFrame, mkF, argsToLocals, Value.category, maxLocals]; done) | rfl
set_option maxRecDepth 65536 in
set_option maxHeartbeats 40000000 in
theorem rm11 (l : Launch) (Z : State) (a0 : Array Value) (hw : ∀ d ∈ tables_1, d.before a0 Z = true) (x : Int32) (y : Int32) (s0 : UInt64) (c0 : UInt64) (c1 : UInt64) (g0 : UInt64) (g1 : UInt64) (g2 : UInt64)   (h0 : Heap) (n0 : Nat) (Z0 : n0 ≤ h0.size)  (hx : x.toInt = 0 ∨ x.toInt = 1 ∨ x.toInt = 2) (hy : y.toInt = 0 ∨ y.toInt = 1 ∨ y.toInt = 2) :
    Own.Con l Z mn_16 [] method_3_code 16 (some .double) ({ frames := 1, cells := 0, slots := 0, locals := 13 } : Room) #[.int x, .int y, .double s0, .double c0, .double c1, .double g0, .double g1, .double g2] h0 n0 (fun v h => v = some (.double (own_ent x y s0 c0 c1 g0 g1 g2)) ∧ h0 = h) := by
  refine Own.enter (own := "com/example/pliant/pliant/ml/CurvatureDotPinLaw") (nm := "entry") (plainFor_of_name pn_com_example_pliant_pliant_ml_CurvatureDotPinLaw) rfl rfl (fun m => ef_11 m x y s0 c0 c1 g0 g1 g2) fun p e s m below meth c T X => ?_
  refine Own.iloadN X d11_0 rfl ?_
  refine Own.iloadN X d11_1 rfl ?_
  refine Own.callS_ (y := mn_0) X d11_2 (Own.wd hw 60 rfl) (Own.wd hw 61 rfl) (Own.wd hw 62 rfl) (Own.wd hw 63 rfl) (by decide) (rm12 l Z a0 hw x y h0 n0 Z0 ) (lenOf pd_15 rfl) rfl (argsL := [.int x, .int y]) (rest := []) rfl (W := 0) (Nat.le_of_eq rfl) (by decide) (by decide) (by decide) (by decide) fun T1 h1 v1 X1 q1 => ?_
  obtain ⟨rfl, rfl⟩ := q1
  obtain ⟨lo, e_lo⟩ : ∃ v, (if y.toInt < x.toInt then y else x) = v := ⟨_, rfl⟩
  rw [e_lo]
  have h_lo := Own.ite_I e_lo
  show Own.Go p e below s n0 _ _ _ (T1.setTop (mkF m 5 _ [.int lo]))
  refine Own.istore X1 d11_5 (l' := #[.val (.int x), .val (.int y), .val (.double s0), .second, .val (.double c0), .second, .val (.double c1), .second, .val (.double g0), .second, .val (.double g1), .second, .val (.double g2), .second, .val (.int lo), .unset]) rfl ?_
  refine Own.iloadN X1 d11_7 rfl ?_
  refine Own.iloadN X1 d11_8 rfl ?_
  refine Own.callS_ (y := mn_1) X1 d11_9 (Own.wd hw 64 rfl) (Own.wd hw 65 rfl) (Own.wd hw 62 rfl) (Own.wd hw 66 rfl) (by decide) (rm13 l Z a0 hw x y h0 n0 Z0 ) (lenOf pd_15 rfl) rfl (argsL := [.int x, .int y]) (rest := []) rfl (W := 0) (Nat.le_of_eq rfl) (by decide) (by decide) (by decide) (by decide) fun T2 h2 v2 X2 q2 => ?_
  obtain ⟨rfl, rfl⟩ := q2
  obtain ⟨hi, e_hi⟩ : ∃ v, (if x.toInt < y.toInt then y else x) = v := ⟨_, rfl⟩
  rw [e_hi]
  have h_hi := Own.ite_I e_hi
  show Own.Go p e below s n0 _ _ _ (T2.setTop (mkF m 12 _ [.int hi]))
  refine Own.istore X2 d11_12 (l' := #[.val (.int x), .val (.int y), .val (.double s0), .second, .val (.double c0), .second, .val (.double c1), .second, .val (.double g0), .second, .val (.double g1), .second, .val (.double g2), .second, .val (.int lo), .val (.int hi)]) rfl ?_
  refine Own.iload X2 d11_14 rfl ?_
  refine Own.iff_ X2 (pc' := 38) d11_16 (by decide) (fun (h16 : ¬ (lo.toInt = (0 : Int))) => ?_) (fun h16' => ?_)
  · refine Own.iload X2 d11_38 rfl ?_
    refine Own.iconst X2 (v := 1) d11_40 rfl ?_
    refine Own.icmp_ X2 (pc' := 56) d11_41 (by decide) (fun (h41 : ¬ (lo.toInt = (1 : Int))) => ?_) (fun h41' => ?_)
    · refine Own.dload X2 d11_56 rfl ?_
      exact Own.retD X2 d11_58 ⟨congrArg (fun z => some (Value.double z)) (by rcases hx with hx | hx | hx <;> rcases hy with hy | hy | hy <;> first | (simp [own_ent, own_at, hx, hy]; done) | (exfalso; omega)), rfl⟩ (by decide) (by decide)
    · have h41 : lo.toInt = (1 : Int) := Classical.not_not.mp h41'
      refine Own.iload X2 d11_44 rfl ?_
      refine Own.iconst X2 (v := 1) d11_46 rfl ?_
      refine Own.icmp_ X2 (pc' := 53) d11_47 (by decide) (fun (h47 : ¬ (hi.toInt = (1 : Int))) => ?_) (fun h47' => ?_)
      · refine Own.dload X2 d11_53 rfl ?_
        exact Own.retD X2 d11_55 ⟨congrArg (fun z => some (Value.double z)) (by rcases hx with hx | hx | hx <;> rcases hy with hy | hy | hy <;> first | (simp [own_ent, own_at, hx, hy]; done) | (exfalso; omega)), rfl⟩ (by decide) (by decide)
      · have h47 : hi.toInt = (1 : Int) := Classical.not_not.mp h47'
        refine Own.dload X2 d11_50 rfl ?_
        exact Own.retD X2 d11_52 ⟨congrArg (fun z => some (Value.double z)) (by rcases hx with hx | hx | hx <;> rcases hy with hy | hy | hy <;> first | (simp [own_ent, own_at, hx, hy]; done) | (exfalso; omega)), rfl⟩ (by decide) (by decide)
  · have h16 : lo.toInt = (0 : Int) := Classical.not_not.mp h16'
    refine Own.iload X2 d11_19 rfl ?_
    refine Own.iff_ X2 (pc' := 26) d11_21 (by decide) (fun (h21 : ¬ (hi.toInt = (0 : Int))) => ?_) (fun h21' => ?_)
    · refine Own.iload X2 d11_26 rfl ?_
      refine Own.iconst X2 (v := 1) d11_28 rfl ?_
      refine Own.icmp_ X2 (pc' := 35) d11_29 (by decide) (fun (h29 : ¬ (hi.toInt = (1 : Int))) => ?_) (fun h29' => ?_)
      · refine Own.dload X2 d11_35 rfl ?_
        exact Own.retD X2 d11_37 ⟨congrArg (fun z => some (Value.double z)) (by rcases hx with hx | hx | hx <;> rcases hy with hy | hy | hy <;> first | (simp [own_ent, own_at, hx, hy]; done) | (exfalso; omega)), rfl⟩ (by decide) (by decide)
      · have h29 : hi.toInt = (1 : Int) := Classical.not_not.mp h29'
        refine Own.dload X2 d11_32 rfl ?_
        exact Own.retD X2 d11_34 ⟨congrArg (fun z => some (Value.double z)) (by rcases hx with hx | hx | hx <;> rcases hy with hy | hy | hy <;> first | (simp [own_ent, own_at, hx, hy]; done) | (exfalso; omega)), rfl⟩ (by decide) (by decide)
    · have h21 : hi.toInt = (0 : Int) := Classical.not_not.mp h21'
      refine Own.dloadN X2 d11_24 rfl ?_
      exact Own.retD X2 d11_25 ⟨congrArg (fun z => some (Value.double z)) (by rcases hx with hx | hx | hx <;> rcases hy with hy | hy | hy <;> first | (simp [own_ent, own_at, hx, hy]; done) | (exfalso; omega)), rfl⟩ (by decide) (by decide)
theorem ef_0 (m : MethodId) (x0 : Int32) (x1 : Int32) (x2 : Int32) (x3 : Int32) : entryFrame m #[.int x0, .int x1, .int x2, .int x3] maxLocals = mkF m 0 #[.val (.int x0), .val (.int x1), .val (.int x2), .val (.int x3), .unset, .unset, .unset, .unset, .unset, .unset, .unset, .unset, .unset, .unset, .unset, .unset, .unset, .unset, .unset, .unset, .unset, .unset, .unset, .unset, .unset, .unset, .unset, .unset, .unset, .unset, .unset, .unset, .unset] [] := by first | (simp [entryFrame, mkF, argsToLocals, Value.category, maxLocals]; done) | rfl
set_option maxRecDepth 65536 in
set_option maxHeartbeats 40000000 in
theorem rm0 (l : Launch) (Z : State) (a0 : Array Value) (hw : ∀ d ∈ tables_1, d.before a0 Z = true) (i0 i1 i2 i3 : Int32) (h0 : Heap) (n0 : Nat) (Z0 : n0 ≤ h0.size)  :
    Own.Con l Z x tables_1 code maxLocals ret room_1 #[.int i0, .int i1, .int i2, .int i3] h0 n0 (fun v _ => v = some (.int 1)) := by
  refine Own.enter (own := "com/example/pliant/pliant/ml/CurvatureDotPinLaw") (nm := "law") (plainFor_of_name pn_com_example_pliant_pliant_ml_CurvatureDotPinLaw) rfl rfl (fun m => ef_0 m i0 i1 i2 i3) fun p e s m below meth c T X => ?_
  refine Own.iloadN X at_0 rfl ?_
  refine Own.iconst X (v := 0) at_1 rfl ?_
  refine Own.callS_ (y := mn_2) X at_2 (Own.wd hw 0 rfl) (Own.wd hw 1 rfl) (Own.wd hw 2 rfl) (Own.wd hw 3 rfl) (by decide) (rm1 l Z a0 hw i0 (0 : Int32) h0 n0 Z0 ) (lenOf pd_17 rfl) rfl (argsL := [.int i0, .int (0 : Int32)]) (rest := []) rfl (W := 0) (Nat.le_of_eq rfl) (by decide) (by decide) (by decide) (by decide) fun T1 h1 v1 X1 q1 => ?_
  obtain ⟨rfl, rfl⟩ := q1
  obtain ⟨s0, e_s0⟩ : ∃ v, (FP.i2d (((Jvm.Free.XT.ushr i0 ((8 : Int32) * (0 : Int32))) &&& (255 : Int32)) - (128 : Int32))) = v := ⟨_, rfl⟩
  rw [e_s0]
  have B_s0 := own_v e_s0
  have f_s0 := B_s0.1
  have n_s0 := f_s0.noNaN
  show Own.Go p e below s n0 _ _ _ (T1.setTop (mkF m 5 _ [.double s0]))
  refine Own.dstore X1 at_5 (l' := #[.val (.int i0), .val (.int i1), .val (.int i2), .val (.int i3), .val (.double s0), .second, .unset, .unset, .unset, .unset, .unset, .unset, .unset, .unset, .unset, .unset, .unset, .unset, .unset, .unset, .unset, .unset, .unset, .unset, .unset, .unset, .unset, .unset, .unset, .unset, .unset, .unset, .unset]) rfl ?_
  refine Own.iloadN X1 at_7 rfl ?_
  refine Own.iconst X1 (v := 1) at_8 rfl ?_
  refine Own.callS_ (y := mn_2) X1 at_9 (Own.wd hw 0 rfl) (Own.wd hw 1 rfl) (Own.wd hw 2 rfl) (Own.wd hw 3 rfl) (by decide) (rm1 l Z a0 hw i0 (1 : Int32) h0 n0 Z0 ) (lenOf pd_17 rfl) rfl (argsL := [.int i0, .int (1 : Int32)]) (rest := []) rfl (W := 0) (Nat.le_of_eq rfl) (by decide) (by decide) (by decide) (by decide) fun T2 h2 v2 X2 q2 => ?_
  obtain ⟨rfl, rfl⟩ := q2
  obtain ⟨c0, e_c0⟩ : ∃ v, (FP.i2d (((Jvm.Free.XT.ushr i0 ((8 : Int32) * (1 : Int32))) &&& (255 : Int32)) - (128 : Int32))) = v := ⟨_, rfl⟩
  rw [e_c0]
  have B_c0 := own_v e_c0
  have f_c0 := B_c0.1
  have n_c0 := f_c0.noNaN
  show Own.Go p e below s n0 _ _ _ (T2.setTop (mkF m 12 _ [.double c0]))
  refine Own.dstore X2 at_12 (l' := #[.val (.int i0), .val (.int i1), .val (.int i2), .val (.int i3), .val (.double s0), .second, .val (.double c0), .second, .unset, .unset, .unset, .unset, .unset, .unset, .unset, .unset, .unset, .unset, .unset, .unset, .unset, .unset, .unset, .unset, .unset, .unset, .unset, .unset, .unset, .unset, .unset, .unset, .unset]) rfl ?_
  refine Own.iloadN X2 at_14 rfl ?_
  refine Own.iconst X2 (v := 2) at_15 rfl ?_
  refine Own.callS_ (y := mn_2) X2 at_16 (Own.wd hw 0 rfl) (Own.wd hw 1 rfl) (Own.wd hw 2 rfl) (Own.wd hw 3 rfl) (by decide) (rm1 l Z a0 hw i0 (2 : Int32) h0 n0 Z0 ) (lenOf pd_17 rfl) rfl (argsL := [.int i0, .int (2 : Int32)]) (rest := []) rfl (W := 0) (Nat.le_of_eq rfl) (by decide) (by decide) (by decide) (by decide) fun T3 h3 v3 X3 q3 => ?_
  obtain ⟨rfl, rfl⟩ := q3
  obtain ⟨c1, e_c1⟩ : ∃ v, (FP.i2d (((Jvm.Free.XT.ushr i0 ((8 : Int32) * (2 : Int32))) &&& (255 : Int32)) - (128 : Int32))) = v := ⟨_, rfl⟩
  rw [e_c1]
  have B_c1 := own_v e_c1
  have f_c1 := B_c1.1
  have n_c1 := f_c1.noNaN
  show Own.Go p e below s n0 _ _ _ (T3.setTop (mkF m 19 _ [.double c1]))
  refine Own.dstore X3 at_19 (l' := #[.val (.int i0), .val (.int i1), .val (.int i2), .val (.int i3), .val (.double s0), .second, .val (.double c0), .second, .val (.double c1), .second, .unset, .unset, .unset, .unset, .unset, .unset, .unset, .unset, .unset, .unset, .unset, .unset, .unset, .unset, .unset, .unset, .unset, .unset, .unset, .unset, .unset, .unset, .unset]) rfl ?_
  refine Own.iloadN X3 at_21 rfl ?_
  refine Own.iconst X3 (v := 3) at_22 rfl ?_
  refine Own.callS_ (y := mn_2) X3 at_23 (Own.wd hw 0 rfl) (Own.wd hw 1 rfl) (Own.wd hw 2 rfl) (Own.wd hw 3 rfl) (by decide) (rm1 l Z a0 hw i0 (3 : Int32) h0 n0 Z0 ) (lenOf pd_17 rfl) rfl (argsL := [.int i0, .int (3 : Int32)]) (rest := []) rfl (W := 0) (Nat.le_of_eq rfl) (by decide) (by decide) (by decide) (by decide) fun T4 h4 v4 X4 q4 => ?_
  obtain ⟨rfl, rfl⟩ := q4
  obtain ⟨g0, e_g0⟩ : ∃ v, (FP.i2d (((Jvm.Free.XT.ushr i0 ((8 : Int32) * (3 : Int32))) &&& (255 : Int32)) - (128 : Int32))) = v := ⟨_, rfl⟩
  rw [e_g0]
  have B_g0 := own_v e_g0
  have f_g0 := B_g0.1
  have n_g0 := f_g0.noNaN
  show Own.Go p e below s n0 _ _ _ (T4.setTop (mkF m 26 _ [.double g0]))
  refine Own.dstore X4 at_26 (l' := #[.val (.int i0), .val (.int i1), .val (.int i2), .val (.int i3), .val (.double s0), .second, .val (.double c0), .second, .val (.double c1), .second, .val (.double g0), .second, .unset, .unset, .unset, .unset, .unset, .unset, .unset, .unset, .unset, .unset, .unset, .unset, .unset, .unset, .unset, .unset, .unset, .unset, .unset, .unset, .unset]) rfl ?_
  refine Own.iloadN X4 at_28 rfl ?_
  refine Own.iconst X4 (v := 0) at_29 rfl ?_
  refine Own.callS_ (y := mn_2) X4 at_30 (Own.wd hw 0 rfl) (Own.wd hw 1 rfl) (Own.wd hw 2 rfl) (Own.wd hw 3 rfl) (by decide) (rm1 l Z a0 hw i1 (0 : Int32) h0 n0 Z0 ) (lenOf pd_17 rfl) rfl (argsL := [.int i1, .int (0 : Int32)]) (rest := []) rfl (W := 0) (Nat.le_of_eq rfl) (by decide) (by decide) (by decide) (by decide) fun T5 h5 v5 X5 q5 => ?_
  obtain ⟨rfl, rfl⟩ := q5
  obtain ⟨g1, e_g1⟩ : ∃ v, (FP.i2d (((Jvm.Free.XT.ushr i1 ((8 : Int32) * (0 : Int32))) &&& (255 : Int32)) - (128 : Int32))) = v := ⟨_, rfl⟩
  rw [e_g1]
  have B_g1 := own_v e_g1
  have f_g1 := B_g1.1
  have n_g1 := f_g1.noNaN
  show Own.Go p e below s n0 _ _ _ (T5.setTop (mkF m 33 _ [.double g1]))
  refine Own.dstore X5 at_33 (l' := #[.val (.int i0), .val (.int i1), .val (.int i2), .val (.int i3), .val (.double s0), .second, .val (.double c0), .second, .val (.double c1), .second, .val (.double g0), .second, .val (.double g1), .second, .unset, .unset, .unset, .unset, .unset, .unset, .unset, .unset, .unset, .unset, .unset, .unset, .unset, .unset, .unset, .unset, .unset, .unset, .unset]) rfl ?_
  refine Own.iloadN X5 at_35 rfl ?_
  refine Own.iconst X5 (v := 1) at_36 rfl ?_
  refine Own.callS_ (y := mn_2) X5 at_37 (Own.wd hw 0 rfl) (Own.wd hw 1 rfl) (Own.wd hw 2 rfl) (Own.wd hw 3 rfl) (by decide) (rm1 l Z a0 hw i1 (1 : Int32) h0 n0 Z0 ) (lenOf pd_17 rfl) rfl (argsL := [.int i1, .int (1 : Int32)]) (rest := []) rfl (W := 0) (Nat.le_of_eq rfl) (by decide) (by decide) (by decide) (by decide) fun T6 h6 v6 X6 q6 => ?_
  obtain ⟨rfl, rfl⟩ := q6
  obtain ⟨g2, e_g2⟩ : ∃ v, (FP.i2d (((Jvm.Free.XT.ushr i1 ((8 : Int32) * (1 : Int32))) &&& (255 : Int32)) - (128 : Int32))) = v := ⟨_, rfl⟩
  rw [e_g2]
  have B_g2 := own_v e_g2
  have f_g2 := B_g2.1
  have n_g2 := f_g2.noNaN
  show Own.Go p e below s n0 _ _ _ (T6.setTop (mkF m 40 _ [.double g2]))
  refine Own.dstore X6 at_40 (l' := #[.val (.int i0), .val (.int i1), .val (.int i2), .val (.int i3), .val (.double s0), .second, .val (.double c0), .second, .val (.double c1), .second, .val (.double g0), .second, .val (.double g1), .second, .val (.double g2), .second, .unset, .unset, .unset, .unset, .unset, .unset, .unset, .unset, .unset, .unset, .unset, .unset, .unset, .unset, .unset, .unset, .unset]) rfl ?_
  refine Own.iloadN X6 at_42 rfl ?_
  refine Own.iconst X6 (v := 0) at_43 rfl ?_
  refine Own.callS_ (y := mn_2) X6 at_44 (Own.wd hw 0 rfl) (Own.wd hw 1 rfl) (Own.wd hw 2 rfl) (Own.wd hw 3 rfl) (by decide) (rm1 l Z a0 hw i2 (0 : Int32) h0 n0 Z0 ) (lenOf pd_17 rfl) rfl (argsL := [.int i2, .int (0 : Int32)]) (rest := []) rfl (W := 0) (Nat.le_of_eq rfl) (by decide) (by decide) (by decide) (by decide) fun T7 h7 v7 X7 q7 => ?_
  obtain ⟨rfl, rfl⟩ := q7
  obtain ⟨k0, e_k0⟩ : ∃ v, (FP.i2d (((Jvm.Free.XT.ushr i2 ((8 : Int32) * (0 : Int32))) &&& (255 : Int32)) - (128 : Int32))) = v := ⟨_, rfl⟩
  rw [e_k0]
  have B_k0 := own_v e_k0
  have f_k0 := B_k0.1
  have n_k0 := f_k0.noNaN
  show Own.Go p e below s n0 _ _ _ (T7.setTop (mkF m 47 _ [.double k0]))
  refine Own.dstore X7 at_47 (l' := #[.val (.int i0), .val (.int i1), .val (.int i2), .val (.int i3), .val (.double s0), .second, .val (.double c0), .second, .val (.double c1), .second, .val (.double g0), .second, .val (.double g1), .second, .val (.double g2), .second, .val (.double k0), .second, .unset, .unset, .unset, .unset, .unset, .unset, .unset, .unset, .unset, .unset, .unset, .unset, .unset, .unset, .unset]) rfl ?_
  refine Own.iloadN X7 at_49 rfl ?_
  refine Own.iconst X7 (v := 1) at_50 rfl ?_
  refine Own.callS_ (y := mn_2) X7 at_51 (Own.wd hw 0 rfl) (Own.wd hw 1 rfl) (Own.wd hw 2 rfl) (Own.wd hw 3 rfl) (by decide) (rm1 l Z a0 hw i2 (1 : Int32) h0 n0 Z0 ) (lenOf pd_17 rfl) rfl (argsL := [.int i2, .int (1 : Int32)]) (rest := []) rfl (W := 0) (Nat.le_of_eq rfl) (by decide) (by decide) (by decide) (by decide) fun T8 h8 v8 X8 q8 => ?_
  obtain ⟨rfl, rfl⟩ := q8
  obtain ⟨k1, e_k1⟩ : ∃ v, (FP.i2d (((Jvm.Free.XT.ushr i2 ((8 : Int32) * (1 : Int32))) &&& (255 : Int32)) - (128 : Int32))) = v := ⟨_, rfl⟩
  rw [e_k1]
  have B_k1 := own_v e_k1
  have f_k1 := B_k1.1
  have n_k1 := f_k1.noNaN
  show Own.Go p e below s n0 _ _ _ (T8.setTop (mkF m 54 _ [.double k1]))
  refine Own.dstore X8 at_54 (l' := #[.val (.int i0), .val (.int i1), .val (.int i2), .val (.int i3), .val (.double s0), .second, .val (.double c0), .second, .val (.double c1), .second, .val (.double g0), .second, .val (.double g1), .second, .val (.double g2), .second, .val (.double k0), .second, .val (.double k1), .second, .unset, .unset, .unset, .unset, .unset, .unset, .unset, .unset, .unset, .unset, .unset, .unset, .unset]) rfl ?_
  refine Own.iloadN X8 at_56 rfl ?_
  refine Own.iconst X8 (v := 2) at_57 rfl ?_
  refine Own.callS_ (y := mn_2) X8 at_58 (Own.wd hw 0 rfl) (Own.wd hw 1 rfl) (Own.wd hw 2 rfl) (Own.wd hw 3 rfl) (by decide) (rm1 l Z a0 hw i2 (2 : Int32) h0 n0 Z0 ) (lenOf pd_17 rfl) rfl (argsL := [.int i2, .int (2 : Int32)]) (rest := []) rfl (W := 0) (Nat.le_of_eq rfl) (by decide) (by decide) (by decide) (by decide) fun T9 h9 v9 X9 q9 => ?_
  obtain ⟨rfl, rfl⟩ := q9
  obtain ⟨k2, e_k2⟩ : ∃ v, (FP.i2d (((Jvm.Free.XT.ushr i2 ((8 : Int32) * (2 : Int32))) &&& (255 : Int32)) - (128 : Int32))) = v := ⟨_, rfl⟩
  rw [e_k2]
  have B_k2 := own_v e_k2
  have f_k2 := B_k2.1
  have n_k2 := f_k2.noNaN
  show Own.Go p e below s n0 _ _ _ (T9.setTop (mkF m 61 _ [.double k2]))
  refine Own.dstore X9 at_61 (l' := #[.val (.int i0), .val (.int i1), .val (.int i2), .val (.int i3), .val (.double s0), .second, .val (.double c0), .second, .val (.double c1), .second, .val (.double g0), .second, .val (.double g1), .second, .val (.double g2), .second, .val (.double k0), .second, .val (.double k1), .second, .val (.double k2), .second, .unset, .unset, .unset, .unset, .unset, .unset, .unset, .unset, .unset, .unset, .unset]) rfl ?_
  refine Own.iloadN X9 at_63 rfl ?_
  refine Own.ldcI X9 at_64 (Own.wd hw 4 rfl) ?_
  refine Own.iand X9 at_66 ?_
  refine Own.iconst X9 (v := 3) at_67 rfl ?_
  refine Own.irem X9 at_68 (by decide) ?_
  obtain ⟨sl, e_sl⟩ : ∃ v, ((i3 &&& (2147483647 : Int32)) % (3 : Int32)) = v := ⟨_, rfl⟩
  rw [e_sl]
  have h_sl := own_sl i3 sl e_sl
  refine Own.istore X9 at_69 (l' := #[.val (.int i0), .val (.int i1), .val (.int i2), .val (.int i3), .val (.double s0), .second, .val (.double c0), .second, .val (.double c1), .second, .val (.double g0), .second, .val (.double g1), .second, .val (.double g2), .second, .val (.double k0), .second, .val (.double k1), .second, .val (.double k2), .second, .val (.int sl), .unset, .unset, .unset, .unset, .unset, .unset, .unset, .unset, .unset, .unset]) rfl ?_
  refine Own.iloadN X9 at_71 rfl ?_
  refine Own.iconst X9 (v := 4) at_72 rfl ?_
  refine Own.iushr X9 at_73 ?_
  refine Own.iconst X9 (v := 3) at_74 rfl ?_
  refine Own.iand X9 at_75 ?_
  obtain ⟨ln, e_ln⟩ : ∃ v, ((Jvm.Free.XT.ushr i3 (4 : Int32)) &&& (3 : Int32)) = v := ⟨_, rfl⟩
  rw [e_ln]
  have h_ln := own_ln _ ln e_ln
  refine Own.istore X9 at_76 (l' := #[.val (.int i0), .val (.int i1), .val (.int i2), .val (.int i3), .val (.double s0), .second, .val (.double c0), .second, .val (.double c1), .second, .val (.double g0), .second, .val (.double g1), .second, .val (.double g2), .second, .val (.double k0), .second, .val (.double k1), .second, .val (.double k2), .second, .val (.int sl), .val (.int ln), .unset, .unset, .unset, .unset, .unset, .unset, .unset, .unset, .unset]) rfl ?_
  refine Own.iload X9 at_78 rfl ?_
  refine Own.newP_ X9 (cap := 3) (ty := .double) (dv := .double 0) (ad := "[D") at_80 rfl rfl (by decide) (Own.wd hw 5 rfl) (own_nn h_ln) (own_cap h_ln) (by decide) (by decide) (by decide) fun T10 h10 ac k_ac g_ac X10 E10 V10 A10 => ?_
  have fr11 : n0 ≤ ac := Nat.le_trans Z0 (Nat.le_of_eq g_ac.symm)
  have Z12 : n0 ≤ h10.size := Nat.le_trans Z0 E10.1
  have V13 : Arv Z h10 ac k_ac .double ln [.double 0, .double 0, .double 0] (.double 0) := V10.pad (pad_rep [] (.double 0) 3)
  refine Own.astore X10 at_82 rfl (l' := #[.val (.int i0), .val (.int i1), .val (.int i2), .val (.int i3), .val (.double s0), .second, .val (.double c0), .second, .val (.double c1), .second, .val (.double g0), .second, .val (.double g1), .second, .val (.double g2), .second, .val (.double k0), .second, .val (.double k1), .second, .val (.double k2), .second, .val (.int sl), .val (.int ln), .val (.ref ac), .unset, .unset, .unset, .unset, .unset, .unset, .unset, .unset]) rfl ?_
  refine Own.iload X10 at_84 rfl ?_
  suffices J86_18 : ∀ (T18 : State) (h18 : Heap), ∀ (z95_21 : UInt64), z95_21 = (if ln.toInt ≤ (0 : Int) then 0 else k0) → Own.St p l e room_1 s m #[.int i0, .int i1, .int i2, .int i3] below meth c Z code "com/example/pliant/pliant/ml/CurvatureDotPinLaw" "law" maxLocals ret n0 T18 h18 1 3 → n0 ≤ h18.size → Exa Z h18 ac "[D" → Arv Z h18 ac k_ac .double ln [.double z95_21, .double 0, .double 0] (.double 0) → Own.Go p e below s n0 (fun v _ => v = some (.int 1)) 32 128 (T18.setTop (mkF m 95 #[.val (.int i0), .val (.int i1), .val (.int i2), .val (.int i3), .val (.double s0), .second, .val (.double c0), .second, .val (.double c1), .second, .val (.double g0), .second, .val (.double g1), .second, .val (.double g2), .second, .val (.double k0), .second, .val (.double k1), .second, .val (.double k2), .second, .val (.int sl), .val (.int ln), .val (.ref ac), .unset, .unset, .unset, .unset, .unset, .unset, .unset, .unset] [])) by
    refine Own.iff_ X10 (pc' := 95) at_86 (by decide) (fun (h86 : ln.toInt ≤ (0 : Int)) => ?_) (fun (h86 : ¬ (ln.toInt ≤ (0 : Int))) => ?_)
    · exact J86_18 _ _ _ (if_pos h86).symm (X10.more (by decide) (by decide)) Z12 A10 V13
    · refine Own.aload X10 at_89 rfl rfl ?_
      refine Own.iconst X10 (v := 0) at_91 rfl ?_
      refine Own.dload X10 at_92 rfl ?_
      refine Own.dastore_ X10 (i := 0) at_94 V13 (own_lt 0 h86 (by decide)) rfl (Nat.le_of_ble_eq_true rfl) fr11 fun T14 h14 X14 W14 V14 => ?_
      have F15 := A10.wr W14
      have Z16 : n0 ≤ h14.size := by rw [W14.size]; exact Z12
      have V17 : Arv Z h14 ac k_ac .double ln [.double k0, .double 0, .double 0] (.double 0) := V14
      exact J86_18 _ _ _ (if_neg h86).symm (X14.more (by decide) (by decide)) Z16 F15 V17
  intro T18 h18 z95_21 e_z95_21 X18 Z18 F19 F20
  have B_z95_21 : Own.Bd z95_21 128 := by rw [e_z95_21]; split <;> first | exact Own.Bd.zero128 | exact B_k0
  refine Own.iload X18 at_95 rfl ?_
  refine Own.iconst X18 (v := 1) at_97 rfl ?_
  suffices J98_26 : ∀ (T26 : State) (h26 : Heap), ∀ (z107_29 : UInt64), z107_29 = (if ln.toInt ≤ (1 : Int) then 0 else k1) → Own.St p l e room_1 s m #[.int i0, .int i1, .int i2, .int i3] below meth c Z code "com/example/pliant/pliant/ml/CurvatureDotPinLaw" "law" maxLocals ret n0 T26 h26 1 3 → n0 ≤ h26.size → Exa Z h26 ac "[D" → Arv Z h26 ac k_ac .double ln [.double z95_21, .double z107_29, .double 0] (.double 0) → Own.Go p e below s n0 (fun v _ => v = some (.int 1)) 32 128 (T26.setTop (mkF m 107 #[.val (.int i0), .val (.int i1), .val (.int i2), .val (.int i3), .val (.double s0), .second, .val (.double c0), .second, .val (.double c1), .second, .val (.double g0), .second, .val (.double g1), .second, .val (.double g2), .second, .val (.double k0), .second, .val (.double k1), .second, .val (.double k2), .second, .val (.int sl), .val (.int ln), .val (.ref ac), .unset, .unset, .unset, .unset, .unset, .unset, .unset, .unset] [])) by
    refine Own.icmp_ X18 (pc' := 107) at_98 (by decide) (fun (h98 : ln.toInt ≤ (1 : Int)) => ?_) (fun (h98 : ¬ (ln.toInt ≤ (1 : Int))) => ?_)
    · exact J98_26 _ _ _ (if_pos h98).symm (X18.more (by decide) (by decide)) Z18 F19 F20
    · refine Own.aload X18 at_101 rfl rfl ?_
      refine Own.iconst X18 (v := 1) at_103 rfl ?_
      refine Own.dload X18 at_104 rfl ?_
      refine Own.dastore_ X18 (i := 1) at_106 F20 (own_lt 1 h98 (by decide)) rfl (Nat.le_of_ble_eq_true rfl) fr11 fun T22 h22 X22 W22 V22 => ?_
      have F23 := F19.wr W22
      have Z24 : n0 ≤ h22.size := by rw [W22.size]; exact Z18
      have V25 : Arv Z h22 ac k_ac .double ln [.double z95_21, .double k1, .double 0] (.double 0) := V22
      exact J98_26 _ _ _ (if_neg h98).symm (X22.more (by decide) (by decide)) Z24 F23 V25
  intro T26 h26 z107_29 e_z107_29 X26 Z26 F27 F28
  have B_z107_29 : Own.Bd z107_29 128 := by rw [e_z107_29]; split <;> first | exact Own.Bd.zero128 | exact B_k1
  refine Own.iload X26 at_107 rfl ?_
  refine Own.iconst X26 (v := 2) at_109 rfl ?_
  suffices J110_34 : ∀ (T34 : State) (h34 : Heap), ∀ (z119_37 : UInt64), z119_37 = (if ln.toInt ≤ (2 : Int) then 0 else k2) → Own.St p l e room_1 s m #[.int i0, .int i1, .int i2, .int i3] below meth c Z code "com/example/pliant/pliant/ml/CurvatureDotPinLaw" "law" maxLocals ret n0 T34 h34 1 3 → n0 ≤ h34.size → Exa Z h34 ac "[D" → Arv Z h34 ac k_ac .double ln [.double z95_21, .double z107_29, .double z119_37] (.double 0) → Own.Go p e below s n0 (fun v _ => v = some (.int 1)) 32 128 (T34.setTop (mkF m 119 #[.val (.int i0), .val (.int i1), .val (.int i2), .val (.int i3), .val (.double s0), .second, .val (.double c0), .second, .val (.double c1), .second, .val (.double g0), .second, .val (.double g1), .second, .val (.double g2), .second, .val (.double k0), .second, .val (.double k1), .second, .val (.double k2), .second, .val (.int sl), .val (.int ln), .val (.ref ac), .unset, .unset, .unset, .unset, .unset, .unset, .unset, .unset] [])) by
    refine Own.icmp_ X26 (pc' := 119) at_110 (by decide) (fun (h110 : ln.toInt ≤ (2 : Int)) => ?_) (fun (h110 : ¬ (ln.toInt ≤ (2 : Int))) => ?_)
    · exact J110_34 _ _ _ (if_pos h110).symm (X26.more (by decide) (by decide)) Z26 F27 F28
    · refine Own.aload X26 at_113 rfl rfl ?_
      refine Own.iconst X26 (v := 2) at_115 rfl ?_
      refine Own.dload X26 at_116 rfl ?_
      refine Own.dastore_ X26 (i := 2) at_118 F28 (own_lt 2 h110 (by decide)) rfl (Nat.le_of_ble_eq_true rfl) fr11 fun T30 h30 X30 W30 V30 => ?_
      have F31 := F27.wr W30
      have Z32 : n0 ≤ h30.size := by rw [W30.size]; exact Z26
      have V33 : Arv Z h30 ac k_ac .double ln [.double z95_21, .double z107_29, .double k2] (.double 0) := V30
      exact J110_34 _ _ _ (if_neg h110).symm (X30.more (by decide) (by decide)) Z32 F31 V33
  intro T34 h34 z119_37 e_z119_37 X34 Z34 F35 F36
  have B_z119_37 : Own.Bd z119_37 128 := by rw [e_z119_37]; split <;> first | exact Own.Bd.zero128 | exact B_k2
  refine Own.iconst X34 (v := 3) at_119 rfl ?_
  refine Own.newP_ X34 (cap := 3) (ty := .double) (dv := .double 0) (ad := "[D") at_120 rfl rfl (by decide) (Own.wd hw 5 rfl) (by decide) (by decide) (by decide) (by decide) (by decide) fun T38 h38 a120 k_a120 g_a120 X38 E38 V38 A38 => ?_
  have ne39 : ac ≠ a120 := Nat.ne_of_lt (Nat.lt_of_lt_of_le F35.lt (Nat.le_of_eq g_a120.symm))
  have fr40 : n0 ≤ a120 := Nat.le_trans Z34 (Nat.le_of_eq g_a120.symm)
  have F41 := F35.ext E38
  have F42 := F36.ext E38
  have Z43 : n0 ≤ h38.size := Nat.le_trans Z34 E38.1
  have V44 : Arv Z h38 a120 k_a120 .double (3 : Int32) [.double 0, .double 0, .double 0] (.double 0) := V38.pad (pad_rep [] (.double 0) 3)
  refine Own.dup X38 at_122 rfl ?_
  refine Own.iconst X38 (v := 0) at_123 rfl ?_
  refine Own.dload X38 at_124 rfl ?_
  refine Own.dastore_ X38 (i := 0) at_126 V44 (by decide) rfl (Nat.le_of_ble_eq_true rfl) fr40 fun T45 h45 X45 W45 V45 => ?_
  have F46 := F41.wr W45
  have F47 := F42.other W45 ne39
  have F48 := A38.wr W45
  have Z49 : n0 ≤ h45.size := by rw [W45.size]; exact Z43
  have V50 : Arv Z h45 a120 k_a120 .double (3 : Int32) [.double s0, .double 0, .double 0] (.double 0) := V45
  refine Own.dup X45 at_127 rfl ?_
  refine Own.iconst X45 (v := 1) at_128 rfl ?_
  refine Own.dload X45 at_129 rfl ?_
  refine Own.dastore_ X45 (i := 1) at_131 V50 (by decide) rfl (Nat.le_of_ble_eq_true rfl) fr40 fun T51 h51 X51 W51 V51 => ?_
  have F52 := F46.wr W51
  have F53 := F47.other W51 ne39
  have F54 := F48.wr W51
  have Z55 : n0 ≤ h51.size := by rw [W51.size]; exact Z49
  have V56 : Arv Z h51 a120 k_a120 .double (3 : Int32) [.double s0, .double c0, .double 0] (.double 0) := V51
  refine Own.dup X51 at_132 rfl ?_
  refine Own.iconst X51 (v := 2) at_133 rfl ?_
  refine Own.dload X51 at_134 rfl ?_
  refine Own.dastore_ X51 (i := 2) at_136 V56 (by decide) rfl (Nat.le_of_ble_eq_true rfl) fr40 fun T57 h57 X57 W57 V57 => ?_
  have F58 := F52.wr W57
  have F59 := F53.other W57 ne39
  have F60 := F54.wr W57
  have Z61 : n0 ≤ h57.size := by rw [W57.size]; exact Z55
  have V62 : Arv Z h57 a120 k_a120 .double (3 : Int32) [.double s0, .double c0, .double g0] (.double 0) := V57
  refine Own.astore X57 at_137 rfl (l' := #[.val (.int i0), .val (.int i1), .val (.int i2), .val (.int i3), .val (.double s0), .second, .val (.double c0), .second, .val (.double c1), .second, .val (.double g0), .second, .val (.double g1), .second, .val (.double g2), .second, .val (.double k0), .second, .val (.double k1), .second, .val (.double k2), .second, .val (.int sl), .val (.int ln), .val (.ref ac), .val (.ref a120), .unset, .unset, .unset, .unset, .unset, .unset, .unset]) rfl ?_
  refine Own.iconst X57 (v := 3) at_139 rfl ?_
  refine Own.newP_ X57 (cap := 3) (ty := .double) (dv := .double 0) (ad := "[D") at_140 rfl rfl (by decide) (Own.wd hw 5 rfl) (by decide) (by decide) (by decide) (by decide) (by decide) fun T63 h63 a140 k_a140 g_a140 X63 E63 V63 A63 => ?_
  have ne64 : ac ≠ a140 := Nat.ne_of_lt (Nat.lt_of_lt_of_le F58.lt (Nat.le_of_eq g_a140.symm))
  have ne65 : a120 ≠ a140 := Nat.ne_of_lt (Nat.lt_of_lt_of_le F60.lt (Nat.le_of_eq g_a140.symm))
  have fr66 : n0 ≤ a140 := Nat.le_trans Z61 (Nat.le_of_eq g_a140.symm)
  have F67 := F58.ext E63
  have F68 := F59.ext E63
  have F69 := F60.ext E63
  have F70 := V62.ext E63
  have Z71 : n0 ≤ h63.size := Nat.le_trans Z61 E63.1
  have V72 : Arv Z h63 a140 k_a140 .double (3 : Int32) [.double 0, .double 0, .double 0] (.double 0) := V63.pad (pad_rep [] (.double 0) 3)
  refine Own.dup X63 at_142 rfl ?_
  refine Own.iconst X63 (v := 0) at_143 rfl ?_
  refine Own.dload X63 at_144 rfl ?_
  refine Own.dastore_ X63 (i := 0) at_146 V72 (by decide) rfl (Nat.le_of_ble_eq_true rfl) fr66 fun T73 h73 X73 W73 V73 => ?_
  have F74 := F67.wr W73
  have F75 := F68.other W73 ne64
  have F76 := F69.wr W73
  have F77 := F70.other W73 ne65
  have F78 := A63.wr W73
  have Z79 : n0 ≤ h73.size := by rw [W73.size]; exact Z71
  have V80 : Arv Z h73 a140 k_a140 .double (3 : Int32) [.double c0, .double 0, .double 0] (.double 0) := V73
  refine Own.dup X73 at_147 rfl ?_
  refine Own.iconst X73 (v := 1) at_148 rfl ?_
  refine Own.dload X73 at_149 rfl ?_
  refine Own.dastore_ X73 (i := 1) at_151 V80 (by decide) rfl (Nat.le_of_ble_eq_true rfl) fr66 fun T81 h81 X81 W81 V81 => ?_
  have F82 := F74.wr W81
  have F83 := F75.other W81 ne64
  have F84 := F76.wr W81
  have F85 := F77.other W81 ne65
  have F86 := F78.wr W81
  have Z87 : n0 ≤ h81.size := by rw [W81.size]; exact Z79
  have V88 : Arv Z h81 a140 k_a140 .double (3 : Int32) [.double c0, .double c1, .double 0] (.double 0) := V81
  refine Own.dup X81 at_152 rfl ?_
  refine Own.iconst X81 (v := 2) at_153 rfl ?_
  refine Own.dload X81 at_154 rfl ?_
  refine Own.dastore_ X81 (i := 2) at_156 V88 (by decide) rfl (Nat.le_of_ble_eq_true rfl) fr66 fun T89 h89 X89 W89 V89 => ?_
  have F90 := F82.wr W89
  have F91 := F83.other W89 ne64
  have F92 := F84.wr W89
  have F93 := F85.other W89 ne65
  have F94 := F86.wr W89
  have Z95 : n0 ≤ h89.size := by rw [W89.size]; exact Z87
  have V96 : Arv Z h89 a140 k_a140 .double (3 : Int32) [.double c0, .double c1, .double g1] (.double 0) := V89
  refine Own.astore X89 at_157 rfl (l' := #[.val (.int i0), .val (.int i1), .val (.int i2), .val (.int i3), .val (.double s0), .second, .val (.double c0), .second, .val (.double c1), .second, .val (.double g0), .second, .val (.double g1), .second, .val (.double g2), .second, .val (.double k0), .second, .val (.double k1), .second, .val (.double k2), .second, .val (.int sl), .val (.int ln), .val (.ref ac), .val (.ref a120), .val (.ref a140), .unset, .unset, .unset, .unset, .unset, .unset]) rfl ?_
  refine Own.iconst X89 (v := 3) at_159 rfl ?_
  refine Own.newP_ X89 (cap := 3) (ty := .double) (dv := .double 0) (ad := "[D") at_160 rfl rfl (by decide) (Own.wd hw 5 rfl) (by decide) (by decide) (by decide) (by decide) (by decide) fun T97 h97 a160 k_a160 g_a160 X97 E97 V97 A97 => ?_
  have ne98 : ac ≠ a160 := Nat.ne_of_lt (Nat.lt_of_lt_of_le F90.lt (Nat.le_of_eq g_a160.symm))
  have ne99 : a120 ≠ a160 := Nat.ne_of_lt (Nat.lt_of_lt_of_le F92.lt (Nat.le_of_eq g_a160.symm))
  have ne100 : a140 ≠ a160 := Nat.ne_of_lt (Nat.lt_of_lt_of_le F94.lt (Nat.le_of_eq g_a160.symm))
  have fr101 : n0 ≤ a160 := Nat.le_trans Z95 (Nat.le_of_eq g_a160.symm)
  have F102 := F90.ext E97
  have F103 := F91.ext E97
  have F104 := F92.ext E97
  have F105 := F93.ext E97
  have F106 := F94.ext E97
  have F107 := V96.ext E97
  have Z108 : n0 ≤ h97.size := Nat.le_trans Z95 E97.1
  have V109 : Arv Z h97 a160 k_a160 .double (3 : Int32) [.double 0, .double 0, .double 0] (.double 0) := V97.pad (pad_rep [] (.double 0) 3)
  refine Own.dup X97 at_162 rfl ?_
  refine Own.iconst X97 (v := 0) at_163 rfl ?_
  refine Own.dload X97 at_164 rfl ?_
  refine Own.dastore_ X97 (i := 0) at_166 V109 (by decide) rfl (Nat.le_of_ble_eq_true rfl) fr101 fun T110 h110 X110 W110 V110 => ?_
  have F111 := F102.wr W110
  have F112 := F103.other W110 ne98
  have F113 := F104.wr W110
  have F114 := F105.other W110 ne99
  have F115 := F106.wr W110
  have F116 := F107.other W110 ne100
  have F117 := A97.wr W110
  have Z118 : n0 ≤ h110.size := by rw [W110.size]; exact Z108
  have V119 : Arv Z h110 a160 k_a160 .double (3 : Int32) [.double g0, .double 0, .double 0] (.double 0) := V110
  refine Own.dup X110 at_167 rfl ?_
  refine Own.iconst X110 (v := 1) at_168 rfl ?_
  refine Own.dload X110 at_169 rfl ?_
  refine Own.dastore_ X110 (i := 1) at_171 V119 (by decide) rfl (Nat.le_of_ble_eq_true rfl) fr101 fun T120 h120 X120 W120 V120 => ?_
  have F121 := F111.wr W120
  have F122 := F112.other W120 ne98
  have F123 := F113.wr W120
  have F124 := F114.other W120 ne99
  have F125 := F115.wr W120
  have F126 := F116.other W120 ne100
  have F127 := F117.wr W120
  have Z128 : n0 ≤ h120.size := by rw [W120.size]; exact Z118
  have V129 : Arv Z h120 a160 k_a160 .double (3 : Int32) [.double g0, .double g1, .double 0] (.double 0) := V120
  refine Own.dup X120 at_172 rfl ?_
  refine Own.iconst X120 (v := 2) at_173 rfl ?_
  refine Own.dload X120 at_174 rfl ?_
  refine Own.dastore_ X120 (i := 2) at_176 V129 (by decide) rfl (Nat.le_of_ble_eq_true rfl) fr101 fun T130 h130 X130 W130 V130 => ?_
  have F131 := F121.wr W130
  have F132 := F122.other W130 ne98
  have F133 := F123.wr W130
  have F134 := F124.other W130 ne99
  have F135 := F125.wr W130
  have F136 := F126.other W130 ne100
  have F137 := F127.wr W130
  have Z138 : n0 ≤ h130.size := by rw [W130.size]; exact Z128
  have V139 : Arv Z h130 a160 k_a160 .double (3 : Int32) [.double g0, .double g1, .double g2] (.double 0) := V130
  refine Own.astore X130 at_177 rfl (l' := #[.val (.int i0), .val (.int i1), .val (.int i2), .val (.int i3), .val (.double s0), .second, .val (.double c0), .second, .val (.double c1), .second, .val (.double g0), .second, .val (.double g1), .second, .val (.double g2), .second, .val (.double k0), .second, .val (.double k1), .second, .val (.double k2), .second, .val (.int sl), .val (.int ln), .val (.ref ac), .val (.ref a120), .val (.ref a140), .val (.ref a160), .unset, .unset, .unset, .unset, .unset]) rfl ?_
  refine Own.newO_ X130 at_179 (Own.wd hw 6 rfl) (Own.wd hw 7 rfl) (Own.wd hw 8 rfl) (by decide) (by decide) fun T140 h140 o179 g_o179 X140 E140 A140 D140 => ?_
  have ne141 : ac ≠ o179 := Nat.ne_of_lt (Nat.lt_of_lt_of_le F131.lt (Nat.le_of_eq g_o179.symm))
  have ne142 : a120 ≠ o179 := Nat.ne_of_lt (Nat.lt_of_lt_of_le F133.lt (Nat.le_of_eq g_o179.symm))
  have ne143 : a140 ≠ o179 := Nat.ne_of_lt (Nat.lt_of_lt_of_le F135.lt (Nat.le_of_eq g_o179.symm))
  have ne144 : a160 ≠ o179 := Nat.ne_of_lt (Nat.lt_of_lt_of_le F137.lt (Nat.le_of_eq g_o179.symm))
  have fr145 : n0 ≤ o179 := Nat.le_trans Z138 (Nat.le_of_eq g_o179.symm)
  have F146 := F131.ext E140
  have F147 := F132.ext E140
  have F148 := F133.ext E140
  have F149 := F134.ext E140
  have F150 := F135.ext E140
  have F151 := F136.ext E140
  have F152 := F137.ext E140
  have F153 := V139.ext E140
  have Z154 : n0 ≤ h140.size := Nat.le_trans Z138 E140.1
  have F155 : Fld Z h140 o179 "com/example/pliant/pliant/ml/Curvature" "pairs" "[I" (.null) := D140 (Or.inl (Own.wd hw 17 rfl)) (ty := (.array .int)) (by decide)
  have F156 : Fld Z h140 o179 "com/example/pliant/pliant/ml/Curvature" "history" "I" (.int (0 : Int32)) := D140 (Or.inr (Own.wd hw 19 rfl)) (ty := .int) (by decide)
  have F157 : Fld Z h140 o179 "com/example/pliant/pliant/ml/Curvature" "dots" "[[D" (.null) := D140 (Or.inr (Own.wd hw 23 rfl)) (ty := (.array (.array .double))) (by decide)
  refine Own.dup X140 at_182 rfl ?_
  refine Own.iconst X140 (v := 1) at_183 rfl ?_
  refine Own.callI_ (y := mn_3) (a := o179) X140 at_184 rfl (Own.wd hw 9 rfl) (Own.wd hw 10 rfl) (Own.wd hw 8 rfl) (Own.wd hw 11 rfl) (by decide) (rm2 l Z a0 hw o179 h140 n0 Z154 A140 F155 F156 F157 fr145 ) (lenOf pd_18 rfl) rfl (argsL := [.int (1 : Int32)]) (rest := [.ref o179]) rfl (W := 1) (Nat.le_of_eq rfl) (by decide) (by decide) (by decide) (by decide) fun T158 h158 v158 X158 q158 => ?_
  obtain ⟨pa_184_158, gd_184_158, r0_184_158, r1_184_158, r2_184_158, k_pa_184_158, k_gd_184_158, c_gd_184_158, rfl, K158, B158_0, B158_1, B158_2, B158_3, B158_4, U158_0, U158_1, U158_2, U158_3, U158_4, U158_5, U158_6, U158_7, U158_8, U158_9, G158_0, G158_1, G158_2, G158_3, G158_4, G158_5, G158_6, G158_7⟩ := q158
  have F159 := F146.keep K158
  have F160 := F147.keep K158 (ninS ne141 nin0)
  have F161 := F148.keep K158
  have F162 := F149.keep K158 (ninS ne142 nin0)
  have F163 := F150.keep K158
  have F164 := F151.keep K158 (ninS ne143 nin0)
  have F165 := F152.keep K158
  have F166 := F153.keep K158 (ninS ne144 nin0)
  have F167 := A140.keep K158
  have Z168 : n0 ≤ h158.size := Nat.le_trans Z154 K158.1
  have ne169 : ac ≠ pa_184_158 := Nat.ne_of_lt (Nat.lt_of_lt_of_le F146.lt B158_0)
  have ne170 : a120 ≠ pa_184_158 := Nat.ne_of_lt (Nat.lt_of_lt_of_le F148.lt B158_0)
  have ne171 : a140 ≠ pa_184_158 := Nat.ne_of_lt (Nat.lt_of_lt_of_le F150.lt B158_0)
  have ne172 : a160 ≠ pa_184_158 := Nat.ne_of_lt (Nat.lt_of_lt_of_le F152.lt B158_0)
  have ne173 : o179 ≠ pa_184_158 := Nat.ne_of_lt (Nat.lt_of_lt_of_le A140.lt B158_0)
  have fr174 : n0 ≤ pa_184_158 := Nat.le_trans Z154 B158_0
  have ne175 : ac ≠ gd_184_158 := Nat.ne_of_lt (Nat.lt_of_lt_of_le F146.lt B158_1)
  have ne176 : a120 ≠ gd_184_158 := Nat.ne_of_lt (Nat.lt_of_lt_of_le F148.lt B158_1)
  have ne177 : a140 ≠ gd_184_158 := Nat.ne_of_lt (Nat.lt_of_lt_of_le F150.lt B158_1)
  have ne178 : a160 ≠ gd_184_158 := Nat.ne_of_lt (Nat.lt_of_lt_of_le F152.lt B158_1)
  have ne179 : o179 ≠ gd_184_158 := Nat.ne_of_lt (Nat.lt_of_lt_of_le A140.lt B158_1)
  have fr180 : n0 ≤ gd_184_158 := Nat.le_trans Z154 B158_1
  have ne181 : ac ≠ r0_184_158 := Nat.ne_of_lt (Nat.lt_of_lt_of_le F146.lt B158_2)
  have ne182 : a120 ≠ r0_184_158 := Nat.ne_of_lt (Nat.lt_of_lt_of_le F148.lt B158_2)
  have ne183 : a140 ≠ r0_184_158 := Nat.ne_of_lt (Nat.lt_of_lt_of_le F150.lt B158_2)
  have ne184 : a160 ≠ r0_184_158 := Nat.ne_of_lt (Nat.lt_of_lt_of_le F152.lt B158_2)
  have ne185 : o179 ≠ r0_184_158 := Nat.ne_of_lt (Nat.lt_of_lt_of_le A140.lt B158_2)
  have fr186 : n0 ≤ r0_184_158 := Nat.le_trans Z154 B158_2
  have ne187 : ac ≠ r1_184_158 := Nat.ne_of_lt (Nat.lt_of_lt_of_le F146.lt B158_3)
  have ne188 : a120 ≠ r1_184_158 := Nat.ne_of_lt (Nat.lt_of_lt_of_le F148.lt B158_3)
  have ne189 : a140 ≠ r1_184_158 := Nat.ne_of_lt (Nat.lt_of_lt_of_le F150.lt B158_3)
  have ne190 : a160 ≠ r1_184_158 := Nat.ne_of_lt (Nat.lt_of_lt_of_le F152.lt B158_3)
  have ne191 : o179 ≠ r1_184_158 := Nat.ne_of_lt (Nat.lt_of_lt_of_le A140.lt B158_3)
  have fr192 : n0 ≤ r1_184_158 := Nat.le_trans Z154 B158_3
  have ne193 : ac ≠ r2_184_158 := Nat.ne_of_lt (Nat.lt_of_lt_of_le F146.lt B158_4)
  have ne194 : a120 ≠ r2_184_158 := Nat.ne_of_lt (Nat.lt_of_lt_of_le F148.lt B158_4)
  have ne195 : a140 ≠ r2_184_158 := Nat.ne_of_lt (Nat.lt_of_lt_of_le F150.lt B158_4)
  have ne196 : a160 ≠ r2_184_158 := Nat.ne_of_lt (Nat.lt_of_lt_of_le F152.lt B158_4)
  have ne197 : o179 ≠ r2_184_158 := Nat.ne_of_lt (Nat.lt_of_lt_of_le A140.lt B158_4)
  have fr198 : n0 ≤ r2_184_158 := Nat.le_trans Z154 B158_4
  show Own.Go p e below s n0 _ _ _ (T158.setTop (mkF m 187 _ [.ref o179]))
  refine Own.astore X158 at_187 rfl (l' := #[.val (.int i0), .val (.int i1), .val (.int i2), .val (.int i3), .val (.double s0), .second, .val (.double c0), .second, .val (.double c1), .second, .val (.double g0), .second, .val (.double g1), .second, .val (.double g2), .second, .val (.double k0), .second, .val (.double k1), .second, .val (.double k2), .second, .val (.int sl), .val (.int ln), .val (.ref ac), .val (.ref a120), .val (.ref a140), .val (.ref a160), .val (.ref o179), .unset, .unset, .unset, .unset]) rfl ?_
  refine Own.aload X158 at_189 rfl rfl ?_
  refine Own.iconst X158 (v := 0) at_191 rfl ?_
  refine Own.aload X158 at_192 rfl rfl ?_
  refine Own.aload X158 at_194 rfl rfl ?_
  refine Own.aload X158 at_196 rfl rfl ?_
  refine Own.callV_ (y := mn_11) (z := mn_11) (a := o179) X158 at_198 (Own.wd hw 24 rfl) (Own.wd hw 25 rfl) (Own.wd hw 27 rfl) (Own.wd hw 26 rfl) rfl (Own.wd hw 8 rfl) (Own.wd hw 28 rfl) (by decide) F167 (rm4 l Z a0 hw o179 a120 a140 a160 pa_184_158 k_pa_184_158 gd_184_158 r0_184_158 r1_184_158 r2_184_158 k_gd_184_158 c_gd_184_158 0 0 0 0 0 0 0 0 0 k_a120 k_a140 k_a160 s0 c0 g0 c0 c1 g1 g0 g1 g2 h158 n0 Z168 F167 G158_1 G158_0 G158_3 G158_2 G158_4 G158_5 G158_6 G158_7 F162 F164 F166 U158_7 U158_8 U158_9 ne185 ne191 ne197 U158_4 U158_5 U158_6 ne182 ne188 ne194 ne183 ne189 ne195 ne184 ne190 ne196 U158_1 U158_2 U158_3 ne179 (Ne.symm ne142) (Ne.symm ne143) (Ne.symm ne144) ne173 fr186 fr192 fr198 fr145 ) (lenOf pd_19 rfl) rfl (argsL := [.int (0 : Int32), .ref a120, .ref a140, .ref a160]) (rest := []) rfl (W := 0) (Nat.le_of_eq rfl) (by decide) (by decide) (by decide) (by decide) fun T199 h199 v199 X199 q199 => ?_
  obtain ⟨rfl, K199, G199_0, G199_1, G199_2, G199_3, G199_4⟩ := q199
  have F200 := F159.keep K199
  have F201 := F160.keep K199 (ninS ne181 (ninS ne187 (ninS ne193 (ninS ne141 nin0))))
  have F202 := F161.keep K199
  have F203 := F162.keep K199 (ninS ne182 (ninS ne188 (ninS ne194 (ninS ne142 nin0))))
  have F204 := F163.keep K199
  have F205 := F164.keep K199 (ninS ne183 (ninS ne189 (ninS ne195 (ninS ne143 nin0))))
  have F206 := F165.keep K199
  have F207 := F166.keep K199 (ninS ne184 (ninS ne190 (ninS ne196 (ninS ne144 nin0))))
  have F208 := F167.keep K199
  have F209 := G158_3.keep K199 (ninS U158_1 (ninS U158_2 (ninS U158_3 (ninS (Ne.symm ne173) nin0))))
  have F210 := G158_4.keep K199 (ninS U158_4 (ninS U158_5 (ninS U158_6 (ninS (Ne.symm ne179) nin0))))
  have Z211 : n0 ≤ h199.size := Nat.le_trans Z168 K199.1
  show Own.Go p e below s n0 _ _ _ (T199.setTop (mkF m 201 _ []))
  refine Own.aload X199 at_201 rfl rfl ?_
  refine Own.aload X199 at_203 rfl rfl ?_
  refine Own.iload X199 at_205 rfl ?_
  refine Own.callV_ (y := mn_14) (z := mn_14) (a := o179) X199 at_207 (Own.wd hw 52 rfl) (Own.wd hw 53 rfl) (Own.wd hw 55 rfl) (Own.wd hw 54 rfl) rfl (Own.wd hw 8 rfl) (Own.wd hw 56 rfl) (by decide) F208 (rm10 l Z a0 hw o179 ac sl ln k_ac gd_184_158 r0_184_158 r1_184_158 r2_184_158 k_gd_184_158 c_gd_184_158 s0 c0 g0 c0 c1 g1 g0 g1 g2 z95_21 z107_29 z119_37 h199 n0 Z211 F201 G199_0 G199_1 G199_2 G199_3 G199_4 h_ln h_sl B_s0 B_c0 B_g0 B_c0 B_c1 B_g1 B_g0 B_g1 B_g2 B_z95_21 B_z107_29 B_z119_37) (lenOf pd_20 rfl) rfl (argsL := [.ref ac, .int sl]) (rest := []) rfl (W := 0) (Nat.le_of_eq rfl) (by decide) (by decide) (by decide) (by decide) fun T212 h212 v212 X212 q212 => ?_
  obtain ⟨rfl, rfl⟩ := q212
  obtain ⟨got, e_got⟩ : ∃ v, (own_dot ln sl z95_21 z107_29 z119_37 s0 c0 g0 c0 c1 g1 g0 g1 g2) = v := ⟨_, rfl⟩
  rw [e_got]
  have B_got : Own.Bd got 49152 := e_got ▸ own_dot_bd B_z95_21 B_z107_29 B_z119_37 B_s0 B_c0 B_g0 B_c0 B_c1 B_g1 B_g0 B_g1 B_g2
  have n_got := B_got.1.noNaN
  show Own.Go p e below s n0 _ _ _ (T212.setTop (mkF m 210 _ [.double got]))
  refine Own.dstore X212 at_210 (l' := #[.val (.int i0), .val (.int i1), .val (.int i2), .val (.int i3), .val (.double s0), .second, .val (.double c0), .second, .val (.double c1), .second, .val (.double g0), .second, .val (.double g1), .second, .val (.double g2), .second, .val (.double k0), .second, .val (.double k1), .second, .val (.double k2), .second, .val (.int sl), .val (.int ln), .val (.ref ac), .val (.ref a120), .val (.ref a140), .val (.ref a160), .val (.ref o179), .val (.double got), .second, .unset, .unset]) rfl ?_
  refine Own.dconst0 X212 at_212 ?_
  refine Own.dstore X212 at_213 (l' := #[.val (.int i0), .val (.int i1), .val (.int i2), .val (.int i3), .val (.double s0), .second, .val (.double c0), .second, .val (.double c1), .second, .val (.double g0), .second, .val (.double g1), .second, .val (.double g2), .second, .val (.double k0), .second, .val (.double k1), .second, .val (.double k2), .second, .val (.int sl), .val (.int ln), .val (.ref ac), .val (.ref a120), .val (.ref a140), .val (.ref a160), .val (.ref o179), .val (.double got), .second, .val (.double 0), .second]) rfl ?_
  refine Own.iload X212 at_215 rfl ?_
  refine Own.iff_ X212 (pc' := 246) at_217 (by decide) (fun (h217 : ln.toInt ≤ (0 : Int)) => ?_) (fun (h217 : ¬ (ln.toInt ≤ (0 : Int))) => ?_)
  · refine Own.iload X212 at_246 rfl ?_
    refine Own.iconst X212 (v := 1) at_248 rfl ?_
    refine Own.icmp_ X212 (pc' := 278) at_249 (by decide) (fun _ => ?_) (fun q => absurd (show ln.toInt ≤ (1 : Int) from (by omega)) q)
    refine Own.iload X212 at_278 rfl ?_
    refine Own.iconst X212 (v := 2) at_280 rfl ?_
    refine Own.icmp_ X212 (pc' := 310) at_281 (by decide) (fun _ => ?_) (fun q => absurd (show ln.toInt ≤ (2 : Int) from (by omega)) q)
    refine Own.dload X212 at_310 rfl ?_
    refine Own.dload X212 at_312 rfl ?_
    suffices J314_213 : ∀ (z323_213 : Int32), z323_213 = Own.bo (Own.dz got = Own.dz 0) → Own.Go p e below s n0 (fun v _ => v = some (.int 1)) 32 128 (T212.setTop (mkF m 323 #[.val (.int i0), .val (.int i1), .val (.int i2), .val (.int i3), .val (.double s0), .second, .val (.double c0), .second, .val (.double c1), .second, .val (.double g0), .second, .val (.double g1), .second, .val (.double g2), .second, .val (.double k0), .second, .val (.double k1), .second, .val (.double k2), .second, .val (.int sl), .val (.int ln), .val (.ref ac), .val (.ref a120), .val (.ref a140), .val (.ref a160), .val (.ref o179), .val (.double got), .second, .val (.double 0), .second] [.int z323_213])) by
      refine Own.dcmpF X212 (pc' := 322) at_314 at_315 (by decide) n_got Own.nn_0 (fun (h314 : ¬ (Own.dz got = Own.dz 0)) => ?_) (fun h314' => ?_)
      · refine Own.iconst X212 (v := 0) at_322 rfl ?_
        exact J314_213 _ (Own.bo_f (h314))
      · have h314 : Own.dz got = Own.dz 0 := Classical.not_not.mp h314'
        refine Own.iconst X212 (v := 1) at_318 rfl ?_
        refine Own.goto_ X212 (pc' := 323) at_319 (by decide) ?_
        exact J314_213 _ (Own.bo_t (h314))
    intro z323_213 e_z323_213
    subst e_z323_213
    exact Own.retB X212 at_323 (Own.bo_and _) (congrArg (fun z => some (Value.int z)) (Own.bo_t (congrArg Own.dz (by rw [← e_got, own_dot, if_pos (by omega)]))).symm) (by decide) (by decide)
  · refine Own.dload X212 at_220 rfl ?_
    refine Own.dload X212 at_222 rfl ?_
    refine Own.iconst X212 (v := 0) at_224 rfl ?_
    refine Own.iload X212 at_225 rfl ?_
    refine Own.dload X212 at_227 rfl ?_
    refine Own.dload X212 at_229 rfl ?_
    refine Own.dload X212 at_231 rfl ?_
    refine Own.dload X212 at_233 rfl ?_
    refine Own.dload X212 at_235 rfl ?_
    refine Own.dload X212 at_237 rfl ?_
    refine Own.callS_ (y := mn_16) X212 at_239 (Own.wd hw 57 rfl) (Own.wd hw 58 rfl) (Own.wd hw 2 rfl) (Own.wd hw 59 rfl) (by decide) (rm11 l Z a0 hw (0 : Int32) sl s0 c0 c1 g0 g1 g2 h199 n0 Z211  (by decide) (by omega)) (lenOf pd_21 rfl) rfl (argsL := [.int (0 : Int32), .int sl, .double s0, .double c0, .double c1, .double g0, .double g1, .double g2]) (rest := [.double k0, .double 0]) rfl (W := 4) (Nat.le_of_eq rfl) (by decide) (by decide) (by decide) (by decide) fun T214 h214 v214 X214 q214 => ?_
    obtain ⟨rfl, rfl⟩ := q214
    obtain ⟨E0, e_E0⟩ : ∃ v, (own_ent (0 : Int32) sl s0 c0 c1 g0 g1 g2) = v := ⟨_, rfl⟩
    rw [e_E0]
    have B_E0 : Own.Bd E0 128 := e_E0 ▸ own_ent_bd _ _ B_s0 B_c0 B_c1 B_g0 B_g1 B_g2
    show Own.Go p e below s n0 _ _ _ (T214.setTop (mkF m 242 _ [.double E0, .double k0, .double 0]))
    obtain ⟨mm0, e_mm0⟩ : ∃ v, FP.dmul k0 E0 = v := ⟨_, rfl⟩
    have B_mm0 := Own.Bd.mul e_mm0 B_k0 B_E0 (by decide)
    have n_mm0 := B_mm0.1.noNaN
    refine Own.dmul X214 at_242 e_mm0 n_mm0 ?_
    obtain ⟨ww0, e_ww0⟩ : ∃ v, FP.dadd 0 mm0 = v := ⟨_, rfl⟩
    have B_ww0 := Own.Bd.add e_ww0 Own.Bd.zero B_mm0 (by decide)
    have n_ww0 := B_ww0.1.noNaN
    refine Own.dadd X214 at_243 e_ww0 n_ww0 ?_
    refine Own.dstore X214 at_244 (l' := #[.val (.int i0), .val (.int i1), .val (.int i2), .val (.int i3), .val (.double s0), .second, .val (.double c0), .second, .val (.double c1), .second, .val (.double g0), .second, .val (.double g1), .second, .val (.double g2), .second, .val (.double k0), .second, .val (.double k1), .second, .val (.double k2), .second, .val (.int sl), .val (.int ln), .val (.ref ac), .val (.ref a120), .val (.ref a140), .val (.ref a160), .val (.ref o179), .val (.double got), .second, .val (.double ww0), .second]) rfl ?_
    refine Own.iload X214 at_246 rfl ?_
    refine Own.iconst X214 (v := 1) at_248 rfl ?_
    refine Own.icmp_ X214 (pc' := 278) at_249 (by decide) (fun (h249 : ln.toInt ≤ (1 : Int)) => ?_) (fun (h249 : ¬ (ln.toInt ≤ (1 : Int))) => ?_)
    · refine Own.iload X214 at_278 rfl ?_
      refine Own.iconst X214 (v := 2) at_280 rfl ?_
      refine Own.icmp_ X214 (pc' := 310) at_281 (by decide) (fun _ => ?_) (fun q => absurd (show ln.toInt ≤ (2 : Int) from (by omega)) q)
      refine Own.dload X214 at_310 rfl ?_
      refine Own.dload X214 at_312 rfl ?_
      suffices J314_215 : ∀ (z323_215 : Int32), z323_215 = Own.bo (Own.dz got = Own.dz ww0) → Own.Go p e below s n0 (fun v _ => v = some (.int 1)) 32 128 (T214.setTop (mkF m 323 #[.val (.int i0), .val (.int i1), .val (.int i2), .val (.int i3), .val (.double s0), .second, .val (.double c0), .second, .val (.double c1), .second, .val (.double g0), .second, .val (.double g1), .second, .val (.double g2), .second, .val (.double k0), .second, .val (.double k1), .second, .val (.double k2), .second, .val (.int sl), .val (.int ln), .val (.ref ac), .val (.ref a120), .val (.ref a140), .val (.ref a160), .val (.ref o179), .val (.double got), .second, .val (.double ww0), .second] [.int z323_215])) by
        refine Own.dcmpF X214 (pc' := 322) at_314 at_315 (by decide) n_got n_ww0 (fun (h314 : ¬ (Own.dz got = Own.dz ww0)) => ?_) (fun h314' => ?_)
        · refine Own.iconst X214 (v := 0) at_322 rfl ?_
          exact J314_215 _ (Own.bo_f (h314))
        · have h314 : Own.dz got = Own.dz ww0 := Classical.not_not.mp h314'
          refine Own.iconst X214 (v := 1) at_318 rfl ?_
          refine Own.goto_ X214 (pc' := 323) at_319 (by decide) ?_
          exact J314_215 _ (Own.bo_t (h314))
      intro z323_215 e_z323_215
      subst e_z323_215
      exact Own.retB X214 at_323 (Own.bo_and _) (congrArg (fun z => some (Value.int z)) (Own.bo_t (congrArg Own.dz (by rw [← e_got, own_dot, if_neg (by omega), if_pos (by omega), e_z95_21, if_neg (by omega)]; rw [← e_ww0, ← e_mm0, ← e_E0]; rfl))).symm) (by decide) (by decide)
    · refine Own.dload X214 at_252 rfl ?_
      refine Own.dload X214 at_254 rfl ?_
      refine Own.iconst X214 (v := 1) at_256 rfl ?_
      refine Own.iload X214 at_257 rfl ?_
      refine Own.dload X214 at_259 rfl ?_
      refine Own.dload X214 at_261 rfl ?_
      refine Own.dload X214 at_263 rfl ?_
      refine Own.dload X214 at_265 rfl ?_
      refine Own.dload X214 at_267 rfl ?_
      refine Own.dload X214 at_269 rfl ?_
      refine Own.callS_ (y := mn_16) X214 at_271 (Own.wd hw 57 rfl) (Own.wd hw 58 rfl) (Own.wd hw 2 rfl) (Own.wd hw 59 rfl) (by decide) (rm11 l Z a0 hw (1 : Int32) sl s0 c0 c1 g0 g1 g2 h199 n0 Z211  (by decide) (by omega)) (lenOf pd_21 rfl) rfl (argsL := [.int (1 : Int32), .int sl, .double s0, .double c0, .double c1, .double g0, .double g1, .double g2]) (rest := [.double k1, .double ww0]) rfl (W := 4) (Nat.le_of_eq rfl) (by decide) (by decide) (by decide) (by decide) fun T216 h216 v216 X216 q216 => ?_
      obtain ⟨rfl, rfl⟩ := q216
      obtain ⟨E1, e_E1⟩ : ∃ v, (own_ent (1 : Int32) sl s0 c0 c1 g0 g1 g2) = v := ⟨_, rfl⟩
      rw [e_E1]
      have B_E1 : Own.Bd E1 128 := e_E1 ▸ own_ent_bd _ _ B_s0 B_c0 B_c1 B_g0 B_g1 B_g2
      show Own.Go p e below s n0 _ _ _ (T216.setTop (mkF m 274 _ [.double E1, .double k1, .double ww0]))
      obtain ⟨mm1, e_mm1⟩ : ∃ v, FP.dmul k1 E1 = v := ⟨_, rfl⟩
      have B_mm1 := Own.Bd.mul e_mm1 B_k1 B_E1 (by decide)
      have n_mm1 := B_mm1.1.noNaN
      refine Own.dmul X216 at_274 e_mm1 n_mm1 ?_
      obtain ⟨ww1, e_ww1⟩ : ∃ v, FP.dadd ww0 mm1 = v := ⟨_, rfl⟩
      have B_ww1 := Own.Bd.add e_ww1 B_ww0 B_mm1 (by decide)
      have n_ww1 := B_ww1.1.noNaN
      refine Own.dadd X216 at_275 e_ww1 n_ww1 ?_
      refine Own.dstore X216 at_276 (l' := #[.val (.int i0), .val (.int i1), .val (.int i2), .val (.int i3), .val (.double s0), .second, .val (.double c0), .second, .val (.double c1), .second, .val (.double g0), .second, .val (.double g1), .second, .val (.double g2), .second, .val (.double k0), .second, .val (.double k1), .second, .val (.double k2), .second, .val (.int sl), .val (.int ln), .val (.ref ac), .val (.ref a120), .val (.ref a140), .val (.ref a160), .val (.ref o179), .val (.double got), .second, .val (.double ww1), .second]) rfl ?_
      refine Own.iload X216 at_278 rfl ?_
      refine Own.iconst X216 (v := 2) at_280 rfl ?_
      refine Own.icmp_ X216 (pc' := 310) at_281 (by decide) (fun (h281 : ln.toInt ≤ (2 : Int)) => ?_) (fun (h281 : ¬ (ln.toInt ≤ (2 : Int))) => ?_)
      · refine Own.dload X216 at_310 rfl ?_
        refine Own.dload X216 at_312 rfl ?_
        suffices J314_217 : ∀ (z323_217 : Int32), z323_217 = Own.bo (Own.dz got = Own.dz ww1) → Own.Go p e below s n0 (fun v _ => v = some (.int 1)) 32 128 (T216.setTop (mkF m 323 #[.val (.int i0), .val (.int i1), .val (.int i2), .val (.int i3), .val (.double s0), .second, .val (.double c0), .second, .val (.double c1), .second, .val (.double g0), .second, .val (.double g1), .second, .val (.double g2), .second, .val (.double k0), .second, .val (.double k1), .second, .val (.double k2), .second, .val (.int sl), .val (.int ln), .val (.ref ac), .val (.ref a120), .val (.ref a140), .val (.ref a160), .val (.ref o179), .val (.double got), .second, .val (.double ww1), .second] [.int z323_217])) by
          refine Own.dcmpF X216 (pc' := 322) at_314 at_315 (by decide) n_got n_ww1 (fun (h314 : ¬ (Own.dz got = Own.dz ww1)) => ?_) (fun h314' => ?_)
          · refine Own.iconst X216 (v := 0) at_322 rfl ?_
            exact J314_217 _ (Own.bo_f (h314))
          · have h314 : Own.dz got = Own.dz ww1 := Classical.not_not.mp h314'
            refine Own.iconst X216 (v := 1) at_318 rfl ?_
            refine Own.goto_ X216 (pc' := 323) at_319 (by decide) ?_
            exact J314_217 _ (Own.bo_t (h314))
        intro z323_217 e_z323_217
        subst e_z323_217
        exact Own.retB X216 at_323 (Own.bo_and _) (congrArg (fun z => some (Value.int z)) (Own.bo_t (congrArg Own.dz (by rw [← e_got, own_dot, if_neg (by omega), if_neg (by omega), if_pos (by omega), e_z95_21, if_neg (by omega), e_z107_29, if_neg (by omega)]; rw [← e_ww1, ← e_mm1, ← e_E1, ← e_ww0, ← e_mm0, ← e_E0]; rfl))).symm) (by decide) (by decide)
      · refine Own.dload X216 at_284 rfl ?_
        refine Own.dload X216 at_286 rfl ?_
        refine Own.iconst X216 (v := 2) at_288 rfl ?_
        refine Own.iload X216 at_289 rfl ?_
        refine Own.dload X216 at_291 rfl ?_
        refine Own.dload X216 at_293 rfl ?_
        refine Own.dload X216 at_295 rfl ?_
        refine Own.dload X216 at_297 rfl ?_
        refine Own.dload X216 at_299 rfl ?_
        refine Own.dload X216 at_301 rfl ?_
        refine Own.callS_ (y := mn_16) X216 at_303 (Own.wd hw 57 rfl) (Own.wd hw 58 rfl) (Own.wd hw 2 rfl) (Own.wd hw 59 rfl) (by decide) (rm11 l Z a0 hw (2 : Int32) sl s0 c0 c1 g0 g1 g2 h199 n0 Z211  (by decide) (by omega)) (lenOf pd_21 rfl) rfl (argsL := [.int (2 : Int32), .int sl, .double s0, .double c0, .double c1, .double g0, .double g1, .double g2]) (rest := [.double k2, .double ww1]) rfl (W := 4) (Nat.le_of_eq rfl) (by decide) (by decide) (by decide) (by decide) fun T218 h218 v218 X218 q218 => ?_
        obtain ⟨rfl, rfl⟩ := q218
        obtain ⟨E2, e_E2⟩ : ∃ v, (own_ent (2 : Int32) sl s0 c0 c1 g0 g1 g2) = v := ⟨_, rfl⟩
        rw [e_E2]
        have B_E2 : Own.Bd E2 128 := e_E2 ▸ own_ent_bd _ _ B_s0 B_c0 B_c1 B_g0 B_g1 B_g2
        show Own.Go p e below s n0 _ _ _ (T218.setTop (mkF m 306 _ [.double E2, .double k2, .double ww1]))
        obtain ⟨mm2, e_mm2⟩ : ∃ v, FP.dmul k2 E2 = v := ⟨_, rfl⟩
        have B_mm2 := Own.Bd.mul e_mm2 B_k2 B_E2 (by decide)
        have n_mm2 := B_mm2.1.noNaN
        refine Own.dmul X218 at_306 e_mm2 n_mm2 ?_
        obtain ⟨ww2, e_ww2⟩ : ∃ v, FP.dadd ww1 mm2 = v := ⟨_, rfl⟩
        have B_ww2 := Own.Bd.add e_ww2 B_ww1 B_mm2 (by decide)
        have n_ww2 := B_ww2.1.noNaN
        refine Own.dadd X218 at_307 e_ww2 n_ww2 ?_
        refine Own.dstore X218 at_308 (l' := #[.val (.int i0), .val (.int i1), .val (.int i2), .val (.int i3), .val (.double s0), .second, .val (.double c0), .second, .val (.double c1), .second, .val (.double g0), .second, .val (.double g1), .second, .val (.double g2), .second, .val (.double k0), .second, .val (.double k1), .second, .val (.double k2), .second, .val (.int sl), .val (.int ln), .val (.ref ac), .val (.ref a120), .val (.ref a140), .val (.ref a160), .val (.ref o179), .val (.double got), .second, .val (.double ww2), .second]) rfl ?_
        refine Own.dload X218 at_310 rfl ?_
        refine Own.dload X218 at_312 rfl ?_
        suffices J314_219 : ∀ (z323_219 : Int32), z323_219 = Own.bo (Own.dz got = Own.dz ww2) → Own.Go p e below s n0 (fun v _ => v = some (.int 1)) 32 128 (T218.setTop (mkF m 323 #[.val (.int i0), .val (.int i1), .val (.int i2), .val (.int i3), .val (.double s0), .second, .val (.double c0), .second, .val (.double c1), .second, .val (.double g0), .second, .val (.double g1), .second, .val (.double g2), .second, .val (.double k0), .second, .val (.double k1), .second, .val (.double k2), .second, .val (.int sl), .val (.int ln), .val (.ref ac), .val (.ref a120), .val (.ref a140), .val (.ref a160), .val (.ref o179), .val (.double got), .second, .val (.double ww2), .second] [.int z323_219])) by
          refine Own.dcmpF X218 (pc' := 322) at_314 at_315 (by decide) n_got n_ww2 (fun (h314 : ¬ (Own.dz got = Own.dz ww2)) => ?_) (fun h314' => ?_)
          · refine Own.iconst X218 (v := 0) at_322 rfl ?_
            exact J314_219 _ (Own.bo_f (h314))
          · have h314 : Own.dz got = Own.dz ww2 := Classical.not_not.mp h314'
            refine Own.iconst X218 (v := 1) at_318 rfl ?_
            refine Own.goto_ X218 (pc' := 323) at_319 (by decide) ?_
            exact J314_219 _ (Own.bo_t (h314))
        intro z323_219 e_z323_219
        subst e_z323_219
        exact Own.retB X218 at_323 (Own.bo_and _) (congrArg (fun z => some (Value.int z)) (Own.bo_t (congrArg Own.dz (by rw [← e_got, own_dot, if_neg (by omega), if_neg (by omega), if_neg (by omega), e_z95_21, if_neg (by omega), e_z107_29, if_neg (by omega), e_z119_37, if_neg (by omega)]; rw [← e_ww2, ← e_mm2, ← e_E2, ← e_ww1, ← e_mm1, ← e_E1, ← e_ww0, ← e_mm0, ← e_E0]; rfl))).symm) (by decide) (by decide)
set_option maxRecDepth 65536 in
set_option maxHeartbeats 40000000 in
theorem comes_1 {Post : Tables → Env → Array Value → State → Outcome → State → Prop} (hpost : ∀ tb e args s v u, (limb_1_1.after args s (.returned v) u = true ∧ limb_1_2.after args s (.returned v) u = true ∧ True) → FrameEnd s (.returned v) u (Jvm.fieldLocs frame_1_writes args s ++ Jvm.arrayLocs frame_1_arrays args s ++ Jvm.staticLocs frame_1_statics s) 32 128 → Post tb e args s (.returned v) u) :
    ArmFor flags0 classFile x code maxLocals ret World_1 tables_1 room_1 Calls_1 rest_1 Pre_1 Post := by
  intro l hfl _ _ p e ha hc hk s m args below hf hA hF happ hP
  obtain ⟨hcalls, hrest, hpre⟩ := hP
  obtain ⟨-, -, -, hnamed, -, -, -, hat⟩ := (Spec.applies_iff hf).mp happ
  obtain ⟨hg, hn⟩ := and_e (Cond.before_iff.mp (show (Jvm.Cond.and given_1 narrow_1).before args s = true from hpre))
  obtain ⟨g0, gs1⟩ := and_e hg
  obtain ⟨g1, gs2⟩ := and_e gs1
  obtain ⟨g2, gs3⟩ := and_e gs2
  obtain ⟨g3, gs4⟩ := and_e gs3
  have g4 := gs4
  obtain ⟨w0, w1, w2, w3, rfl⟩ : ∃ w0 w1 w2 w3 : Value, args = #[w0, w1, w2, w3] := by
    have hs : args.size = 4 := by simpa [Cond.value, given_1] using g0
    obtain ⟨L⟩ := args
    match L, hs with
    | [w0, w1, w2, w3], _ => exact ⟨w0, w1, w2, w3, rfl⟩
  have hw := fun d (hd : d ∈ tables_1) => atoms_spec (ws := Jvm.Cond.code x code maxLocals ret :: tables_1) hat d (List.mem_cons_of_mem _ hd)
  obtain ⟨i0, ei0⟩ := is_v g1
  obtain rfl : w0 = (.int i0) := Option.some.inj ei0
  obtain ⟨i1, ei1⟩ := is_v g2
  obtain rfl : w1 = (.int i1) := Option.some.inj ei1
  obtain ⟨i2, ei2⟩ := is_v g3
  obtain rfl : w2 = (.int i2) := Option.some.inj ei2
  obtain ⟨i3, ei3⟩ := is_v g4
  obtain rfl : w3 = (.int i3) := Option.some.inj ei3
  obtain ⟨n, o, h1, h2, h3, v, L, rfl, ⟨hQ, N⟩, hq⟩ := rm0 l s _ hw i0 i1 i2 i3 s.heap s.heap.size (Nat.le_refl _)  p e ha hc hk s m _ below hf ((Spec.applies_iff_loose hf).mp happ).1 ⟨rfl, State.Warmed39.refl s, rfl⟩ trivial
  obtain rfl := hQ
  refine ⟨n, _, h1, h2, h3, hpost _ _ _ _ _ _ ⟨Cond.after_iff.mpr rfl, Cond.after_iff.mpr (eq_i res_at (Term.int_eval (1)) rfl), trivial⟩ ⟨hq.1, hq.2.1, (hq.2.2.sift fun y hy => Or.inr (N y hy)).mono (by decide) (by decide)⟩⟩
theorem main_1_1 : Claimed_1_1 := comes_1 fun _ _ _ _ _ _ h hF => ⟨h.1, hF⟩
theorem main_1_2 : Claimed_1_2 := comes_1 fun _ _ _ _ _ _ h hF => ⟨h.2.1, hF⟩

end Jvm.Pilot.@@N@@
namespace Jvm.Pilot.@@N@@
open Jvm Jvm.ClassFile Sem Op Lib Jvm.Free Jvm.Stand Jvm.Pilot.@@N@@.Jvm.D
/-! MADE BY PROGRAM (witnessworld.py) out of the Statement's table words and the real class files: 13 classes; the members and pool entries that the words name. The judged class is class 1, her method 3. -/
namespace start1
open Jvm.ClassFile
def u (s : String) : CpInfo := .utf8 (stringToUtf16 s)
/-- a pool by its gaps: so many unusable entries, then the entry; so many at the end -/
def gap : Nat → List CpInfo → List CpInfo
  | 0, r => r
  | n + 1, r => .unusable :: gap n r
def poolList (es : List (Nat × CpInfo)) (last : Nat) : List CpInfo := es.foldr (fun e r => gap e.1 (e.2 :: r)) (gap last [])
def pool (es : List (Nat × CpInfo)) (last : Nat) : Array CpInfo := ⟨poolList es last⟩
def fileOf (pool : Array CpInfo) (this : Nat) (attrs : Array Attribute := #[]) (ms : Array MethodInfo := #[]) (fl : Nat := 33) (sup : Nat := 0) (ifs : Array Nat := #[]) (fds : Array FieldInfo := #[]) : ClassFile where
  minorVersion := 0
  majorVersion := 65
  constantPool := pool
  accessFlags := fl
  thisClass := this
  superClass := sup
  interfaces := ifs
  fields := fds
  methods := ms
  attributes := attrs
def plain (name : String) (sup : Option ClassId) : Class where
  name := name
  kind := .ordinary
  loader := none
  accessFlags := 33
  super := sup
  interfaces := #[]
  cf := none
  fields := #[]
  methods := #[]
  instanceTypes := #[]
  staticTypes := #[]
  resolved := #[]
  callSites := []
  init := .initialized
  statics := none
  mirror := none

def pool0 : Array CpInfo := pool [(5, u "<init>"), (0, u "()V"), (1, .class_ 10), (1, u "java/lang/Object")] 113

def k0c0 : Code := { maxStack := 0, maxLocals := 1, code := object_method_1_code, exceptionTable := #[], attributes := #[] }
def k0m0 : Method := { name := "<init>", desc := "()V", sig := { parameters := [], returnType := none }, accessFlags := 1, code := some k0c0 }
/-- java/lang/Object -/
def k0 : Class := { plain "java/lang/Object" none with
  accessFlags := 33
  interfaces := #[]
  cf := some (fileOf pool0 8 #[] #[{ accessFlags := 1, nameIndex := 5, descriptorIndex := 6, attributes := #[] }] 33 0 #[] #[])
  fields := #[]
  methods := #[k0m0]
  instanceTypes := #[]
  staticTypes := #[]
  resolved := Array.replicate 124 none
  statics := none }

def pool1 : Array CpInfo := pool [(2, .class_ 4), (1, u "java/lang/Object"), (0, u "<init>"), (0, u "()V"), (0, .methodref 8 9), (0, .class_ 10), (0, .nameAndType 11 12), (0, u "java/lang/Math"), (0, u "min"), (0, u "(II)I"), (0, .methodref 8 14), (0, .nameAndType 15 12), (0, u "max"), (0, .methodref 17 18), (0, .class_ 19), (0, .nameAndType 20 21), (0, u "com/example/pliant/pliant/ml/CurvatureDotPinLaw"), (0, u "v"), (0, u "(II)D"), (0, .integer 2147483647), (0, .class_ 24), (0, u "com/example/pliant/pliant/ml/Curvature"), (0, .methodref 23 26), (0, .nameAndType 5 27), (0, u "(I)V"), (0, .methodref 23 29), (0, .nameAndType 30 31), (0, u "add"), (0, u "(I[D[D[D)V"), (0, .methodref 23 33), (0, .nameAndType 34 35), (0, u "dot"), (0, u "([DI)D"), (0, .methodref 17 37), (0, .nameAndType 38 39), (0, u "entry"), (0, u "(IIDDDDDD)D"), (3, u "law"), (0, u "(IIII)Z")] 4

def k1m0 : Method := { name := "<init>", desc := "()V", sig := { parameters := [], returnType := none }, accessFlags := 1, code := none }
def k1c1 : Code := { maxStack := 3, maxLocals := 2, code := method_2_code, exceptionTable := #[], attributes := #[] }
def k1m1 : Method := { name := "v", desc := "(II)D", sig := { parameters := [.int, .int], returnType := some .double }, accessFlags := 10, code := some k1c1 }
def k1c2 : Code := { maxStack := 2, maxLocals := 16, code := method_3_code, exceptionTable := #[], attributes := #[] }
def k1m2 : Method := { name := "entry", desc := "(IIDDDDDD)D", sig := { parameters := [.int, .int, .double, .double, .double, .double, .double, .double], returnType := some .double }, accessFlags := 10, code := some k1c2 }
def k1c3 : Code := { maxStack := 18, maxLocals := 33, code := code, exceptionTable := #[], attributes := #[] }
def k1m3 : Method := { name := "law", desc := "(IIII)Z", sig := { parameters := [.int, .int, .int, .int], returnType := some .boolean }, accessFlags := 9, code := some k1c3 }
/-- com/example/pliant/pliant/ml/CurvatureDotPinLaw -/
def k1 : Class := { plain "com/example/pliant/pliant/ml/CurvatureDotPinLaw" (some 0) with
  accessFlags := 49
  interfaces := #[]
  cf := some (fileOf pool1 17 #[] #[{ accessFlags := 1, nameIndex := 5, descriptorIndex := 6, attributes := #[] }, { accessFlags := 10, nameIndex := 20, descriptorIndex := 21, attributes := #[] }, { accessFlags := 10, nameIndex := 38, descriptorIndex := 39, attributes := #[] }, { accessFlags := 9, nameIndex := 43, descriptorIndex := 44, attributes := #[] }] 49 2 #[] #[])
  fields := #[]
  methods := #[k1m0, k1m1, k1m2, k1m3]
  instanceTypes := #[]
  staticTypes := #[]
  resolved := Array.replicate 49 none
  statics := none }

def pool2 : Array CpInfo := pool [(1, .methodref 2 3), (0, .class_ 4), (0, .nameAndType 5 6), (0, u "java/lang/Object"), (0, u "<init>"), (0, u "()V"), (0, .fieldref 8 9), (0, .class_ 10), (0, .nameAndType 11 12), (0, u "com/example/pliant/pliant/ml/Curvature"), (0, u "pairs"), (0, u "[I"), (0, .fieldref 8 14), (0, .nameAndType 15 16), (0, u "history"), (0, u "I"), (0, .class_ 18), (0, u "[[D"), (0, .fieldref 8 20), (0, .nameAndType 21 18), (0, u "dots"), (0, .methodref 8 23), (0, .nameAndType 24 25), (0, u "contains"), (0, u "(I)Z"), (0, .methodref 8 27), (0, .nameAndType 28 29), (0, u "gradient"), (0, u "()I"), (0, .methodref 8 31), (0, .nameAndType 32 33), (0, u "set"), (0, u "(I[D)V"), (0, .methodref 8 35), (0, .nameAndType 36 37), (0, u "step"), (0, u "(I)I"), (0, .methodref 8 39), (0, .nameAndType 40 37), (0, u "change"), (2, u "dot"), (0, u "([DI)D"), (0, u "(I)V"), (8, u "add"), (0, u "(I[D[D[D)V")] 10

def k2c0 : Code := { maxStack := 4, maxLocals := 2, code := prog_94_method_1_code, exceptionTable := #[], attributes := #[] }
def k2m0 : Method := { name := "<init>", desc := "(I)V", sig := { parameters := [.int], returnType := none }, accessFlags := 0, code := some k2c0 }
def k2c1 : Code := { maxStack := 1, maxLocals := 2, code := prog_94_method_3_code, exceptionTable := #[], attributes := #[] }
def k2m1 : Method := { name := "step", desc := "(I)I", sig := { parameters := [.int], returnType := some .int }, accessFlags := 0, code := some k2c1 }
def k2c2 : Code := { maxStack := 2, maxLocals := 2, code := prog_94_method_4_code, exceptionTable := #[], attributes := #[] }
def k2m2 : Method := { name := "change", desc := "(I)I", sig := { parameters := [.int], returnType := some .int }, accessFlags := 0, code := some k2c2 }
def k2c3 : Code := { maxStack := 2, maxLocals := 1, code := prog_94_method_5_code, exceptionTable := #[], attributes := #[] }
def k2m3 : Method := { name := "gradient", desc := "()I", sig := { parameters := [], returnType := some .int }, accessFlags := 0, code := some k2c3 }
def k2c4 : Code := { maxStack := 3, maxLocals := 11, code := prog_94_method_9_code, exceptionTable := #[], attributes := #[] }
def k2m4 : Method := { name := "add", desc := "(I[D[D[D)V", sig := { parameters := [.int, (.array .double), (.array .double), (.array .double)], returnType := none }, accessFlags := 0, code := some k2c4 }
def k2c5 : Code := { maxStack := 6, maxLocals := 6, code := prog_94_method_13_code, exceptionTable := #[], attributes := #[] }
def k2m5 : Method := { name := "dot", desc := "([DI)D", sig := { parameters := [(.array .double), .int], returnType := some .double }, accessFlags := 0, code := some k2c5 }
def k2c6 : Code := { maxStack := 2, maxLocals := 6, code := prog_94_method_14_code, exceptionTable := #[], attributes := #[] }
def k2m6 : Method := { name := "contains", desc := "(I)Z", sig := { parameters := [.int], returnType := some .boolean }, accessFlags := 2, code := some k2c6 }
def k2c7 : Code := { maxStack := 4, maxLocals := 4, code := prog_94_method_15_code, exceptionTable := #[], attributes := #[] }
def k2m7 : Method := { name := "set", desc := "(I[D)V", sig := { parameters := [.int, (.array .double)], returnType := none }, accessFlags := 2, code := some k2c7 }
/-- com/example/pliant/pliant/ml/Curvature -/
def k2 : Class := { plain "com/example/pliant/pliant/ml/Curvature" (some 0) with
  accessFlags := 48
  interfaces := #[]
  cf := some (fileOf pool2 8 #[] #[{ accessFlags := 0, nameIndex := 5, descriptorIndex := 45, attributes := #[] }, { accessFlags := 0, nameIndex := 36, descriptorIndex := 37, attributes := #[] }, { accessFlags := 0, nameIndex := 40, descriptorIndex := 37, attributes := #[] }, { accessFlags := 0, nameIndex := 28, descriptorIndex := 29, attributes := #[] }, { accessFlags := 0, nameIndex := 54, descriptorIndex := 55, attributes := #[] }, { accessFlags := 0, nameIndex := 43, descriptorIndex := 44, attributes := #[] }, { accessFlags := 2, nameIndex := 24, descriptorIndex := 25, attributes := #[] }, { accessFlags := 2, nameIndex := 32, descriptorIndex := 33, attributes := #[] }] 48 2 #[] #[{ accessFlags := 18, nameIndex := 15, descriptorIndex := 16, attributes := #[] }, { accessFlags := 18, nameIndex := 21, descriptorIndex := 18, attributes := #[] }, { accessFlags := 2, nameIndex := 11, descriptorIndex := 12, attributes := #[] }])
  fields := #[{ name := "history", type := .int, accessFlags := 18, slot := 0, constantValue := 0 }, { name := "dots", type := (.array (.array .double)), accessFlags := 18, slot := 1, constantValue := 0 }, { name := "pairs", type := (.array .int), accessFlags := 2, slot := 2, constantValue := 0 }]
  methods := #[k2m0, k2m1, k2m2, k2m3, k2m4, k2m5, k2m6, k2m7]
  instanceTypes := #[.int, (.array (.array .double)), (.array .int)]
  staticTypes := #[]
  resolved := Array.replicate 66 none
  statics := none }

def pool3 : Array CpInfo := pool [(1, .class_ 2), (0, u "java/lang/Math"), (1, .class_ 6), (1, u "java/lang/Object"), (0, u "<init>"), (0, u "()V"), (89, .class_ 100), (1, u "java/lang/Math$RandomNumberGeneratorHolder"), (71, u "negativeZeroFloatBits"), (0, u "J"), (2, u "negativeZeroDoubleBits"), (21, u "max"), (2, u "min"), (43, u "$assertionsDisabled"), (0, u "Z"), (88, u "(II)I"), (2, u "twoToTheDoubleScaleDown"), (0, u "D"), (4, u "twoToTheDoubleScaleUp"), (9, u "E"), (3, u "PI"), (2, u "TAU"), (2, u "DEGREES_TO_RADIANS"), (0, u "RADIANS_TO_DEGREES")] 94

def k3m0 : Method := { name := "<init>", desc := "()V", sig := { parameters := [], returnType := none }, accessFlags := 2, code := none }
def k3c1 : Code := { maxStack := 2, maxLocals := 2, code := jdk_29_method_65_code, exceptionTable := #[], attributes := #[] }
def k3m1 : Method := { name := "max", desc := "(II)I", sig := { parameters := [.int, .int], returnType := some .int }, accessFlags := 9, code := some k3c1 }
def k3c2 : Code := { maxStack := 2, maxLocals := 2, code := jdk_29_method_69_code, exceptionTable := #[], attributes := #[] }
def k3m2 : Method := { name := "min", desc := "(II)I", sig := { parameters := [.int, .int], returnType := some .int }, accessFlags := 9, code := some k3c2 }
/-- java/lang/Math -/
def k3 : Class := { plain "java/lang/Math" (some 0) with
  accessFlags := 49
  interfaces := #[]
  cf := some (fileOf pool3 1 #[.nestMembers #[98]] #[{ accessFlags := 2, nameIndex := 7, descriptorIndex := 8, attributes := #[] }, { accessFlags := 9, nameIndex := 198, descriptorIndex := 335, attributes := #[] }, { accessFlags := 9, nameIndex := 201, descriptorIndex := 335, attributes := #[] }] 49 4 #[] #[{ accessFlags := 25, nameIndex := 354, descriptorIndex := 339, attributes := #[] }, { accessFlags := 25, nameIndex := 358, descriptorIndex := 339, attributes := #[] }, { accessFlags := 25, nameIndex := 361, descriptorIndex := 339, attributes := #[] }, { accessFlags := 26, nameIndex := 364, descriptorIndex := 339, attributes := #[] }, { accessFlags := 26, nameIndex := 365, descriptorIndex := 339, attributes := #[] }, { accessFlags := 26, nameIndex := 172, descriptorIndex := 173, attributes := #[] }, { accessFlags := 26, nameIndex := 176, descriptorIndex := 173, attributes := #[] }, { accessFlags := 8, nameIndex := 344, descriptorIndex := 339, attributes := #[] }, { accessFlags := 8, nameIndex := 338, descriptorIndex := 339, attributes := #[] }, { accessFlags := 4120, nameIndex := 245, descriptorIndex := 246, attributes := #[] }])
  fields := #[{ name := "E", type := .double, accessFlags := 25, slot := 0, constantValue := 0 }, { name := "PI", type := .double, accessFlags := 25, slot := 1, constantValue := 0 }, { name := "TAU", type := .double, accessFlags := 25, slot := 2, constantValue := 0 }, { name := "DEGREES_TO_RADIANS", type := .double, accessFlags := 26, slot := 3, constantValue := 0 }, { name := "RADIANS_TO_DEGREES", type := .double, accessFlags := 26, slot := 4, constantValue := 0 }, { name := "negativeZeroFloatBits", type := .long, accessFlags := 26, slot := 5, constantValue := 0 }, { name := "negativeZeroDoubleBits", type := .long, accessFlags := 26, slot := 6, constantValue := 0 }, { name := "twoToTheDoubleScaleUp", type := .double, accessFlags := 8, slot := 7, constantValue := 0 }, { name := "twoToTheDoubleScaleDown", type := .double, accessFlags := 8, slot := 8, constantValue := 0 }, { name := "$assertionsDisabled", type := .boolean, accessFlags := 4120, slot := 9, constantValue := 0 }]
  methods := #[k3m0, k3m1, k3m2]
  instanceTypes := #[]
  staticTypes := #[.double, .double, .double, .double, .double, .long, .long, .double, .double, .boolean]
  resolved := Array.replicate 460 none
  statics := none }

def pool4 : Array CpInfo := pool [(1, u "java/lang/Cloneable"), (0, .class_ 1), (0, u "java/lang/Object"), (0, .class_ 3)] 3

/-- java/lang/Cloneable -/
def k4 : Class := { plain "java/lang/Cloneable" (some 0) with
  accessFlags := 1537
  interfaces := #[]
  cf := some (fileOf pool4 2 #[] #[] 1537 4 #[] #[])
  fields := #[]
  methods := #[]
  instanceTypes := #[]
  staticTypes := #[]
  resolved := Array.replicate 8 none
  statics := none }

def pool5 : Array CpInfo := pool [(1, u "java/io/Serializable"), (0, .class_ 1), (0, u "java/lang/Object"), (0, .class_ 3)] 3

/-- java/io/Serializable -/
def k5 : Class := { plain "java/io/Serializable" (some 0) with
  accessFlags := 1537
  interfaces := #[]
  cf := some (fileOf pool5 2 #[] #[] 1537 4 #[] #[])
  fields := #[]
  methods := #[]
  instanceTypes := #[]
  staticTypes := #[]
  resolved := Array.replicate 8 none
  statics := none }

/-- the primitive byte -/
def k6 : Class := { plain "byte" none with kind := .primitive 'B', accessFlags := 0x411 }
/-- [B -/
def k7 : Class := { plain "[B" (some 0) with kind := .array 6 .byte, interfaces := #[4, 5], accessFlags := 1041 }

/-- the primitive double -/
def k8 : Class := { plain "double" none with kind := .primitive 'D', accessFlags := 0x411 }
/-- [D -/
def k9 : Class := { plain "[D" (some 0) with kind := .array 8 .double, interfaces := #[4, 5], accessFlags := 1041 }

/-- the primitive int -/
def k10 : Class := { plain "int" none with kind := .primitive 'I', accessFlags := 0x411 }
/-- [I -/
def k11 : Class := { plain "[I" (some 0) with kind := .array 10 .int, interfaces := #[4, 5], accessFlags := 1041 }

/-- [[D -/
def k12 : Class := { plain "[[D" (some 0) with kind := .array 9 (.array .double), interfaces := #[4, 5], accessFlags := 1041 }

def heap : Heap := #[]
def classes : Array Class := #[k0, k1, k2, k3, k4, k5, k6, k7, k8, k9, k10, k11, k12]
def interned : List (Array UInt16 × Addr) := []
def slotsUsed : Nat := 0
def theMethod : MethodId := ⟨1, 3⟩
def args0 : Array Value := #[.int 5, .int 7, .int 0, .int 3]
def aboutOver (below : List Frame) : State where
  vm := { classes := classes, interned := interned.toArray }
  heap := heap
  slotsUsed := slotsUsed
  threads := #[{ frames := .invoking theMethod args0 :: below }]
def below0 : List Frame := [.native { method := ⟨0, 0⟩, args := #[] }]
def about1 : State := aboutOver below0
def p0 : Program := .bare "" "" ""
def e0 : Env := launch0.env 0 0 0
theorem w_frames : about1.frames = Frame.invoking theMethod args0 :: below0 := rfl
set_option maxRecDepth 65536 in
theorem w_args : argsFit about1.vm theMethod args0 = true := by decide +kernel
set_option maxRecDepth 65536 in
theorem w_heap : heapFits about1 = true := by decide +kernel
set_option maxRecDepth 65536 in
theorem w_runnable : about1.curStatus? = some .runnable := by decide +kernel
set_option maxRecDepth 65536 in
theorem w_alone : about1.alone = true := by decide +kernel
set_option maxRecDepth 65536 in
theorem w_named : about1.methodNamed? x = some theMethod := by decide +kernel
set_option maxRecDepth 65536 in
theorem w_hears : about1.hears theMethod below0 = true := by decide +kernel
set_option maxRecDepth 65536 in
theorem w_ripe : about1.ripe theMethod args0 below0 = true := by decide +kernel
theorem w_running : about1.status = .running := rfl
set_option maxRecDepth 65536 in
theorem w_room : about1.hasRoom e0.platform room_1 = true :=
  launch0.hasRoom_least _ room_1 (by decide +kernel) (by decide +kernel) (by decide +kernel) (by decide +kernel) (by decide +kernel) (by decide +kernel)
theorem allAtoms_all (ts : List Jvm.Cond) (a : Array Jvm.Value) (st : Jvm.State) : (allAtoms ts).before a st = ts.all (fun c => c.before a st) := by
  induction ts with
  | nil => rfl
  | cons c t ih =>
    show (Jvm.Cond.and c (allAtoms t)).before a st = _
    rw [Jvm.Cond.before_and, ih, List.all_cons]
def words1 : List Jvm.Cond := Jvm.Cond.code x code maxLocals ret :: tables_1
/-- a 'code' word, met by the world's own term for the bytes: nothing is compared byte by byte -/
theorem code_word {y : MethodName} {bytes : ByteArray} {mx : Nat} {rt : Option FieldType} {a : Array Value} {s : State} {m : MethodId} {meth : Method} {c : Code} (h1 : s.methodNamed? y = some m) (h2 : s.vm.method? m = some meth) (h3 : meth.code = some c) (h4 : c.code = bytes)
    (h5 : (c.maxLocals == mx && c.exceptionTable.isEmpty && decide (c.maxStack ≤ mostOperands) && decide (meth.sig.returnType = rt) && !meth.locks && decide (parseMethodDescriptor y.desc = some meth.sig)) = true) : (Jvm.Cond.code y bytes mx rt).before a s = true := by
  simp only [Bool.and_eq_true, beq_iff_eq, Bool.not_eq_true', decide_eq_true_eq] at h5
  obtain ⟨⟨⟨⟨⟨g1, g2⟩, g3⟩, g4⟩, g5⟩, g6⟩ := h5
  simp [Cond.before, Cond.holds, Cond.value, h1, h2, h3, h4, g1, g2, g3, g4, g5, g6]
def isCode : Jvm.Cond → Bool
  | .code _ _ _ _ => true
  | _ => false
theorem all_split {L : List Jvm.Cond} {P : Jvm.Cond → Bool} (h1 : L.all (fun c => isCode c || P c) = true) (h2 : ∀ c ∈ L.filter isCode, P c = true) : L.all P = true := by
  refine List.all_eq_true.mpr fun c hc => ?_
  have h := List.all_eq_true.mp h1 c hc
  rcases Bool.eq_false_or_eq_true (isCode c) with hi | hi
  · exact h2 c (List.mem_filter.mpr ⟨hc, hi⟩)
  · simpa [hi] using h
set_option maxRecDepth 65536 in
theorem w_c0 : (Jvm.Cond.code x code maxLocals ret).before args0 about1 = true := code_word (m := ⟨1, 3⟩) (meth := k1m3) (c := k1c3) (by decide +kernel) rfl rfl rfl (by decide +kernel)
set_option maxRecDepth 65536 in
theorem w_c1 : (Jvm.Cond.code ({ cls := "com/example/pliant/pliant/ml/CurvatureDotPinLaw", name := "v", desc := "(II)D" } : Jvm.MethodName) method_2_code (2 : Nat) (Option.some Jvm.ClassFile.FieldType.double)).before args0 about1 = true := code_word (m := ⟨1, 1⟩) (meth := k1m1) (c := k1c1) (by decide +kernel) rfl rfl rfl (by decide +kernel)
set_option maxRecDepth 65536 in
theorem w_c2 : (Jvm.Cond.code ({ cls := "com/example/pliant/pliant/ml/Curvature", name := "<init>", desc := "(I)V" } : Jvm.MethodName) prog_94_method_1_code (2 : Nat) (Option.none : Option Jvm.ClassFile.FieldType)).before args0 about1 = true := code_word (m := ⟨2, 0⟩) (meth := k2m0) (c := k2c0) (by decide +kernel) rfl rfl rfl (by decide +kernel)
set_option maxRecDepth 65536 in
theorem w_c3 : (Jvm.Cond.code ({ cls := "java/lang/Object", name := "<init>", desc := "()V" } : Jvm.MethodName) object_method_1_code (1 : Nat) (Option.none : Option Jvm.ClassFile.FieldType)).before args0 about1 = true := code_word (m := ⟨0, 0⟩) (meth := k0m0) (c := k0c0) (by decide +kernel) rfl rfl rfl (by decide +kernel)
set_option maxRecDepth 65536 in
theorem w_c4 : (Jvm.Cond.code ({ cls := "com/example/pliant/pliant/ml/Curvature", name := "add", desc := "(I[D[D[D)V" } : Jvm.MethodName) prog_94_method_9_code (11 : Nat) (Option.none : Option Jvm.ClassFile.FieldType)).before args0 about1 = true := code_word (m := ⟨2, 4⟩) (meth := k2m4) (c := k2c4) (by decide +kernel) rfl rfl rfl (by decide +kernel)
set_option maxRecDepth 65536 in
theorem w_c5 : (Jvm.Cond.code ({ cls := "com/example/pliant/pliant/ml/Curvature", name := "step", desc := "(I)I" } : Jvm.MethodName) prog_94_method_3_code (2 : Nat) (Option.some Jvm.ClassFile.FieldType.int)).before args0 about1 = true := code_word (m := ⟨2, 1⟩) (meth := k2m1) (c := k2c1) (by decide +kernel) rfl rfl rfl (by decide +kernel)
set_option maxRecDepth 65536 in
theorem w_c6 : (Jvm.Cond.code ({ cls := "com/example/pliant/pliant/ml/Curvature", name := "set", desc := "(I[D)V" } : Jvm.MethodName) prog_94_method_15_code (4 : Nat) (Option.none : Option Jvm.ClassFile.FieldType)).before args0 about1 = true := code_word (m := ⟨2, 7⟩) (meth := k2m7) (c := k2c7) (by decide +kernel) rfl rfl rfl (by decide +kernel)
set_option maxRecDepth 65536 in
theorem w_c7 : (Jvm.Cond.code ({ cls := "com/example/pliant/pliant/ml/Curvature", name := "change", desc := "(I)I" } : Jvm.MethodName) prog_94_method_4_code (2 : Nat) (Option.some Jvm.ClassFile.FieldType.int)).before args0 about1 = true := code_word (m := ⟨2, 2⟩) (meth := k2m2) (c := k2c2) (by decide +kernel) rfl rfl rfl (by decide +kernel)
set_option maxRecDepth 65536 in
theorem w_c8 : (Jvm.Cond.code ({ cls := "com/example/pliant/pliant/ml/Curvature", name := "gradient", desc := "()I" } : Jvm.MethodName) prog_94_method_5_code (1 : Nat) (Option.some Jvm.ClassFile.FieldType.int)).before args0 about1 = true := code_word (m := ⟨2, 3⟩) (meth := k2m3) (c := k2c3) (by decide +kernel) rfl rfl rfl (by decide +kernel)
set_option maxRecDepth 65536 in
theorem w_c9 : (Jvm.Cond.code ({ cls := "com/example/pliant/pliant/ml/Curvature", name := "contains", desc := "(I)Z" } : Jvm.MethodName) prog_94_method_14_code (6 : Nat) (Option.some Jvm.ClassFile.FieldType.boolean)).before args0 about1 = true := code_word (m := ⟨2, 6⟩) (meth := k2m6) (c := k2c6) (by decide +kernel) rfl rfl rfl (by decide +kernel)
set_option maxRecDepth 65536 in
theorem w_c10 : (Jvm.Cond.code ({ cls := "com/example/pliant/pliant/ml/Curvature", name := "dot", desc := "([DI)D" } : Jvm.MethodName) prog_94_method_13_code (6 : Nat) (Option.some Jvm.ClassFile.FieldType.double)).before args0 about1 = true := code_word (m := ⟨2, 5⟩) (meth := k2m5) (c := k2c5) (by decide +kernel) rfl rfl rfl (by decide +kernel)
set_option maxRecDepth 65536 in
theorem w_c11 : (Jvm.Cond.code ({ cls := "com/example/pliant/pliant/ml/CurvatureDotPinLaw", name := "entry", desc := "(IIDDDDDD)D" } : Jvm.MethodName) method_3_code (16 : Nat) (Option.some Jvm.ClassFile.FieldType.double)).before args0 about1 = true := code_word (m := ⟨1, 2⟩) (meth := k1m2) (c := k1c2) (by decide +kernel) rfl rfl rfl (by decide +kernel)
set_option maxRecDepth 65536 in
theorem w_c12 : (Jvm.Cond.code ({ cls := "java/lang/Math", name := "min", desc := "(II)I" } : Jvm.MethodName) jdk_29_method_69_code (2 : Nat) (Option.some Jvm.ClassFile.FieldType.int)).before args0 about1 = true := code_word (m := ⟨3, 2⟩) (meth := k3m2) (c := k3c2) (by decide +kernel) rfl rfl rfl (by decide +kernel)
set_option maxRecDepth 65536 in
theorem w_c13 : (Jvm.Cond.code ({ cls := "java/lang/Math", name := "max", desc := "(II)I" } : Jvm.MethodName) jdk_29_method_65_code (2 : Nat) (Option.some Jvm.ClassFile.FieldType.int)).before args0 about1 = true := code_word (m := ⟨3, 1⟩) (meth := k3m1) (c := k3c1) (by decide +kernel) rfl rfl rfl (by decide +kernel)
def codes1 : List Jvm.Cond := [Jvm.Cond.code x code maxLocals ret, Jvm.Cond.code ({ cls := "com/example/pliant/pliant/ml/CurvatureDotPinLaw", name := "v", desc := "(II)D" } : Jvm.MethodName) method_2_code (2 : Nat) (Option.some Jvm.ClassFile.FieldType.double), Jvm.Cond.code ({ cls := "com/example/pliant/pliant/ml/Curvature", name := "<init>", desc := "(I)V" } : Jvm.MethodName) prog_94_method_1_code (2 : Nat) (Option.none : Option Jvm.ClassFile.FieldType), Jvm.Cond.code ({ cls := "java/lang/Object", name := "<init>", desc := "()V" } : Jvm.MethodName) object_method_1_code (1 : Nat) (Option.none : Option Jvm.ClassFile.FieldType), Jvm.Cond.code ({ cls := "com/example/pliant/pliant/ml/Curvature", name := "add", desc := "(I[D[D[D)V" } : Jvm.MethodName) prog_94_method_9_code (11 : Nat) (Option.none : Option Jvm.ClassFile.FieldType), Jvm.Cond.code ({ cls := "com/example/pliant/pliant/ml/Curvature", name := "step", desc := "(I)I" } : Jvm.MethodName) prog_94_method_3_code (2 : Nat) (Option.some Jvm.ClassFile.FieldType.int), Jvm.Cond.code ({ cls := "com/example/pliant/pliant/ml/Curvature", name := "set", desc := "(I[D)V" } : Jvm.MethodName) prog_94_method_15_code (4 : Nat) (Option.none : Option Jvm.ClassFile.FieldType), Jvm.Cond.code ({ cls := "com/example/pliant/pliant/ml/Curvature", name := "change", desc := "(I)I" } : Jvm.MethodName) prog_94_method_4_code (2 : Nat) (Option.some Jvm.ClassFile.FieldType.int), Jvm.Cond.code ({ cls := "com/example/pliant/pliant/ml/Curvature", name := "gradient", desc := "()I" } : Jvm.MethodName) prog_94_method_5_code (1 : Nat) (Option.some Jvm.ClassFile.FieldType.int), Jvm.Cond.code ({ cls := "com/example/pliant/pliant/ml/Curvature", name := "contains", desc := "(I)Z" } : Jvm.MethodName) prog_94_method_14_code (6 : Nat) (Option.some Jvm.ClassFile.FieldType.boolean), Jvm.Cond.code ({ cls := "com/example/pliant/pliant/ml/Curvature", name := "dot", desc := "([DI)D" } : Jvm.MethodName) prog_94_method_13_code (6 : Nat) (Option.some Jvm.ClassFile.FieldType.double), Jvm.Cond.code ({ cls := "com/example/pliant/pliant/ml/CurvatureDotPinLaw", name := "entry", desc := "(IIDDDDDD)D" } : Jvm.MethodName) method_3_code (16 : Nat) (Option.some Jvm.ClassFile.FieldType.double), Jvm.Cond.code ({ cls := "java/lang/Math", name := "min", desc := "(II)I" } : Jvm.MethodName) jdk_29_method_69_code (2 : Nat) (Option.some Jvm.ClassFile.FieldType.int), Jvm.Cond.code ({ cls := "java/lang/Math", name := "max", desc := "(II)I" } : Jvm.MethodName) jdk_29_method_65_code (2 : Nat) (Option.some Jvm.ClassFile.FieldType.int)]
set_option maxRecDepth 65536 in
theorem codes_eq : words1.filter isCode = codes1 := rfl
theorem w_codes : ∀ c ∈ words1.filter isCode, c.before args0 about1 = true := by
  rw [codes_eq]
  intro c hc
  simp only [codes1, List.mem_cons, List.not_mem_nil, or_false] at hc
  rcases hc with rfl | rfl | rfl | rfl | rfl | rfl | rfl | rfl | rfl | rfl | rfl | rfl | rfl | rfl
  · exact w_c0
  · exact w_c1
  · exact w_c2
  · exact w_c3
  · exact w_c4
  · exact w_c5
  · exact w_c6
  · exact w_c7
  · exact w_c8
  · exact w_c9
  · exact w_c10
  · exact w_c11
  · exact w_c12
  · exact w_c13
set_option maxRecDepth 65536 in
theorem w_t1 : (words1.take 24).all (fun c => isCode c || c.before args0 about1) = true := by decide +kernel
set_option maxRecDepth 65536 in
theorem w_t2 : ((words1.drop 24).take 24).all (fun c => isCode c || c.before args0 about1) = true := by decide +kernel
set_option maxRecDepth 65536 in
theorem w_t3 : ((words1.drop 24).drop 24).all (fun c => isCode c || c.before args0 about1) = true := by decide +kernel
theorem w_tables : (allAtoms (Jvm.Cond.code x code maxLocals ret :: tables_1)).before args0 about1 = true := by
  rw [allAtoms_all]
  show words1.all (fun c => c.before args0 about1) = true
  refine all_split ?_ w_codes
  rw [← List.take_append_drop 24 words1, List.all_append, w_t1, ← List.take_append_drop 24 (words1.drop 24), List.all_append, w_t2, w_t3]
  rfl
set_option maxRecDepth 65536 in
theorem w_case : (Jvm.Cond.and given_1 narrow_1).before args0 about1 = true := by decide +kernel
theorem w_applies : (headSpec (Jvm.Cond.code x code maxLocals ret :: tables_1) room_1).applies x e0.platform about1 = true :=
  (Spec.applies_iff w_frames).mpr ⟨w_running, w_runnable, w_alone, w_named, w_hears, w_ripe, w_room, w_tables⟩
theorem atStart : AtStart classFile x code maxLocals ret World_1 tables_1 room_1 Calls_1 rest_1 Pre_1 launch0 p0 e0 about1 theMethod args0 below0 :=
  ⟨lists_1, trivial, launch0.admits_env _ _ _, launch0.least_env, fairChoices_fair.cas, fairChoices_fair.clock, w_frames, w_args, w_heap, w_applies, trivial, trivial, w_case⟩
end start1
theorem witness_1 : WitnessClaimed_1 := ⟨start1.p0, start1.e0, start1.about1, start1.theMethod, start1.args0, start1.below0, start1.atStart⟩
end Jvm.Pilot.@@N@@
