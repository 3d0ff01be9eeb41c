import JvmDerived
import JvmDerived.Pilot.@@N@@Statement
import JvmDerived.Pilot.@@N@@Code
set_option linter.unusedVariables false
set_option linter.unusedSimpArgs false
namespace Jvm.Own
open Sem ClassFile Op Lib Jvm.Stand Jvm.Free Jvm.LawKit Jvm.RoadKit Jvm.Free.Fl
/-- where a walk stands -/
def St (p : Program) (l : Launch) (e : Env) (R : Room) (s : State) (m : MethodId) (args : Array Value) (below : List Frame) (meth : Method) (c : Code) (Z : State) (B : ByteArray) (own nm : String) (ml : Nat) (ret : Option FieldType) (n0 : Nat) (T : State) (h : Heap) (k n : Nat) : Prop :=
  (p.tables.exec = Jvm.exec ∧ c.code = B ∧ Z.Warmed39 s.vm ∧ s.vm.findClass own = some m.cls ∧ c.maxLocals = ml ∧ meth.sig.returnType = ret ∧ meth.locks = false ∧ meth.name = nm) ∧ ∃ locs, Stand p l e R s m args below meth c T locs k n ∧ T.heap = h ∧ Fr n0 locs
/-- what is left to show of a walk: it ends, and what it leaves is Q -/
def Go (p : Program) (e : Env) (below : List Frame) (s : State) (n0 : Nat) (Q : Option Value → Heap → Prop) (kC kS : Nat) (t : State) : Prop :=
  ∃ s₂ o, Steps p.tables e below t s₂ ∧ s₂.status = .running ∧ Ended s₂ below o ∧ ∃ v L, o = .returned v ∧ (Q v s₂.heap ∧ Fr n0 L) ∧ FrameEnd s o s₂ L kC kS
/-- a body's contract -/
def Con (l : Launch) (Z : State) (y : MethodName) (ws : List Jvm.Cond) (B : ByteArray) (ml : Nat) (ret : Option FieldType) (rm : Room) (as : Array Value) (h0 : Heap) (n0 : Nat) (Q : Option Value → Heap → Prop) : Prop :=
  MetFree l y (head1 (Cond.code y B ml ret :: ws) rm) (fun a U => a = as ∧ Z.Warmed39 U.vm ∧ U.heap = h0) (fun _ _ _ _ _ => True) (fun _ U o U' => ∃ v L, o = .returned v ∧ (Q v U'.heap ∧ Fr n0 L) ∧ FrameEnd U o U' L rm.cells rm.slots)
theorem wd {ws : List Jvm.Cond} {a0 : Array Value} {Z : State} (hw : ∀ d ∈ ws, d.before a0 Z = true) (i : Nat) {d : Jvm.Cond} (q : ws[i]? = some d) : d.before a0 Z = true := hw d (List.mem_of_getElem? q)
section Kit
variable {p : Program} {l : Launch} {e : Env} {R : Room} {s : State} {m : MethodId} {args : Array Value} {below : List Frame} {meth : Method} {c : Code} {Z : State} {B : ByteArray} {own nm : String} {ml : Nat} {ret : Option FieldType} {n0 : Nat} {T : State} {h : Heap} {k n : Nat} {Q : Option Value → Heap → Prop} {kC kS : Nat}
theorem Go.st {t t' : State} (r : Go p e below s n0 Q kC kS t') (q : ∀ u, Steps p.tables e below t' u → Steps p.tables e below t u) : Go p e below s n0 Q kC kS t := by
  obtain ⟨s₂, o, h1, h2⟩ := r; exact ⟨s₂, o, q _ h1, h2⟩
theorem St.more {k' n' : Nat} (X : St p l e R s m args below meth c Z B own nm ml ret n0 T h k n) (hk : k ≤ k') (hn : n ≤ n') : St p l e R s m args below meth c Z B own nm ml ret n0 T h k' n' := by
  obtain ⟨q, locs, X, r⟩ := X; exact ⟨q, locs, X.more hk hn, r⟩
theorem St.z (X : St p l e R s m args below meth c Z B own nm ml ret n0 T h k n) : Z.Warmed39 s.vm := X.1.2.2.1

theorem iloadN (X : St p l e R s m args below meth c Z B own nm ml ret n0 T h k n) {pc : Nat} {Ls : Array Slot} {st : List Value} {j : Fin 4} {v : Int32} (hd : decode B pc = .ok (.iload_n j, 1)) (hl : Ls[j.val]? = some (.val (.int v)))
    (r : Go p e below s n0 Q kC kS (T.setTop (mkF m (pc + 1) Ls (.int v :: st)))) : Go p e below s n0 Q kC kS (T.setTop (mkF m pc Ls (st))) := by
  obtain ⟨⟨hx, rfl, -⟩, locs, X, -⟩ := X
  exact r.st fun u kk => XS.iloadN X.here hx rfl hd hl kk
theorem iload (X : St p l e R s m args below meth c Z B own nm ml ret n0 T h k n) {pc : Nat} {Ls : Array Slot} {st : List Value} {j : Nat} {v : Int32} (hd : decode B pc = .ok (.iload j, 2)) (hl : Ls[j]? = some (.val (.int v)))
    (r : Go p e below s n0 Q kC kS (T.setTop (mkF m (pc + 2) Ls (.int v :: st)))) : Go p e below s n0 Q kC kS (T.setTop (mkF m pc Ls (st))) := by
  obtain ⟨⟨hx, rfl, -⟩, locs, X, -⟩ := X
  exact r.st fun u kk => XS.iload X.here hx rfl hd hl kk
theorem istoreN (X : St p l e R s m args below meth c Z B own nm ml ret n0 T h k n) {pc : Nat} {Ls : Array Slot} {st : List Value} {j : Fin 4} {v : Int32} {l' : Array Slot} (hd : decode B pc = .ok (.istore_n j, 1)) (hl : storeLocals Ls j.val (.int v) = some l')
    (r : Go p e below s n0 Q kC kS (T.setTop (mkF m (pc + 1) l' (st)))) : Go p e below s n0 Q kC kS (T.setTop (mkF m pc Ls (.int v :: st))) := by
  obtain ⟨⟨hx, rfl, -⟩, locs, X, -⟩ := X
  exact r.st fun u kk => XS.istoreN X.here hx rfl hd rfl hl kk
theorem istore (X : St p l e R s m args below meth c Z B own nm ml ret n0 T h k n) {pc : Nat} {Ls : Array Slot} {st : List Value} {j : Nat} {v : Int32} {l' : Array Slot} (hd : decode B pc = .ok (.istore j, 2)) (hl : storeLocals Ls j (.int v) = some l')
    (r : Go p e below s n0 Q kC kS (T.setTop (mkF m (pc + 2) l' (st)))) : Go p e below s n0 Q kC kS (T.setTop (mkF m pc Ls (.int v :: st))) := by
  obtain ⟨⟨hx, rfl, -⟩, locs, X, -⟩ := X
  exact r.st fun u kk => XS.istore X.here hx rfl hd rfl hl kk
theorem lloadN (X : St p l e R s m args below meth c Z B own nm ml ret n0 T h k n) {pc : Nat} {Ls : Array Slot} {st : List Value} {j : Fin 4} {v : Int64} (hd : decode B pc = .ok (.lload_n j, 1)) (hl : Ls[j.val]? = some (.val (.long v)))
    (r : Go p e below s n0 Q kC kS (T.setTop (mkF m (pc + 1) Ls (.long v :: st)))) : Go p e below s n0 Q kC kS (T.setTop (mkF m pc Ls (st))) := by
  obtain ⟨⟨hx, rfl, -⟩, locs, X, -⟩ := X
  exact r.st fun u kk => XS.lloadN X.here hx rfl hd hl kk
theorem lload (X : St p l e R s m args below meth c Z B own nm ml ret n0 T h k n) {pc : Nat} {Ls : Array Slot} {st : List Value} {j : Nat} {v : Int64} (hd : decode B pc = .ok (.lload j, 2)) (hl : Ls[j]? = some (.val (.long v)))
    (r : Go p e below s n0 Q kC kS (T.setTop (mkF m (pc + 2) Ls (.long v :: st)))) : Go p e below s n0 Q kC kS (T.setTop (mkF m pc Ls (st))) := by
  obtain ⟨⟨hx, rfl, -⟩, locs, X, -⟩ := X
  exact r.st fun u kk => XS.lload X.here hx rfl hd hl kk
theorem lstoreN (X : St p l e R s m args below meth c Z B own nm ml ret n0 T h k n) {pc : Nat} {Ls : Array Slot} {st : List Value} {j : Fin 4} {v : Int64} {l' : Array Slot} (hd : decode B pc = .ok (.lstore_n j, 1)) (hl : storeLocals Ls j.val (.long v) = some l')
    (r : Go p e below s n0 Q kC kS (T.setTop (mkF m (pc + 1) l' (st)))) : Go p e below s n0 Q kC kS (T.setTop (mkF m pc Ls (.long v :: st))) := by
  obtain ⟨⟨hx, rfl, -⟩, locs, X, -⟩ := X
  exact r.st fun u kk => XS.lstoreN X.here hx rfl hd rfl hl kk
theorem lstore (X : St p l e R s m args below meth c Z B own nm ml ret n0 T h k n) {pc : Nat} {Ls : Array Slot} {st : List Value} {j : Nat} {v : Int64} {l' : Array Slot} (hd : decode B pc = .ok (.lstore j, 2)) (hl : storeLocals Ls j (.long v) = some l')
    (r : Go p e below s n0 Q kC kS (T.setTop (mkF m (pc + 2) l' (st)))) : Go p e below s n0 Q kC kS (T.setTop (mkF m pc Ls (.long v :: st))) := by
  obtain ⟨⟨hx, rfl, -⟩, locs, X, -⟩ := X
  exact r.st fun u kk => XS.lstore X.here hx rfl hd rfl hl kk
theorem dloadN (X : St p l e R s m args below meth c Z B own nm ml ret n0 T h k n) {pc : Nat} {Ls : Array Slot} {st : List Value} {j : Fin 4} {v : UInt64} (hd : decode B pc = .ok (.dload_n j, 1)) (hl : Ls[j.val]? = some (.val (.double v)))
    (r : Go p e below s n0 Q kC kS (T.setTop (mkF m (pc + 1) Ls (.double v :: st)))) : Go p e below s n0 Q kC kS (T.setTop (mkF m pc Ls (st))) := by
  obtain ⟨⟨hx, rfl, -⟩, locs, X, -⟩ := X
  exact r.st fun u kk => XS.dloadN X.here hx rfl hd hl kk
theorem dload (X : St p l e R s m args below meth c Z B own nm ml ret n0 T h k n) {pc : Nat} {Ls : Array Slot} {st : List Value} {j : Nat} {v : UInt64} (hd : decode B pc = .ok (.dload j, 2)) (hl : Ls[j]? = some (.val (.double v)))
    (r : Go p e below s n0 Q kC kS (T.setTop (mkF m (pc + 2) Ls (.double v :: st)))) : Go p e below s n0 Q kC kS (T.setTop (mkF m pc Ls (st))) := by
  obtain ⟨⟨hx, rfl, -⟩, locs, X, -⟩ := X
  exact r.st fun u kk => XS.dload X.here hx rfl hd hl kk
theorem dstoreN (X : St p l e R s m args below meth c Z B own nm ml ret n0 T h k n) {pc : Nat} {Ls : Array Slot} {st : List Value} {j : Fin 4} {v : UInt64} {l' : Array Slot} (hd : decode B pc = .ok (.dstore_n j, 1)) (hl : storeLocals Ls j.val (.double v) = some l')
    (r : Go p e below s n0 Q kC kS (T.setTop (mkF m (pc + 1) l' (st)))) : Go p e below s n0 Q kC kS (T.setTop (mkF m pc Ls (.double v :: st))) := by
  obtain ⟨⟨hx, rfl, -⟩, locs, X, -⟩ := X
  exact r.st fun u kk => XS.dstoreN X.here hx rfl hd rfl hl kk
theorem dstore (X : St p l e R s m args below meth c Z B own nm ml ret n0 T h k n) {pc : Nat} {Ls : Array Slot} {st : List Value} {j : Nat} {v : UInt64} {l' : Array Slot} (hd : decode B pc = .ok (.dstore j, 2)) (hl : storeLocals Ls j (.double v) = some l')
    (r : Go p e below s n0 Q kC kS (T.setTop (mkF m (pc + 2) l' (st)))) : Go p e below s n0 Q kC kS (T.setTop (mkF m pc Ls (.double v :: st))) := by
  obtain ⟨⟨hx, rfl, -⟩, locs, X, -⟩ := X
  exact r.st fun u kk => XS.dstore X.here hx rfl hd rfl hl kk
theorem aloadN (X : St p l e R s m args below meth c Z B own nm ml ret n0 T h k n) {pc : Nat} {Ls : Array Slot} {st : List Value} {j : Fin 4} {v : Value} (hd : decode B pc = .ok (.aload_n j, 1)) (hl : Ls[j.val]? = some (.val v)) (hv : v.isRef = true)
    (r : Go p e below s n0 Q kC kS (T.setTop (mkF m (pc + 1) Ls (v :: st)))) : Go p e below s n0 Q kC kS (T.setTop (mkF m pc Ls (st))) := by
  obtain ⟨⟨hx, rfl, -⟩, locs, X, -⟩ := X
  exact r.st fun u kk => XS.aloadN X.here hx rfl hd hl hv kk
theorem aload (X : St p l e R s m args below meth c Z B own nm ml ret n0 T h k n) {pc : Nat} {Ls : Array Slot} {st : List Value} {j : Nat} {v : Value} (hd : decode B pc = .ok (.aload j, 2)) (hl : Ls[j]? = some (.val v)) (hv : v.isRef = true)
    (r : Go p e below s n0 Q kC kS (T.setTop (mkF m (pc + 2) Ls (v :: st)))) : Go p e below s n0 Q kC kS (T.setTop (mkF m pc Ls (st))) := by
  obtain ⟨⟨hx, rfl, -⟩, locs, X, -⟩ := X
  exact r.st fun u kk => XS.aload X.here hx rfl hd hl hv kk
theorem astoreN (X : St p l e R s m args below meth c Z B own nm ml ret n0 T h k n) {pc : Nat} {Ls : Array Slot} {st : List Value} {j : Fin 4} {v : Value} {l' : Array Slot} (hd : decode B pc = .ok (.astore_n j, 1)) (hv : v.isRef = true) (hl : storeLocals Ls j.val v = some l')
    (r : Go p e below s n0 Q kC kS (T.setTop (mkF m (pc + 1) l' (st)))) : Go p e below s n0 Q kC kS (T.setTop (mkF m pc Ls (v :: st))) := by
  obtain ⟨⟨hx, rfl, -⟩, locs, X, -⟩ := X
  exact r.st fun u kk => XS.astoreN X.here hx rfl hd rfl hv hl kk
theorem astore (X : St p l e R s m args below meth c Z B own nm ml ret n0 T h k n) {pc : Nat} {Ls : Array Slot} {st : List Value} {j : Nat} {v : Value} {l' : Array Slot} (hd : decode B pc = .ok (.astore j, 2)) (hv : v.isRef = true) (hl : storeLocals Ls j v = some l')
    (r : Go p e below s n0 Q kC kS (T.setTop (mkF m (pc + 2) l' (st)))) : Go p e below s n0 Q kC kS (T.setTop (mkF m pc Ls (v :: st))) := by
  obtain ⟨⟨hx, rfl, -⟩, locs, X, -⟩ := X
  exact r.st fun u kk => XS.astore X.here hx rfl hd rfl hv hl kk
theorem iconst (X : St p l e R s m args below meth c Z B own nm ml ret n0 T h k n) {pc : Nat} {Ls : Array Slot} {st : List Value} {i : Int} (v : Int32) (hd : decode B pc = .ok (.iconst i, 1)) (hv : Int32.ofInt i = v)
    (r : Go p e below s n0 Q kC kS (T.setTop (mkF m (pc + 1) Ls (.int v :: st)))) : Go p e below s n0 Q kC kS (T.setTop (mkF m pc Ls (st))) := by
  obtain ⟨⟨hx, rfl, -⟩, locs, X, -⟩ := X
  subst hv
  exact r.st fun u kk => XS.iconst X.here hx rfl hd kk
theorem bipush (X : St p l e R s m args below meth c Z B own nm ml ret n0 T h k n) {pc : Nat} {Ls : Array Slot} {st : List Value} {i : Int} (v : Int32) (hd : decode B pc = .ok (.bipush i, 2)) (hv : (Int8.ofInt i).toInt32 = v)
    (r : Go p e below s n0 Q kC kS (T.setTop (mkF m (pc + 2) Ls (.int v :: st)))) : Go p e below s n0 Q kC kS (T.setTop (mkF m pc Ls (st))) := by
  obtain ⟨⟨hx, rfl, -⟩, locs, X, -⟩ := X
  subst hv
  exact r.st fun u kk => XS.bipush X.here hx rfl hd kk
theorem sipush (X : St p l e R s m args below meth c Z B own nm ml ret n0 T h k n) {pc : Nat} {Ls : Array Slot} {st : List Value} {i : Int} (v : Int32) (hd : decode B pc = .ok (.sipush i, 3)) (hv : (Int16.ofInt i).toInt32 = v)
    (r : Go p e below s n0 Q kC kS (T.setTop (mkF m (pc + 3) Ls (.int v :: st)))) : Go p e below s n0 Q kC kS (T.setTop (mkF m pc Ls (st))) := by
  obtain ⟨⟨hx, rfl, -⟩, locs, X, -⟩ := X
  subst hv
  exact r.st fun u kk => XS.sipush X.here hx rfl hd kk
theorem lconst (X : St p l e R s m args below meth c Z B own nm ml ret n0 T h k n) {pc : Nat} {Ls : Array Slot} {st : List Value} {i : Fin 2} (v : Int64) (hd : decode B pc = .ok (.lconst i, 1)) (hv : Int64.ofNat i = v)
    (r : Go p e below s n0 Q kC kS (T.setTop (mkF m (pc + 1) Ls (.long v :: st)))) : Go p e below s n0 Q kC kS (T.setTop (mkF m pc Ls (st))) := by
  obtain ⟨⟨hx, rfl, -⟩, locs, X, -⟩ := X
  subst hv
  exact r.st fun u kk => XS.lconst X.here hx rfl hd kk
theorem dconst0 (X : St p l e R s m args below meth c Z B own nm ml ret n0 T h k n) {pc : Nat} {Ls : Array Slot} {st : List Value}  (hd : decode B pc = .ok (.dconst 0, 1)) 
    (r : Go p e below s n0 Q kC kS (T.setTop (mkF m (pc + 1) Ls (.double 0 :: st)))) : Go p e below s n0 Q kC kS (T.setTop (mkF m pc Ls (st))) := by
  obtain ⟨⟨hx, rfl, -⟩, locs, X, -⟩ := X
  exact r.st fun u kk => XS.dconst0 X.here hx rfl hd rfl kk
theorem dconst1 (X : St p l e R s m args below meth c Z B own nm ml ret n0 T h k n) {pc : Nat} {Ls : Array Slot} {st : List Value}  (hd : decode B pc = .ok (.dconst 1, 1)) 
    (r : Go p e below s n0 Q kC kS (T.setTop (mkF m (pc + 1) Ls (.double 4607182418800017408 :: st)))) : Go p e below s n0 Q kC kS (T.setTop (mkF m pc Ls (st))) := by
  obtain ⟨⟨hx, rfl, -⟩, locs, X, -⟩ := X
  exact r.st fun u kk => XS.dconst1 X.here hx rfl hd rfl kk
theorem aconstNull (X : St p l e R s m args below meth c Z B own nm ml ret n0 T h k n) {pc : Nat} {Ls : Array Slot} {st : List Value}  (hd : decode B pc = .ok (.aconst_null, 1)) 
    (r : Go p e below s n0 Q kC kS (T.setTop (mkF m (pc + 1) Ls (.null :: st)))) : Go p e below s n0 Q kC kS (T.setTop (mkF m pc Ls (st))) := by
  obtain ⟨⟨hx, rfl, -⟩, locs, X, -⟩ := X
  exact r.st fun u kk => XS.aconstNull X.here hx rfl hd kk
theorem iadd (X : St p l e R s m args below meth c Z B own nm ml ret n0 T h k n) {pc : Nat} {Ls : Array Slot} {st : List Value} {x y : Int32} (hd : decode B pc = .ok (.iadd, 1)) 
    (r : Go p e below s n0 Q kC kS (T.setTop (mkF m (pc + 1) Ls (.int (x + y) :: st)))) : Go p e below s n0 Q kC kS (T.setTop (mkF m pc Ls (.int y :: .int x :: st))) := by
  obtain ⟨⟨hx, rfl, -⟩, locs, X, -⟩ := X
  exact r.st fun u kk => XS.iadd X.here hx rfl hd rfl kk
theorem isub (X : St p l e R s m args below meth c Z B own nm ml ret n0 T h k n) {pc : Nat} {Ls : Array Slot} {st : List Value} {x y : Int32} (hd : decode B pc = .ok (.isub, 1)) 
    (r : Go p e below s n0 Q kC kS (T.setTop (mkF m (pc + 1) Ls (.int (x - y) :: st)))) : Go p e below s n0 Q kC kS (T.setTop (mkF m pc Ls (.int y :: .int x :: st))) := by
  obtain ⟨⟨hx, rfl, -⟩, locs, X, -⟩ := X
  exact r.st fun u kk => XS.isub X.here hx rfl hd rfl kk
theorem imul (X : St p l e R s m args below meth c Z B own nm ml ret n0 T h k n) {pc : Nat} {Ls : Array Slot} {st : List Value} {x y : Int32} (hd : decode B pc = .ok (.imul, 1)) 
    (r : Go p e below s n0 Q kC kS (T.setTop (mkF m (pc + 1) Ls (.int (x * y) :: st)))) : Go p e below s n0 Q kC kS (T.setTop (mkF m pc Ls (.int y :: .int x :: st))) := by
  obtain ⟨⟨hx, rfl, -⟩, locs, X, -⟩ := X
  exact r.st fun u kk => XS.imul X.here hx rfl hd rfl kk
theorem iand (X : St p l e R s m args below meth c Z B own nm ml ret n0 T h k n) {pc : Nat} {Ls : Array Slot} {st : List Value} {x y : Int32} (hd : decode B pc = .ok (.iand, 1)) 
    (r : Go p e below s n0 Q kC kS (T.setTop (mkF m (pc + 1) Ls (.int (x &&& y) :: st)))) : Go p e below s n0 Q kC kS (T.setTop (mkF m pc Ls (.int y :: .int x :: st))) := by
  obtain ⟨⟨hx, rfl, -⟩, locs, X, -⟩ := X
  exact r.st fun u kk => XS.iand X.here hx rfl hd rfl kk
theorem ior (X : St p l e R s m args below meth c Z B own nm ml ret n0 T h k n) {pc : Nat} {Ls : Array Slot} {st : List Value} {x y : Int32} (hd : decode B pc = .ok (.ior, 1)) 
    (r : Go p e below s n0 Q kC kS (T.setTop (mkF m (pc + 1) Ls (.int (x ||| y) :: st)))) : Go p e below s n0 Q kC kS (T.setTop (mkF m pc Ls (.int y :: .int x :: st))) := by
  obtain ⟨⟨hx, rfl, -⟩, locs, X, -⟩ := X
  exact r.st fun u kk => Jvm.Free.XT.ior X.here hx rfl hd rfl kk
theorem ixor (X : St p l e R s m args below meth c Z B own nm ml ret n0 T h k n) {pc : Nat} {Ls : Array Slot} {st : List Value} {x y : Int32} (hd : decode B pc = .ok (.ixor, 1)) 
    (r : Go p e below s n0 Q kC kS (T.setTop (mkF m (pc + 1) Ls (.int (x ^^^ y) :: st)))) : Go p e below s n0 Q kC kS (T.setTop (mkF m pc Ls (.int y :: .int x :: st))) := by
  obtain ⟨⟨hx, rfl, -⟩, locs, X, -⟩ := X
  exact r.st fun u kk => Jvm.Free.XT.ixor X.here hx rfl hd rfl kk
theorem ishl (X : St p l e R s m args below meth c Z B own nm ml ret n0 T h k n) {pc : Nat} {Ls : Array Slot} {st : List Value} {x y : Int32} (hd : decode B pc = .ok (.ishl, 1)) 
    (r : Go p e below s n0 Q kC kS (T.setTop (mkF m (pc + 1) Ls (.int (x <<< (y &&& 31)) :: st)))) : Go p e below s n0 Q kC kS (T.setTop (mkF m pc Ls (.int y :: .int x :: st))) := by
  obtain ⟨⟨hx, rfl, -⟩, locs, X, -⟩ := X
  exact r.st fun u kk => Jvm.Free.XT.ishl X.here hx rfl hd rfl kk
theorem ishr (X : St p l e R s m args below meth c Z B own nm ml ret n0 T h k n) {pc : Nat} {Ls : Array Slot} {st : List Value} {x y : Int32} (hd : decode B pc = .ok (.ishr, 1)) 
    (r : Go p e below s n0 Q kC kS (T.setTop (mkF m (pc + 1) Ls (.int (x >>> (y &&& 31)) :: st)))) : Go p e below s n0 Q kC kS (T.setTop (mkF m pc Ls (.int y :: .int x :: st))) := by
  obtain ⟨⟨hx, rfl, -⟩, locs, X, -⟩ := X
  exact r.st fun u kk => Jvm.Free.XT.ishr X.here hx rfl hd rfl kk
theorem iushr (X : St p l e R s m args below meth c Z B own nm ml ret n0 T h k n) {pc : Nat} {Ls : Array Slot} {st : List Value} {x y : Int32} (hd : decode B pc = .ok (.iushr, 1)) 
    (r : Go p e below s n0 Q kC kS (T.setTop (mkF m (pc + 1) Ls (.int (Jvm.Free.XT.ushr x y) :: st)))) : Go p e below s n0 Q kC kS (T.setTop (mkF m pc Ls (.int y :: .int x :: st))) := by
  obtain ⟨⟨hx, rfl, -⟩, locs, X, -⟩ := X
  exact r.st fun u kk => Jvm.Free.XT.iushr X.here hx rfl hd rfl kk
theorem irem (X : St p l e R s m args below meth c Z B own nm ml ret n0 T h k n) {pc : Nat} {Ls : Array Slot} {st : List Value} {x y : Int32} (hd : decode B pc = .ok (.irem, 1)) (hy : y ≠ 0)
    (r : Go p e below s n0 Q kC kS (T.setTop (mkF m (pc + 1) Ls (.int (x % y) :: st)))) : Go p e below s n0 Q kC kS (T.setTop (mkF m pc Ls (.int y :: .int x :: st))) := by
  obtain ⟨⟨hx, rfl, -⟩, locs, X, -⟩ := X
  exact r.st fun u kk => iremM X hx rfl hd rfl hy kk
theorem ladd (X : St p l e R s m args below meth c Z B own nm ml ret n0 T h k n) {pc : Nat} {Ls : Array Slot} {st : List Value} {x y : Int64} (hd : decode B pc = .ok (.ladd, 1)) 
    (r : Go p e below s n0 Q kC kS (T.setTop (mkF m (pc + 1) Ls (.long (x + y) :: st)))) : Go p e below s n0 Q kC kS (T.setTop (mkF m pc Ls (.long y :: .long x :: st))) := by
  obtain ⟨⟨hx, rfl, -⟩, locs, X, -⟩ := X
  exact r.st fun u kk => Jvm.Free.XT.ladd X.here hx rfl hd rfl kk
theorem lsub (X : St p l e R s m args below meth c Z B own nm ml ret n0 T h k n) {pc : Nat} {Ls : Array Slot} {st : List Value} {x y : Int64} (hd : decode B pc = .ok (.lsub, 1)) 
    (r : Go p e below s n0 Q kC kS (T.setTop (mkF m (pc + 1) Ls (.long (x - y) :: st)))) : Go p e below s n0 Q kC kS (T.setTop (mkF m pc Ls (.long y :: .long x :: st))) := by
  obtain ⟨⟨hx, rfl, -⟩, locs, X, -⟩ := X
  exact r.st fun u kk => Jvm.Free.XT.lsub X.here hx rfl hd rfl kk
theorem lmul (X : St p l e R s m args below meth c Z B own nm ml ret n0 T h k n) {pc : Nat} {Ls : Array Slot} {st : List Value} {x y : Int64} (hd : decode B pc = .ok (.lmul, 1)) 
    (r : Go p e below s n0 Q kC kS (T.setTop (mkF m (pc + 1) Ls (.long (x * y) :: st)))) : Go p e below s n0 Q kC kS (T.setTop (mkF m pc Ls (.long y :: .long x :: st))) := by
  obtain ⟨⟨hx, rfl, -⟩, locs, X, -⟩ := X
  exact r.st fun u kk => Jvm.Free.XT.lmul X.here hx rfl hd rfl kk
theorem land (X : St p l e R s m args below meth c Z B own nm ml ret n0 T h k n) {pc : Nat} {Ls : Array Slot} {st : List Value} {x y : Int64} (hd : decode B pc = .ok (.land, 1)) 
    (r : Go p e below s n0 Q kC kS (T.setTop (mkF m (pc + 1) Ls (.long (x &&& y) :: st)))) : Go p e below s n0 Q kC kS (T.setTop (mkF m pc Ls (.long y :: .long x :: st))) := by
  obtain ⟨⟨hx, rfl, -⟩, locs, X, -⟩ := X
  exact r.st fun u kk => Jvm.Free.XT.land X.here hx rfl hd rfl kk
theorem lrem (X : St p l e R s m args below meth c Z B own nm ml ret n0 T h k n) {pc : Nat} {Ls : Array Slot} {st : List Value} {x y : Int64} (hd : decode B pc = .ok (.lrem, 1)) (hy : y ≠ 0)
    (r : Go p e below s n0 Q kC kS (T.setTop (mkF m (pc + 1) Ls (.long (x - (x / y) * y) :: st)))) : Go p e below s n0 Q kC kS (T.setTop (mkF m pc Ls (.long y :: .long x :: st))) := by
  obtain ⟨⟨hx, rfl, -⟩, locs, X, -⟩ := X
  exact r.st fun u kk => Jvm.Free.XT.lrem X.here hx rfl hd rfl hy kk
theorem lneg (X : St p l e R s m args below meth c Z B own nm ml ret n0 T h k n) {pc : Nat} {Ls : Array Slot} {st : List Value} {x : Int64} (hd : decode B pc = .ok (.lneg, 1)) 
    (r : Go p e below s n0 Q kC kS (T.setTop (mkF m (pc + 1) Ls (.long (-x) :: st)))) : Go p e below s n0 Q kC kS (T.setTop (mkF m pc Ls (.long x :: st))) := by
  obtain ⟨⟨hx, rfl, -⟩, locs, X, -⟩ := X
  exact r.st fun u kk => Jvm.Free.XT.lneg X.here hx rfl hd rfl kk
theorem i2l (X : St p l e R s m args below meth c Z B own nm ml ret n0 T h k n) {pc : Nat} {Ls : Array Slot} {st : List Value} {x : Int32} (hd : decode B pc = .ok (.i2l, 1)) 
    (r : Go p e below s n0 Q kC kS (T.setTop (mkF m (pc + 1) Ls (.long (x.toInt64) :: st)))) : Go p e below s n0 Q kC kS (T.setTop (mkF m pc Ls (.int x :: st))) := by
  obtain ⟨⟨hx, rfl, -⟩, locs, X, -⟩ := X
  exact r.st fun u kk => Jvm.Free.XT.i2l X.here hx rfl hd rfl kk
theorem l2i (X : St p l e R s m args below meth c Z B own nm ml ret n0 T h k n) {pc : Nat} {Ls : Array Slot} {st : List Value} {x : Int64} (hd : decode B pc = .ok (.l2i, 1)) 
    (r : Go p e below s n0 Q kC kS (T.setTop (mkF m (pc + 1) Ls (.int (x.toInt32) :: st)))) : Go p e below s n0 Q kC kS (T.setTop (mkF m pc Ls (.long x :: st))) := by
  obtain ⟨⟨hx, rfl, -⟩, locs, X, -⟩ := X
  exact r.st fun u kk => Jvm.Free.XT.l2i X.here hx rfl hd rfl kk
theorem i2s (X : St p l e R s m args below meth c Z B own nm ml ret n0 T h k n) {pc : Nat} {Ls : Array Slot} {st : List Value} {x : Int32} (hd : decode B pc = .ok (.i2s, 1)) 
    (r : Go p e below s n0 Q kC kS (T.setTop (mkF m (pc + 1) Ls (.int (x.toInt16.toInt32) :: st)))) : Go p e below s n0 Q kC kS (T.setTop (mkF m pc Ls (.int x :: st))) := by
  obtain ⟨⟨hx, rfl, -⟩, locs, X, -⟩ := X
  exact r.st fun u kk => Jvm.Free.XT.i2s X.here hx rfl hd rfl kk
theorem i2c (X : St p l e R s m args below meth c Z B own nm ml ret n0 T h k n) {pc : Nat} {Ls : Array Slot} {st : List Value} {x : Int32} (hd : decode B pc = .ok (.i2c, 1)) 
    (r : Go p e below s n0 Q kC kS (T.setTop (mkF m (pc + 1) Ls (.int (x.toUInt32.toUInt16.toUInt32.toInt32) :: st)))) : Go p e below s n0 Q kC kS (T.setTop (mkF m pc Ls (.int x :: st))) := by
  obtain ⟨⟨hx, rfl, -⟩, locs, X, -⟩ := X
  exact r.st fun u kk => Jvm.Free.XT.i2c X.here hx rfl hd rfl kk
theorem lshr (X : St p l e R s m args below meth c Z B own nm ml ret n0 T h k n) {pc : Nat} {Ls : Array Slot} {st : List Value} {x : Int64} {y : Int32} (hd : decode B pc = .ok (.lshr, 1)) 
    (r : Go p e below s n0 Q kC kS (T.setTop (mkF m (pc + 1) Ls (.long (x >>> (y.toInt64 &&& 63)) :: st)))) : Go p e below s n0 Q kC kS (T.setTop (mkF m pc Ls (.int y :: .long x :: st))) := by
  obtain ⟨⟨hx, rfl, -⟩, locs, X, -⟩ := X
  exact r.st fun u kk => Jvm.Free.XT.lshr X.here hx rfl hd rfl kk
theorem lshl (X : St p l e R s m args below meth c Z B own nm ml ret n0 T h k n) {pc : Nat} {Ls : Array Slot} {st : List Value} {x : Int64} {y : Int32} (hd : decode B pc = .ok (.lshl, 1)) 
    (r : Go p e below s n0 Q kC kS (T.setTop (mkF m (pc + 1) Ls (.long (x <<< (y.toInt64 &&& 63)) :: st)))) : Go p e below s n0 Q kC kS (T.setTop (mkF m pc Ls (.int y :: .long x :: st))) := by
  obtain ⟨⟨hx, rfl, -⟩, locs, X, -⟩ := X
  exact r.st fun u kk => Jvm.Free.XT.lshl X.here hx rfl hd rfl kk
theorem i2d (X : St p l e R s m args below meth c Z B own nm ml ret n0 T h k n) {pc : Nat} {Ls : Array Slot} {st : List Value} {x : Int32} {v : UInt64} (hd : decode B pc = .ok (.i2d, 1)) (hv : FP.i2d x = v)
    (r : Go p e below s n0 Q kC kS (T.setTop (mkF m (pc + 1) Ls (.double v :: st)))) : Go p e below s n0 Q kC kS (T.setTop (mkF m pc Ls (.int x :: st))) := by
  obtain ⟨⟨hx, rfl, -⟩, locs, X, -⟩ := X
  exact r.st fun u kk => XS.i2dS X.here hx rfl hd rfl hv kk
theorem l2d (X : St p l e R s m args below meth c Z B own nm ml ret n0 T h k n) {pc : Nat} {Ls : Array Slot} {st : List Value} {x : Int64} {v : UInt64} (hd : decode B pc = .ok (.l2d, 1)) (hv : FP.l2d x = v)
    (r : Go p e below s n0 Q kC kS (T.setTop (mkF m (pc + 1) Ls (.double v :: st)))) : Go p e below s n0 Q kC kS (T.setTop (mkF m pc Ls (.long x :: st))) := by
  obtain ⟨⟨hx, rfl, -⟩, locs, X, -⟩ := X
  exact r.st fun u kk => XS.l2dS X.here hx rfl hd rfl hv kk
theorem dneg (X : St p l e R s m args below meth c Z B own nm ml ret n0 T h k n) {pc : Nat} {Ls : Array Slot} {st : List Value} {x v : UInt64} (hd : decode B pc = .ok (.dneg, 1)) (hv : FP.dneg x = v)
    (r : Go p e below s n0 Q kC kS (T.setTop (mkF m (pc + 1) Ls (.double v :: st)))) : Go p e below s n0 Q kC kS (T.setTop (mkF m pc Ls (.double x :: st))) := by
  obtain ⟨⟨hx, rfl, -⟩, locs, X, -⟩ := X
  exact r.st fun u kk => XS.dnegS X.here hx rfl hd rfl hv kk
theorem dadd (X : St p l e R s m args below meth c Z B own nm ml ret n0 T h k n) {pc : Nat} {Ls : Array Slot} {st : List Value} {x y v : UInt64} (hd : decode B pc = .ok (.dadd, 1)) (hv : FP.dadd x y = v) (hn : NoNaN64 v)
    (r : Go p e below s n0 Q kC kS (T.setTop (mkF m (pc + 1) Ls (.double v :: st)))) : Go p e below s n0 Q kC kS (T.setTop (mkF m pc Ls (.double y :: .double x :: st))) := by
  obtain ⟨⟨hx, rfl, -⟩, locs, X, -⟩ := X
  exact r.st fun u kk => XS.daddS X.here hx rfl hd rfl (hv.symm ▸ hn) hv kk
theorem dsub (X : St p l e R s m args below meth c Z B own nm ml ret n0 T h k n) {pc : Nat} {Ls : Array Slot} {st : List Value} {x y v : UInt64} (hd : decode B pc = .ok (.dsub, 1)) (hv : FP.dsub x y = v) (hn : NoNaN64 v)
    (r : Go p e below s n0 Q kC kS (T.setTop (mkF m (pc + 1) Ls (.double v :: st)))) : Go p e below s n0 Q kC kS (T.setTop (mkF m pc Ls (.double y :: .double x :: st))) := by
  obtain ⟨⟨hx, rfl, -⟩, locs, X, -⟩ := X
  exact r.st fun u kk => XS.dsubS X.here hx rfl hd rfl (hv.symm ▸ hn) hv kk
theorem dmul (X : St p l e R s m args below meth c Z B own nm ml ret n0 T h k n) {pc : Nat} {Ls : Array Slot} {st : List Value} {x y v : UInt64} (hd : decode B pc = .ok (.dmul, 1)) (hv : FP.dmul x y = v) (hn : NoNaN64 v)
    (r : Go p e below s n0 Q kC kS (T.setTop (mkF m (pc + 1) Ls (.double v :: st)))) : Go p e below s n0 Q kC kS (T.setTop (mkF m pc Ls (.double y :: .double x :: st))) := by
  obtain ⟨⟨hx, rfl, -⟩, locs, X, -⟩ := X
  exact r.st fun u kk => XS.dmulS X.here hx rfl hd rfl (hv.symm ▸ hn) hv kk
theorem ddiv (X : St p l e R s m args below meth c Z B own nm ml ret n0 T h k n) {pc : Nat} {Ls : Array Slot} {st : List Value} {x y v : UInt64} (hd : decode B pc = .ok (.ddiv, 1)) (hv : FP.ddiv x y = v) (hn : NoNaN64 v)
    (r : Go p e below s n0 Q kC kS (T.setTop (mkF m (pc + 1) Ls (.double v :: st)))) : Go p e below s n0 Q kC kS (T.setTop (mkF m pc Ls (.double y :: .double x :: st))) := by
  obtain ⟨⟨hx, rfl, -⟩, locs, X, -⟩ := X
  exact r.st fun u kk => XS.ddivS X.here hx rfl hd rfl (hv.symm ▸ hn) hv kk
theorem dup (X : St p l e R s m args below meth c Z B own nm ml ret n0 T h k n) {pc : Nat} {Ls : Array Slot} {st : List Value} {x : Value} (hd : decode B pc = .ok (.dup, 1)) (hc : x.category = 1)
    (r : Go p e below s n0 Q kC kS (T.setTop (mkF m (pc + 1) Ls (x :: x :: st)))) : Go p e below s n0 Q kC kS (T.setTop (mkF m pc Ls (x :: st))) := by
  obtain ⟨⟨hx, rfl, -⟩, locs, X, -⟩ := X
  exact r.st fun u kk => XS.dup X.here hx rfl hd rfl hc kk
theorem pop (X : St p l e R s m args below meth c Z B own nm ml ret n0 T h k n) {pc : Nat} {Ls : Array Slot} {st : List Value} {x : Value} (hd : decode B pc = .ok (.pop, 1)) (hc : x.category = 1)
    (r : Go p e below s n0 Q kC kS (T.setTop (mkF m (pc + 1) Ls (st)))) : Go p e below s n0 Q kC kS (T.setTop (mkF m pc Ls (x :: st))) := by
  obtain ⟨⟨hx, rfl, -⟩, locs, X, -⟩ := X
  exact r.st fun u kk => Jvm.Free.XT.pop X.here hx rfl hd rfl hc kk
theorem iinc (X : St p l e R s m args below meth c Z B own nm ml ret n0 T h k n) {pc : Nat} {Ls : Array Slot} {st : List Value} {j : Nat} {cst : Int} {x : Int32} {l' : Array Slot} (hd : decode B pc = .ok (.iinc j cst, 3)) (hl : Ls[j]? = some (.val (.int x))) (hl' : storeLocals Ls j (.int (x + Int32.ofInt cst)) = some l')
    (r : Go p e below s n0 Q kC kS (T.setTop (mkF m (pc + 3) l' (st)))) : Go p e below s n0 Q kC kS (T.setTop (mkF m pc Ls (st))) := by
  obtain ⟨⟨hx, rfl, -⟩, locs, X, -⟩ := X
  exact r.st fun u kk => XS.iinc X.here hx rfl hd hl hl' kk
theorem goto_ (X : St p l e R s m args below meth c Z B own nm ml ret n0 T h k n) {pc pc' : Nat} {Ls : Array Slot} {st : List Value} {o : Int} (hd : decode B pc = .ok (.goto o, 3)) (hp : (decide (0 ≤ (pc : Int) + o) && decide (((pc : Int) + o).toNat = pc')) = true)
    (r : Go p e below s n0 Q kC kS (T.setTop (mkF m pc' Ls st))) : Go p e below s n0 Q kC kS (T.setTop (mkF m pc Ls st)) := by
  obtain ⟨⟨hx, rfl, -⟩, locs, X, -⟩ := X
  simp only [Bool.and_eq_true, decide_eq_true_eq] at hp
  exact r.st fun u kk => XS.goto X.here hx rfl rfl hd hp.1 hp.2 kk
/-- what a comparison asks, of whole numbers -/
def cmpI : ClassFile.Cond → Int → Int → Prop
  | .eq, a, b => a = b
  | .ne, a, b => ¬ (a = b)
  | .lt, a, b => a < b
  | .ge, a, b => b ≤ a
  | .gt, a, b => b < a
  | .le, a, b => a ≤ b
theorem holds_I (cd : ClassFile.Cond) (x y : Int32) : if_icmp.holds cd x y = true ↔ cmpI cd x.toInt y.toInt := by
  cases cd <;> simp [if_icmp.holds, cmpI, Int32.lt_iff_toInt_lt, Int32.le_iff_toInt_le, ← Int32.toInt_inj]
theorem holds_0 (cd : ClassFile.Cond) (x : Int32) : ifCond.holds cd x = true ↔ cmpI cd x.toInt 0 := by
  rw [if0]; exact holds_I cd x 0
theorem iff_ (X : St p l e R s m args below meth c Z B own nm ml ret n0 T h k n) {pc pc' : Nat} {Ls : Array Slot} {st : List Value} {cd : ClassFile.Cond} {o : Int} {x : Int32} (hd : decode B pc = .ok (.ifCond cd o, 3)) (hp : (decide (0 ≤ (pc : Int) + o) && decide (((pc : Int) + o).toNat = pc')) = true)
    (r1 : cmpI cd x.toInt 0 → Go p e below s n0 Q kC kS (T.setTop (mkF m pc' Ls st))) (r2 : ¬ cmpI cd x.toInt 0 → Go p e below s n0 Q kC kS (T.setTop (mkF m (pc + 3) Ls st))) : Go p e below s n0 Q kC kS (T.setTop (mkF m pc Ls (.int x :: st))) := by
  obtain ⟨⟨hx, rfl, -⟩, locs, X, -⟩ := X
  simp only [Bool.and_eq_true, decide_eq_true_eq] at hp
  by_cases q : ifCond.holds cd x = true
  · exact (r1 ((holds_0 cd x).mp q)).st fun u kk => XS.ifYes X.here hx rfl rfl hd rfl q hp.1 hp.2 kk
  · exact (r2 fun z => q ((holds_0 cd x).mpr z)).st fun u kk => XS.ifNo X.here hx rfl hd rfl (by simpa using q) kk
theorem icmp_ (X : St p l e R s m args below meth c Z B own nm ml ret n0 T h k n) {pc pc' : Nat} {Ls : Array Slot} {st : List Value} {cd : ClassFile.Cond} {o : Int} {x y : Int32} (hd : decode B pc = .ok (.if_icmp cd o, 3)) (hp : (decide (0 ≤ (pc : Int) + o) && decide (((pc : Int) + o).toNat = pc')) = true)
    (r1 : cmpI cd x.toInt y.toInt → Go p e below s n0 Q kC kS (T.setTop (mkF m pc' Ls st))) (r2 : ¬ cmpI cd x.toInt y.toInt → Go p e below s n0 Q kC kS (T.setTop (mkF m (pc + 3) Ls st))) : Go p e below s n0 Q kC kS (T.setTop (mkF m pc Ls (.int y :: .int x :: st))) := by
  obtain ⟨⟨hx, rfl, -⟩, locs, X, -⟩ := X
  simp only [Bool.and_eq_true, decide_eq_true_eq] at hp
  by_cases q : if_icmp.holds cd x y = true
  · exact (r1 ((holds_I cd x y).mp q)).st fun u kk => XS.icmpYes X.here hx rfl rfl hd rfl q hp.1 hp.2 kk
  · exact (r2 fun z => q ((holds_I cd x y).mpr z)).st fun u kk => XS.icmpNo X.here hx rfl hd rfl (by simpa using q) kk
/-- a boolean of the walk: 1 where P, else 0 -/
abbrev bo (P : Prop) [Decidable P] : Int32 := if P then 1 else 0
theorem bo_I (P : Prop) [Decidable P] : (bo P).toInt = if P then 1 else 0 := by unfold bo; split <;> rfl
theorem bo_t {P : Prop} [Decidable P] (q : P) : (1 : Int32) = bo P := (if_pos q).symm
theorem bo_f {P : Prop} [Decidable P] (q : ¬ P) : (0 : Int32) = bo P := (if_neg q).symm
theorem bo_c {P P' : Prop} [Decidable P] [Decidable P'] (q : P ↔ P') : bo P = bo P' := by unfold bo; by_cases z : P <;> simp [z, q.mp, q.mpr, ← q]
theorem iff_and {A P : Prop} (h : A) : P ↔ A ∧ P := ⟨fun q => ⟨h, q⟩, fun q => q.2⟩
theorem iff_or {A P : Prop} (h : ¬ A) : P ↔ A ∨ P := ⟨Or.inr, fun q => q.resolve_left h⟩
theorem iff_l {A P P' : Prop} (h : A) : P ↔ (A ∧ P) ∨ (¬ A ∧ P') := ⟨fun q => Or.inl ⟨h, q⟩, fun q => q.elim (fun z => z.2) (fun z => absurd h z.1)⟩
theorem iff_r {A P P' : Prop} (h : ¬ A) : P ↔ (A ∧ P') ∨ (¬ A ∧ P) := ⟨fun q => Or.inr ⟨h, q⟩, fun q => q.elim (fun z => absurd z.1 h) (fun z => z.2)⟩
theorem nar_bo (P : Prop) [Decidable P] : narrow .boolean (.int (bo P)) = .int (bo P) := by unfold bo; split <;> rfl
theorem fits_bo (P : Prop) [Decidable P] : fits .boolean (.int (bo P)) = true := by unfold bo; split <;> rfl
theorem nar_z {z : Int32} (q : z &&& 1 = z) : narrow .boolean (.int z) = .int z := by show Value.int (z &&& 1) = _; rw [q]
theorem fits_z {z : Int32} (q : z &&& 1 = z) : fits .boolean (.int z) = true := by rcases and_one z with w | w <;> rw [q] at w <;> subst w <;> rfl
theorem bo0 (P : Prop) [Decidable P] : (bo P).toInt = 0 ↔ ¬ P := by rw [bo_I]; by_cases q : P <;> simp [q]
theorem ifeqB (X : St p l e R s m args below meth c Z B own nm ml ret n0 T h k n) {pc pc' : Nat} {Ls : Array Slot} {st : List Value} {o : Int} {P : Prop} [Decidable P] (hd : decode B pc = .ok (.ifCond .eq o, 3)) (hp : (decide (0 ≤ (pc : Int) + o) && decide (((pc : Int) + o).toNat = pc')) = true)
    (r1 : ¬ P → Go p e below s n0 Q kC kS (T.setTop (mkF m pc' Ls st))) (r2 : P → Go p e below s n0 Q kC kS (T.setTop (mkF m (pc + 3) Ls st))) : Go p e below s n0 Q kC kS (T.setTop (mkF m pc Ls (.int (bo P) :: st))) := by
  refine iff_ X hd hp (fun q => r1 fun z => ?_) (fun q => r2 (Classical.byContradiction fun z => q ?_))
  · rw [cmpI, bo_I, if_pos z] at q; cases q
  · rw [cmpI, bo_I, if_neg z]
theorem ifneB (X : St p l e R s m args below meth c Z B own nm ml ret n0 T h k n) {pc pc' : Nat} {Ls : Array Slot} {st : List Value} {o : Int} {P : Prop} [Decidable P] (hd : decode B pc = .ok (.ifCond .ne o, 3)) (hp : (decide (0 ≤ (pc : Int) + o) && decide (((pc : Int) + o).toNat = pc')) = true)
    (r1 : P → Go p e below s n0 Q kC kS (T.setTop (mkF m pc' Ls st))) (r2 : ¬ P → Go p e below s n0 Q kC kS (T.setTop (mkF m (pc + 3) Ls st))) : Go p e below s n0 Q kC kS (T.setTop (mkF m pc Ls (.int (bo P) :: st))) := by
  refine iff_ X hd hp (fun q => r1 (Classical.byContradiction fun z => q ?_)) (fun q => r2 fun z => q ?_)
  · rw [bo_I, if_neg z]
  · rw [cmpI, bo_I, if_pos z]; decide
theorem bo_eq (P P' : Prop) [Decidable P] [Decidable P'] : (bo P).toInt = (bo P').toInt ↔ (P ↔ P') := by
  rw [bo_I, bo_I]; by_cases a : P <;> by_cases b : P' <;> simp [a, b]
theorem icmpneB (X : St p l e R s m args below meth c Z B own nm ml ret n0 T h k n) {pc pc' : Nat} {Ls : Array Slot} {st : List Value} {o : Int} {P P' : Prop} [Decidable P] [Decidable P'] (hd : decode B pc = .ok (.if_icmp .ne o, 3)) (hp : (decide (0 ≤ (pc : Int) + o) && decide (((pc : Int) + o).toNat = pc')) = true)
    (r1 : ¬ (P ↔ P') → Go p e below s n0 Q kC kS (T.setTop (mkF m pc' Ls st))) (r2 : (P ↔ P') → Go p e below s n0 Q kC kS (T.setTop (mkF m (pc + 3) Ls st))) : Go p e below s n0 Q kC kS (T.setTop (mkF m pc Ls (.int (bo P') :: .int (bo P) :: st))) := by
  refine icmp_ X hd hp (fun q => r1 fun z => q ((bo_eq P P').mpr z)) (fun q => r2 (Classical.byContradiction fun z => q fun w => z ((bo_eq P P').mp w)))
theorem icmpeqB (X : St p l e R s m args below meth c Z B own nm ml ret n0 T h k n) {pc pc' : Nat} {Ls : Array Slot} {st : List Value} {o : Int} {P P' : Prop} [Decidable P] [Decidable P'] (hd : decode B pc = .ok (.if_icmp .eq o, 3)) (hp : (decide (0 ≤ (pc : Int) + o) && decide (((pc : Int) + o).toNat = pc')) = true)
    (r1 : (P ↔ P') → Go p e below s n0 Q kC kS (T.setTop (mkF m pc' Ls st))) (r2 : ¬ (P ↔ P') → Go p e below s n0 Q kC kS (T.setTop (mkF m (pc + 3) Ls st))) : Go p e below s n0 Q kC kS (T.setTop (mkF m pc Ls (.int (bo P') :: .int (bo P) :: st))) := by
  refine icmp_ X hd hp (fun q => r1 ((bo_eq P P').mp q)) (fun q => r2 fun z => q ((bo_eq P P').mpr z))
theorem ifnullY (X : St p l e R s m args below meth c Z B own nm ml ret n0 T h k n) {pc pc' : Nat} {Ls : Array Slot} {st : List Value} {o : Int} (hd : decode B pc = .ok (.ifnull o, 3)) (hp : (decide (0 ≤ (pc : Int) + o) && decide (((pc : Int) + o).toNat = pc')) = true)
    (r : Go p e below s n0 Q kC kS (T.setTop (mkF m pc' Ls st))) : Go p e below s n0 Q kC kS (T.setTop (mkF m pc Ls (.null :: st))) := by
  obtain ⟨⟨hx, rfl, -⟩, locs, X, -⟩ := X
  simp only [Bool.and_eq_true, decide_eq_true_eq] at hp
  exact r.st fun u kk => XS.ifnullYes X.here hx rfl rfl hd rfl hp.1 hp.2 kk
theorem ifnonnullY (X : St p l e R s m args below meth c Z B own nm ml ret n0 T h k n) {pc pc' : Nat} {Ls : Array Slot} {st : List Value} {o : Int} {b : Addr} (hd : decode B pc = .ok (.ifnonnull o, 3)) (hp : (decide (0 ≤ (pc : Int) + o) && decide (((pc : Int) + o).toNat = pc')) = true)
    (r : Go p e below s n0 Q kC kS (T.setTop (mkF m pc' Ls st))) : Go p e below s n0 Q kC kS (T.setTop (mkF m pc Ls (.ref b :: st))) := by
  obtain ⟨⟨hx, rfl, -⟩, locs, X, -⟩ := X
  simp only [Bool.and_eq_true, decide_eq_true_eq] at hp
  exact r.st fun u kk => Jvm.Free.XT.ifnonnullYes X.here hx rfl rfl hd rfl hp.1 hp.2 kk
theorem ifnullN (X : St p l e R s m args below meth c Z B own nm ml ret n0 T h k n) {pc : Nat} {Ls : Array Slot} {st : List Value} {o : Int} {b : Addr} (hd : decode B pc = .ok (.ifnull o, 3)) 
    (r : Go p e below s n0 Q kC kS (T.setTop (mkF m (pc + 3) Ls (st)))) : Go p e below s n0 Q kC kS (T.setTop (mkF m pc Ls (.ref b :: st))) := by
  obtain ⟨⟨hx, rfl, -⟩, locs, X, -⟩ := X
  exact r.st fun u kk => XS.ifnullNo X.here hx rfl hd rfl kk
theorem ifnonnullN (X : St p l e R s m args below meth c Z B own nm ml ret n0 T h k n) {pc : Nat} {Ls : Array Slot} {st : List Value} {o : Int} (hd : decode B pc = .ok (.ifnonnull o, 3)) 
    (r : Go p e below s n0 Q kC kS (T.setTop (mkF m (pc + 3) Ls (st)))) : Go p e below s n0 Q kC kS (T.setTop (mkF m pc Ls (.null :: st))) := by
  obtain ⟨⟨hx, rfl, -⟩, locs, X, -⟩ := X
  exact r.st fun u kk => Jvm.Free.XT.ifnonnullNo X.here hx rfl hd rfl kk
/-- a double's number, in units of 2^-1074 -/
def dz (x : UInt64) : Int := FP.Core.zval FP.Core.b64 (FP.Core.val64 x)
theorem nn_val {x : UInt64} (q : NoNaN64 x) : FP.Core.val64 x ≠ .nan := (FP.Core.notNaN_iff x).mp (noNaN64_no.mp q)
theorem dcmp_dz {x y : UInt64} (nx : NoNaN64 x) (ny : NoNaN64 y) : FP.dcmp x y = some (compare (dz x) (dz y)) := FP.Core.dcmp_zval (nn_val nx) (nn_val ny)
theorem cmpV_dz {x y : UInt64} (nx : NoNaN64 x) (ny : NoNaN64 y) (cd : ClassFile.Cond) (o : CmpOp) : cmpI cd (cmpValue (FP.dcmp x y) o).toInt 0 ↔ cmpI cd (dz x) (dz y) := by
  rw [dcmp_dz nx ny]
  have key : (cmpValue (some (compare (dz x) (dz y))) o).toInt = if dz x < dz y then -1 else if dz x = dz y then 0 else 1 := by
    rw [FP.Core.compare_ite]; split
    · cases o <;> rfl
    · split
      · cases o <;> rfl
      · cases o <;> rfl
  rw [key]
  split
  · cases cd <;> simp [cmpI] <;> omega
  · split
    · cases cd <;> simp [cmpI] <;> omega
    · cases cd <;> simp [cmpI] <;> omega
/-- dcmpl | dcmpg and the branch behind it, of two that are no NaN -/
theorem dcmpF (X : St p l e R s m args below meth c Z B own nm ml ret n0 T h k n) {pc pc' : Nat} {Ls : Array Slot} {st : List Value} {cd : ClassFile.Cond} {op : CmpOp} {o : Int} {x y : UInt64} (hd1 : decode B pc = .ok (.dcmp op, 1)) (hd : decode B (pc + 1) = .ok (.ifCond cd o, 3)) (hp : (decide (0 ≤ ((pc + 1 : Nat) : Int) + o) && decide ((((pc + 1 : Nat) : Int) + o).toNat = pc')) = true) (nx : NoNaN64 x) (ny : NoNaN64 y)
    (r1 : cmpI cd (dz x) (dz y) → Go p e below s n0 Q kC kS (T.setTop (mkF m pc' Ls st))) (r2 : ¬ cmpI cd (dz x) (dz y) → Go p e below s n0 Q kC kS (T.setTop (mkF m (pc + 1 + 3) Ls st))) : Go p e below s n0 Q kC kS (T.setTop (mkF m pc Ls (.double y :: .double x :: st))) := by
  have r : Go p e below s n0 Q kC kS (T.setTop (mkF m (pc + 1) Ls (.int (cmpValue (FP.dcmp x y) op) :: st))) :=
    iff_ X hd hp (fun q => r1 ((cmpV_dz nx ny cd op).mp q)) (fun q => r2 fun z => q ((cmpV_dz nx ny cd op).mpr z))
  obtain ⟨⟨hx, rfl, -⟩, locs, X, -⟩ := X
  exact r.st fun u kk => XS.dcmpS X.here hx rfl hd1 rfl rfl kk
theorem cmpL_I (x y : Int64) (cd : ClassFile.Cond) : cmpI cd (Jvm.Free.XT.cmpL x y).toInt 0 ↔ cmpI cd x.toInt y.toInt := by
  have key : (Jvm.Free.XT.cmpL x y).toInt = if y.toInt < x.toInt then 1 else if x.toInt = y.toInt then 0 else -1 := by
    simp only [Jvm.Free.XT.cmpL, Int64.lt_iff_toInt_lt, ← Int64.toInt_inj]
    split
    · rfl
    · split <;> rfl
  rw [key]
  split
  · cases cd <;> simp [cmpI] <;> omega
  · split
    · cases cd <;> simp [cmpI] <;> omega
    · cases cd <;> simp [cmpI] <;> omega
theorem lcmpF (X : St p l e R s m args below meth c Z B own nm ml ret n0 T h k n) {pc pc' : Nat} {Ls : Array Slot} {st : List Value} {cd : ClassFile.Cond} {o : Int} {x y : Int64} (hd1 : decode B pc = .ok (.lcmp, 1)) (hd : decode B (pc + 1) = .ok (.ifCond cd o, 3)) (hp : (decide (0 ≤ ((pc + 1 : Nat) : Int) + o) && decide ((((pc + 1 : Nat) : Int) + o).toNat = pc')) = true)
    (r1 : cmpI cd x.toInt y.toInt → Go p e below s n0 Q kC kS (T.setTop (mkF m pc' Ls st))) (r2 : ¬ cmpI cd x.toInt y.toInt → Go p e below s n0 Q kC kS (T.setTop (mkF m (pc + 1 + 3) Ls st))) : Go p e below s n0 Q kC kS (T.setTop (mkF m pc Ls (.long y :: .long x :: st))) := by
  have r : Go p e below s n0 Q kC kS (T.setTop (mkF m (pc + 1) Ls (.int (Jvm.Free.XT.cmpL x y) :: st))) :=
    iff_ X hd hp (fun q => r1 ((cmpL_I x y cd).mp q)) (fun q => r2 fun z => q ((cmpL_I x y cd).mpr z))
  obtain ⟨⟨hx, rfl, -⟩, locs, X, -⟩ := X
  exact r.st fun u kk => Jvm.Free.XT.lcmp X.here hx rfl hd1 rfl kk
theorem ldcI (X : St p l e R s m args below meth c Z B own nm ml ret n0 T h k n) {a0 : Array Value} {pc index : Nat} {Ls : Array Slot} {st : List Value} {v : Int32} (hd : decode B pc = .ok (.ldc index, 2)) (w : (Cond.constant own index v).before a0 Z = true)
    (r : Go p e below s n0 Q kC kS (T.setTop (mkF m (pc + 2) Ls (.int v :: st)))) : Go p e below s n0 Q kC kS (T.setTop (mkF m pc Ls st)) := by
  obtain ⟨⟨hx, rfl, hZ, hown, -⟩, locs, X, -⟩ := X
  exact r.st fun u kk => X.ldcInt (g := mkF m pc Ls st) hx hown (mvT hZ w) rfl hd u kk
theorem ldc2J (X : St p l e R s m args below meth c Z B own nm ml ret n0 T h k n) {a0 : Array Value} {pc index : Nat} {Ls : Array Slot} {st : List Value} {v : Int64} (hd : decode B pc = .ok (.ldc2_w index, 3)) (w : (Cond.constantLong own index v).before a0 Z = true)
    (r : Go p e below s n0 Q kC kS (T.setTop (mkF m (pc + 3) Ls (.long v :: st)))) : Go p e below s n0 Q kC kS (T.setTop (mkF m pc Ls st)) := by
  obtain ⟨⟨hx, rfl, hZ, hown, -⟩, locs, X, -⟩ := X
  exact r.st fun u kk => X.ldc2Long (g := mkF m pc Ls st) hx hown (mvT hZ w) rfl hd u kk
theorem ldc2D (X : St p l e R s m args below meth c Z B own nm ml ret n0 T h k n) {a0 : Array Value} {pc index : Nat} {Ls : Array Slot} {st : List Value} {v : UInt64} (hd : decode B pc = .ok (.ldc2_w index, 3)) (w : (Cond.constantDouble own index v).before a0 Z = true)
    (r : Go p e below s n0 Q kC kS (T.setTop (mkF m (pc + 3) Ls (.double v :: st)))) : Go p e below s n0 Q kC kS (T.setTop (mkF m pc Ls st)) := by
  obtain ⟨⟨hx, rfl, hZ, hown, -⟩, locs, X, -⟩ := X
  exact r.st fun u kk => X.ldc2DoubleC (g := mkF m pc Ls st) hx hown (mvT hZ w) rfl hd u kk
theorem leaveG (X : St p l e R s m args below meth c Z B own nm ml ret n0 T h k n) {v : Option Value} {t : State} (hv : meth.sig.returnType = none → v = none) (hQ : Q v h) (hk : k ≤ kC) (hn : n ≤ kS)
    (st : ∀ (locs : List Loc) (fs : List Frame), p.tables.exec = Jvm.exec → c.code = B → meth.sig.returnType = ret → Stand p l e R s m args below meth c T locs k n → (∀ (f : JFrame) (acts : List Action), f.method = m → f.locked = none → f.entered = [] → (doReturn e (T.setTop f) acts v).1 = T.setFrames fs) → Steps p.tables e below t (T.setFrames fs)) : Go p e below s n0 Q kC kS t := by
  obtain ⟨⟨hx, hby, hZ, hown, hml, hret, hlocks, hnm⟩, locs, X, eT, N⟩ := X
  obtain ⟨fs, hr, hrun, hended, hW, hsame⟩ := X.leave (v := v) hv hlocks
  refine ⟨_, _, st locs fs hx hby hret X hr, hrun, hended, _, _, rfl, ⟨?_, N⟩, ⟨_, rfl⟩, hW, hsame.mono hk hn⟩
  show Q v T.heap
  rw [eT]; exact hQ
theorem retV (X : St p l e R s m args below meth c Z B own nm ml none n0 T h k n) {pc : Nat} {Ls : Array Slot} (hd : decode B pc = .ok (.return_, 1)) (hQ : Q none h) (hk : k ≤ kC) (hn : n ≤ kS) : Go p e below s n0 Q kC kS (T.setTop (mkF m pc Ls [])) :=
  leaveG X (v := none) (fun _ => rfl) hQ hk hn fun locs fs hx hby hret X hr => X.returnOut hx hret (by rw [hby]; exact hd) hr
theorem retB (X : St p l e R s m args below meth c Z B own nm ml (some .boolean) n0 T h k n) {pc : Nat} {Ls : Array Slot} {st : List Value} {z : Int32} (hd : decode B pc = .ok (.ireturn, 1)) (hz : z &&& 1 = z) (hQ : Q (some (.int z)) h) (hk : k ≤ kC) (hn : n ≤ kS) : Go p e below s n0 Q kC kS (T.setTop (mkF m pc Ls (.int z :: st))) :=
  leaveG X (v := some (.int z)) (fun q => by rw [X.1.2.2.2.2.2.1] at q; cases q) hQ hk hn fun locs fs hx hby hret X hr => retN X hx (t := .boolean) hret (by simp) (by rw [hby]; exact hd) (by intro f acts h1 h2 h3; rw [show nar .boolean z = z from hz]; exact hr f acts h1 h2 h3)
theorem bo_and (P : Prop) [Decidable P] : bo P &&& 1 = bo P := by unfold bo; split <;> decide
theorem retO (w : Value) (t : FieldType) {i : Instr} (X : St p l e R s m args below meth c Z B own nm ml (some t) n0 T h k n) {pc : Nat} {Ls : Array Slot} {st : List Value} (hd : decode B pc = .ok (i, 1)) (hw : narrow t w = w)
    (hi : (i = .ireturn ∧ (t = .int ∨ t = .boolean ∨ t = .byte ∨ t = .char ∨ t = .short) ∧ ∃ z, w = .int z) ∨ (i = .lreturn ∧ t = .long ∧ ∃ z, w = .long z) ∨ (i = .dreturn ∧ t = .double ∧ ∃ z, w = .double z) ∨ (i = .freturn ∧ t = .float ∧ ∃ z, w = .float z) ∨ (i = .areturn ∧ t.isReference = true ∧ w.isRef = true))
    (hQ : Q (some w) h) (hk : k ≤ kC) (hn : n ≤ kS) : Go p e below s n0 Q kC kS (T.setTop (mkF m pc Ls (w :: st))) :=
  leaveG X (v := some w) (fun q => by rw [X.1.2.2.2.2.2.1] at q; cases q) hQ hk hn fun locs fs hx hby hret X hr => retOut X hx hret hw hi (by rw [hby]; exact hd) hr
theorem retI (X : St p l e R s m args below meth c Z B own nm ml (some .int) n0 T h k n) {pc : Nat} {Ls : Array Slot} {st : List Value} {z : Int32} (hd : decode B pc = .ok (.ireturn, 1)) (hQ : Q (some (.int z)) h) (hk : k ≤ kC) (hn : n ≤ kS) : Go p e below s n0 Q kC kS (T.setTop (mkF m pc Ls (.int z :: st))) :=
  retO (.int z) .int X hd rfl (Or.inl ⟨rfl, Or.inl rfl, z, rfl⟩) hQ hk hn
theorem retD (X : St p l e R s m args below meth c Z B own nm ml (some .double) n0 T h k n) {pc : Nat} {Ls : Array Slot} {st : List Value} {z : UInt64} (hd : decode B pc = .ok (.dreturn, 1)) (hQ : Q (some (.double z)) h) (hk : k ≤ kC) (hn : n ≤ kS) : Go p e below s n0 Q kC kS (T.setTop (mkF m pc Ls (.double z :: st))) :=
  retO (.double z) .double X hd rfl (Or.inr (Or.inr (Or.inl ⟨rfl, rfl, z, rfl⟩))) hQ hk hn
theorem retA {t : FieldType} (X : St p l e R s m args below meth c Z B own nm ml (some t) n0 T h k n) {pc : Nat} {Ls : Array Slot} {st : List Value} {v : Value} (hd : decode B pc = .ok (.areturn, 1)) (ht : t.isReference = true) (hv : v.isRef = true) (hw : narrow t v = v) (hQ : Q (some v) h) (hk : k ≤ kC) (hn : n ≤ kS) : Go p e below s n0 Q kC kS (T.setTop (mkF m pc Ls (v :: st))) :=
  retO v t X hd hw (Or.inr (Or.inr (Or.inr (Or.inr ⟨rfl, ht, hv⟩)))) hQ hk hn
theorem getF_ (X : St p l e R s m args below meth c Z B own nm ml ret n0 T h k n) {a0 : Array Value} {R0 O f d host : String} {index pc : Nat} {Ls : Array Slot} {st : List Value} {a : Addr} {v : Value} (hd : decode B pc = .ok (.getfield index, 3)) (w : (Cond.fieldLink own index R0 f d).before a0 Z = true ∨ (Cond.fieldLinkNest own index R0 f d host).before a0 Z = true) (via : Via Z R0 O f d) (F : Fld Z h a O f d v)
    (r : ∀ T', St p l e R s m args below meth c Z B own nm ml ret n0 T' h k n → Go p e below s n0 Q kC kS (T'.setTop (mkF m (pc + 3) Ls (v :: st)))) : Go p e below s n0 Q kC kS (T.setTop (mkF m pc Ls (.ref a :: st))) := by
  obtain ⟨⟨hx, hby, hZ, hown, q⟩, locs, X, eT, N⟩ := X
  obtain ⟨T', X', e', st'⟩ := getF X hx hZ hown w via eT F (g := mkF m pc Ls (.ref a :: st)) rfl rfl (by rw [hby]; exact hd)
  exact (r T' ⟨⟨hx, hby, hZ, hown, q⟩, locs, X', e', N⟩).st st'
theorem putF_ (X : St p l e R s m args below meth c Z B own nm ml ret n0 T h k n) {a0 : Array Value} {R0 O f d host C : String} {index kk pc : Nat} {ty : FieldType} {Ls : Array Slot} {st : List Value} {a : Addr} {v old : Value} (hd : decode B pc = .ok (.putfield index, 3)) (w : (Cond.fieldLink own index R0 f d).before a0 Z = true ∨ (Cond.fieldLinkNest own index R0 f d host).before a0 Z = true) (via : Via Z R0 O f d) (F : Fld Z h a O f d old) (E : Exa Z h a C)
    (L : (Cond.lays C O f d).before a0 Z = true ∨ ((Cond.laysFinal C O f d).before a0 Z = true ∧ own = O ∧ nm = "<init>")) (wi : (Cond.instantiable C kk).before a0 Z = true) (hty : parseFieldDescriptor d = some ty) (hv : narrow ty v = v) (hf : fits ty v = true) (ha : n0 ≤ a)
    (r : ∀ T' h', St p l e R s m args below meth c Z B own nm ml ret n0 T' h' k n → Wr h h' a (Jvm.RoadKit.slotOf Z O f d) v → Go p e below s n0 Q kC kS (T'.setTop (mkF m (pc + 3) Ls st))) : Go p e below s n0 Q kC kS (T.setTop (mkF m pc Ls (v :: .ref a :: st))) := by
  obtain ⟨⟨hx, hby, hZ, hown, q1, q2, q3, q4⟩, locs, X, eT, N⟩ := X
  obtain ⟨T', h', X', e', W', st'⟩ := putF X hx hZ hown w via eT F E (L.imp id fun ⟨z1, z2, z3⟩ => ⟨z1, z2, q4.trans z3⟩) wi hty hv hf (g := mkF m pc Ls (v :: .ref a :: st)) rfl rfl (by rw [hby]; exact hd)
  exact (r T' h' ⟨⟨hx, hby, hZ, hown, q1, q2, q3, q4⟩, _, X', e', Fr.snoc X' N ha⟩ W').st st'
theorem getS_ (X : St p l e R s m args below meth c Z B own nm ml ret n0 T h k n) {a0 : Array Value} {R0 O f d host : String} {index pc : Nat} {Ls : Array Slot} {st : List Value} {v : Value} (hd : decode B pc = .ok (.getstatic index, 3)) (w : (Cond.fieldLink own index R0 f d).before a0 Z = true ∨ (Cond.fieldLinkNest own index R0 f d host).before a0 Z = true) (via : Via Z R0 O f d) (F : Sta Z h O f d v)
    (r : ∀ T', St p l e R s m args below meth c Z B own nm ml ret n0 T' h k n → Go p e below s n0 Q kC kS (T'.setTop (mkF m (pc + 3) Ls (v :: st)))) : Go p e below s n0 Q kC kS (T.setTop (mkF m pc Ls st)) := by
  obtain ⟨⟨hx, hby, hZ, hown, q⟩, locs, X, eT, N⟩ := X
  obtain ⟨T', X', e', st'⟩ := getS2 X hx hZ hown w via eT F (g := mkF m pc Ls st) rfl (by rw [hby]; exact hd)
  exact (r T' ⟨⟨hx, hby, hZ, hown, q⟩, locs, X', e', N⟩).st st'
theorem newO_ (X : St p l e R s m args below meth c Z B own nm ml ret n0 T h k n) {a0 : Array Value} {C : String} {index cnt pc : Nat} {Ls : Array Slot} {st : List Value} (hd : decode B pc = .ok (.new index, 3)) (w : (Cond.classLink own index C).before a0 Z = true) (wi : (Cond.instantiable C cnt).before a0 Z = true) (wz : (Cond.initialized C).before a0 Z = true) (hc : k + 1 ≤ R.cells) (hl : n + cnt ≤ R.slots)
    (r : ∀ T' h' a, a = h.size → St p l e R s m args below meth c Z B own nm ml ret n0 T' h' (k + 1) (n + cnt) → Ext h h' → Exa Z h' a C → (∀ {O f d : String} {ty : FieldType}, Laid Z a0 C O f d → parseFieldDescriptor d = some ty → Fld Z h' a O f d (defaultValue ty)) → Go p e below s n0 Q kC kS (T'.setTop (mkF m (pc + 3) Ls (.ref a :: st)))) : Go p e below s n0 Q kC kS (T.setTop (mkF m pc Ls st)) := by
  obtain ⟨⟨hx, hby, hZ, hown, q⟩, locs, X, eT, N⟩ := X
  obtain ⟨T', h', X', e', E', A', D', -, st'⟩ := newO X hx hZ hown w wi wz eT (g := mkF m pc Ls st) rfl (by rw [hby]; exact hd) hc hl
  exact (r T' h' _ rfl ⟨⟨hx, hby, hZ, hown, q⟩, locs, X', e', N⟩ E' A' D').st st'
theorem initO_ (X : St p l e R s m args below meth c Z B own nm ml ret n0 T h k n) {a0 : Array Value} {idx W pc : Nat} {Ls : Array Slot} {st : List Value} {a : Addr} (hd : decode B pc = .ok (.invokespecial idx, 3)) (w1 : (Cond.methodLink own idx Lib.objectInit).before a0 Z = true) (w2 : (Cond.instanceMethod Lib.objectInit).before a0 Z = true) (w3 : (Cond.code Lib.objectInit ⟨#[0xb1]⟩ 1 none).before a0 Z = true) (hsz : Ls.size = ml)
    (hf : 1 ≤ R.frames) (hW : 2 * 0 + (st.map fun v => v.category).sum ≤ W) (hl : W + 12 ≤ R.locals)
    (r : ∀ T', St p l e R s m args below meth c Z B own nm ml ret n0 T' h k n → Go p e below s n0 Q kC kS (T'.setTop (mkF m (pc + 3) Ls st))) : Go p e below s n0 Q kC kS (T.setTop (mkF m pc Ls (.ref a :: st))) := by
  obtain ⟨⟨hx, hby, hZ, hown, hml, q⟩, locs, X, eT, N⟩ := X
  obtain ⟨T', X', e', st'⟩ := initO X hx hZ hown w1 w2 w3 eT (g := mkF m pc Ls (.ref a :: st)) rfl (by rw [hml]; exact hsz) rfl (by rw [hby]; exact hd) hf hW hl
  exact (r T' ⟨⟨hx, hby, hZ, hown, hml, q⟩, locs, X', e', N⟩).st st'

theorem newP_ (X : St p l e R s m args below meth c Z B own nm ml ret n0 T h k n) {a0 : Array Value} {aty : ArrayType} {z : Int32} {pc : Nat} {Ls : Array Slot} {st : List Value} (cap : Nat) (ty : FieldType) (dv : Value) (ad : String) (hd : decode B pc = .ok (.newarray aty, 2)) (hty : newarray.typeOf aty = ty) (hdv : defaultValue ty = dv) (had : "[" ++ ty.toString = ad) (w : (Cond.arrayClass ty).before a0 Z = true) (hz : ¬ z < 0) (hcap : z.toNatClampNeg ≤ cap) (hb : cap * 8 ≤ 536870912) (hc : k + 1 ≤ R.cells) (hl : n + cap ≤ R.slots)
    (r : ∀ T' h' a kk, a = h.size → St p l e R s m args below meth c Z B own nm ml ret n0 T' h' (k + 1) (n + cap) → Ext h h' → Arv Z h' a kk ty z [] dv → Exa Z h' a ad → Go p e below s n0 Q kC kS (T'.setTop (mkF m (pc + 2) Ls (.ref a :: st)))) : Go p e below s n0 Q kC kS (T.setTop (mkF m pc Ls (.int z :: st))) := by
  subst hty hdv
  obtain ⟨⟨hx, hby, hZ, q⟩, locs, X, eT, N⟩ := X
  obtain ⟨T', h', cA, X', e', E', A', G', st'⟩ := newPE X hx hZ w eT (g := mkF m pc Ls (.int z :: st)) rfl (by rw [hby]; exact hd) rfl hz hcap hb hc hl had
  exact (r T' h' _ cA rfl ⟨⟨hx, hby, hZ, q⟩, locs, X', e', N⟩ E' (Arv.new A' hz) G').st st'
theorem alen_ (X : St p l e R s m args below meth c Z B own nm ml ret n0 T h k n) {kk : ClassId} {ty : FieldType} {z : Int32} {vs : List Value} {dv : Value} {a : Addr} {pc : Nat} {Ls : Array Slot} {st : List Value} (hd : decode B pc = .ok (.arraylength, 1)) (A : Arv Z h a kk ty z vs dv)
    (r : Go p e below s n0 Q kC kS (T.setTop (mkF m (pc + 1) Ls (.int z :: st)))) : Go p e below s n0 Q kC kS (T.setTop (mkF m pc Ls (.ref a :: st))) := by
  obtain ⟨⟨hx, rfl, hZ, -⟩, locs, X, eT, -⟩ := X
  obtain ⟨cl, A, -, S, hz, -⟩ := A
  rw [← len_of S hz] at r
  exact r.st fun u kk => X.arraylength (g := mkF m pc Ls (.ref a :: st)) hx (by rw [eT]; exact A.1) (State.isArrayOf_alike hZ.alike A.2.1) rfl rfl hd u kk
theorem daload_ (X : St p l e R s m args below meth c Z B own nm ml ret n0 T h k n) {kk : ClassId} {z j : Int32} {vs : List Value} {dv : Value} {v : UInt64} {a : Addr} {pc : Nat} {Ls : Array Slot} {st : List Value} (hd : decode B pc = .ok (.daload, 1)) (A : Arv Z h a kk .double z vs dv) (hj : ¬ j < 0 ∧ j < z) (hv : vs.getD j.toNatClampNeg dv = .double v)
    (r : Go p e below s n0 Q kC kS (T.setTop (mkF m (pc + 1) Ls (.double v :: st)))) : Go p e below s n0 Q kC kS (T.setTop (mkF m pc Ls (.int j :: .ref a :: st))) := by
  obtain ⟨⟨hx, rfl, hZ, -⟩, locs, X, eT, -⟩ := X
  obtain ⟨cl, A, -, S, hz, H, -⟩ := A
  exact r.st fun u kk => X.daload (g := mkF m pc Ls (.int j :: .ref a :: st)) hx (by rw [eT]; exact A.1) (State.isArrayOf_alike hZ.alike A.2.1) A.2.2 (inb_of S hj) (H.at (inb_of S hj) hv) rfl rfl hd u kk
theorem iaload_ (X : St p l e R s m args below meth c Z B own nm ml ret n0 T h k n) {kk : ClassId} {z j : Int32} {vs : List Value} {dv : Value} {v : Int32} {a : Addr} {pc : Nat} {Ls : Array Slot} {st : List Value} (hd : decode B pc = .ok (.iaload, 1)) (A : Arv Z h a kk .int z vs dv) (hj : ¬ j < 0 ∧ j < z) (hv : vs.getD j.toNatClampNeg dv = .int v)
    (r : Go p e below s n0 Q kC kS (T.setTop (mkF m (pc + 1) Ls (.int v :: st)))) : Go p e below s n0 Q kC kS (T.setTop (mkF m pc Ls (.int j :: .ref a :: st))) := by
  obtain ⟨⟨hx, rfl, hZ, -⟩, locs, X, eT, -⟩ := X
  obtain ⟨cl, A, -, S, hz, H, -⟩ := A
  exact r.st fun u kk => X.iaload (g := mkF m pc Ls (.int j :: .ref a :: st)) hx (by rw [eT]; exact A.1) (State.isArrayOf_alike hZ.alike A.2.1) A.2.2 (inb_of S hj) (H.at (inb_of S hj) hv) rfl rfl hd u kk
theorem laload_ (X : St p l e R s m args below meth c Z B own nm ml ret n0 T h k n) {kk : ClassId} {z j : Int32} {vs : List Value} {dv : Value} {v : Int64} {a : Addr} {pc : Nat} {Ls : Array Slot} {st : List Value} (hd : decode B pc = .ok (.laload, 1)) (A : Arv Z h a kk .long z vs dv) (hj : ¬ j < 0 ∧ j < z) (hv : vs.getD j.toNatClampNeg dv = .long v)
    (r : Go p e below s n0 Q kC kS (T.setTop (mkF m (pc + 1) Ls (.long v :: st)))) : Go p e below s n0 Q kC kS (T.setTop (mkF m pc Ls (.int j :: .ref a :: st))) := by
  obtain ⟨⟨hx, rfl, hZ, -⟩, locs, X, eT, -⟩ := X
  obtain ⟨cl, A, -, S, hz, H, -⟩ := A
  exact r.st fun u kk => X.laload (g := mkF m pc Ls (.int j :: .ref a :: st)) hx (by rw [eT]; exact A.1) (State.isArrayOf_alike hZ.alike A.2.1) A.2.2 (inb_of S hj) (H.at (inb_of S hj) hv) rfl rfl hd u kk
theorem aaload_ (X : St p l e R s m args below meth c Z B own nm ml ret n0 T h k n) {kk : ClassId} {ty : FieldType} {z j : Int32} {vs : List Value} {dv v : Value} {a : Addr} {pc : Nat} {Ls : Array Slot} {st : List Value} (hd : decode B pc = .ok (.aaload, 1)) (A : Arv Z h a kk ty z vs dv) (hty : ty.isReference = true) (hj : ¬ j < 0 ∧ j < z) (hv : vs.getD j.toNatClampNeg dv = v)
    (r : Go p e below s n0 Q kC kS (T.setTop (mkF m (pc + 1) Ls (v :: st)))) : Go p e below s n0 Q kC kS (T.setTop (mkF m pc Ls (.int j :: .ref a :: st))) := by
  obtain ⟨⟨hx, rfl, hZ, -⟩, locs, X, eT, -⟩ := X
  obtain ⟨cl, A, -, S, hz, H, -⟩ := A
  exact r.st fun u kk => X.aaload (g := mkF m pc Ls (.int j :: .ref a :: st)) hx (by rw [eT]; exact A.1) (State.isArrayOf_alike hZ.alike A.2.1) hty A.2.2 (inb_of S hj) (H.at (inb_of S hj) hv) rfl rfl hd u kk
theorem dastore_ (X : St p l e R s m args below meth c Z B own nm ml ret n0 T h k n) {kk : ClassId} {z j : Int32} {vs : List Value} {dv : Value} {v : UInt64} {a : Addr} {pc : Nat} {Ls : Array Slot} {st : List Value} (i : Nat) (hd : decode B pc = .ok (.dastore, 1)) (A : Arv Z h a kk .double z vs dv) (hj : ¬ j < 0 ∧ j < z) (hi : j.toNatClampNeg = i) (hl : i < vs.length) (ha : n0 ≤ a)
    (r : ∀ T' h', St p l e R s m args below meth c Z B own nm ml ret n0 T' h' k n → Wr h h' a j.toNatClampNeg (.double v) → Arv Z h' a kk .double z (vs.set i (.double v)) dv → Go p e below s n0 Q kC kS (T'.setTop (mkF m (pc + 1) Ls st))) : Go p e below s n0 Q kC kS (T.setTop (mkF m pc Ls (.double v :: .int j :: .ref a :: st))) := by
  obtain ⟨⟨hx, hby, hZ, q⟩, locs, X, eT, N⟩ := X
  obtain ⟨cl, A, q1, S, hz, H, F⟩ := A
  obtain ⟨T', h', X', e', W', st'⟩ := stD X hx hZ eT A (inb_of S hj) (g := mkF m pc Ls (.double v :: .int j :: .ref a :: st)) rfl rfl (by rw [hby]; exact hd)
  exact (r T' h' ⟨⟨hx, hby, hZ, q⟩, _, X', e', Fr.snoc X' N ha⟩ W' (Arv.set A q1 S hz H F rfl W' i hi hl)).st st'
theorem iastore_ (X : St p l e R s m args below meth c Z B own nm ml ret n0 T h k n) {kk : ClassId} {z j : Int32} {vs : List Value} {dv : Value} {v : Int32} {a : Addr} {pc : Nat} {Ls : Array Slot} {st : List Value} (i : Nat) (hd : decode B pc = .ok (.iastore, 1)) (A : Arv Z h a kk .int z vs dv) (hj : ¬ j < 0 ∧ j < z) (hi : j.toNatClampNeg = i) (hl : i < vs.length) (ha : n0 ≤ a)
    (r : ∀ T' h', St p l e R s m args below meth c Z B own nm ml ret n0 T' h' k n → Wr h h' a j.toNatClampNeg (.int v) → Arv Z h' a kk .int z (vs.set i (.int v)) dv → Go p e below s n0 Q kC kS (T'.setTop (mkF m (pc + 1) Ls st))) : Go p e below s n0 Q kC kS (T.setTop (mkF m pc Ls (.int v :: .int j :: .ref a :: st))) := by
  obtain ⟨⟨hx, hby, hZ, q⟩, locs, X, eT, N⟩ := X
  obtain ⟨cl, A, q1, S, hz, H, F⟩ := A
  obtain ⟨T', h', X', e', W', st'⟩ := stI X hx hZ eT A (inb_of S hj) (g := mkF m pc Ls (.int v :: .int j :: .ref a :: st)) rfl rfl (by rw [hby]; exact hd)
  exact (r T' h' ⟨⟨hx, hby, hZ, q⟩, _, X', e', Fr.snoc X' N ha⟩ W' (Arv.set A q1 S hz H F rfl W' i hi hl)).st st'
theorem lastore_ (X : St p l e R s m args below meth c Z B own nm ml ret n0 T h k n) {kk : ClassId} {z j : Int32} {vs : List Value} {dv : Value} {v : Int64} {a : Addr} {pc : Nat} {Ls : Array Slot} {st : List Value} (i : Nat) (hd : decode B pc = .ok (.lastore, 1)) (A : Arv Z h a kk .long z vs dv) (hj : ¬ j < 0 ∧ j < z) (hi : j.toNatClampNeg = i) (hl : i < vs.length) (ha : n0 ≤ a)
    (r : ∀ T' h', St p l e R s m args below meth c Z B own nm ml ret n0 T' h' k n → Wr h h' a j.toNatClampNeg (.long v) → Arv Z h' a kk .long z (vs.set i (.long v)) dv → Go p e below s n0 Q kC kS (T'.setTop (mkF m (pc + 1) Ls st))) : Go p e below s n0 Q kC kS (T.setTop (mkF m pc Ls (.long v :: .int j :: .ref a :: st))) := by
  obtain ⟨⟨hx, hby, hZ, q⟩, locs, X, eT, N⟩ := X
  obtain ⟨cl, A, q1, S, hz, H, F⟩ := A
  obtain ⟨T', h', X', e', W', st'⟩ := stJ X hx hZ eT A (inb_of S hj) (g := mkF m pc Ls (.long v :: .int j :: .ref a :: st)) rfl rfl (by rw [hby]; exact hd)
  exact (r T' h' ⟨⟨hx, hby, hZ, q⟩, _, X', e', Fr.snoc X' N ha⟩ W' (Arv.set A q1 S hz H F rfl W' i hi hl)).st st'
theorem newRA_ (X : St p l e R s m args below meth c Z B own nm ml ret n0 T h k n) {a0 : Array Value} {C ad : String} {ty : FieldType} {index : Nat} {z : Int32} {pc : Nat} {Ls : Array Slot} {st : List Value} (cap : Nat) (hd : decode B pc = .ok (.anewarray index, 3)) (hC : (FieldType.array ty).toString = C) (had : "[" ++ C = ad) (w1 : (Cond.classLink own index C).before a0 Z = true) (w2 : (Cond.arrayOver (.array ty)).before a0 Z = true) (hz : ¬ z < 0) (hcap : z.toNatClampNeg ≤ cap) (hb : cap * 8 ≤ 536870912) (hc : k + 1 ≤ R.cells) (hl : n + cap ≤ R.slots)
    (r : ∀ T' h' a kk, a = h.size → St p l e R s m args below meth c Z B own nm ml ret n0 T' h' (k + 1) (n + cap) → Ext h h' → Arv Z h' a kk (.array ty) z [] .null → Exa Z h' a ad → OvrA Z kk ty C → Go p e below s n0 Q kC kS (T'.setTop (mkF m (pc + 3) Ls (.ref a :: st)))) : Go p e below s n0 Q kC kS (T.setTop (mkF m pc Ls (.int z :: st))) := by
  obtain ⟨⟨hx, hby, hZ, hown, q⟩, locs, X, eT, N⟩ := X
  obtain ⟨T', h', cA, X', e', E', A', G', O', st'⟩ := newRA X hx hZ hown hC w1 w2 eT (g := mkF m pc Ls (.int z :: st)) rfl (by rw [hby]; exact hd) rfl hz hcap hb hc hl had
  exact (r T' h' _ cA rfl ⟨⟨hx, hby, hZ, hown, q⟩, locs, X', e', N⟩ E' (Arv.new A' hz) G' O').st st'
theorem newRE_ (X : St p l e R s m args below meth c Z B own nm ml ret n0 T h k n) {a0 : Array Value} {C ad : String} {index : Nat} {z : Int32} {pc : Nat} {Ls : Array Slot} {st : List Value} (cap : Nat) (hd : decode B pc = .ok (.anewarray index, 3)) (had : "[" ++ (FieldType.object C).toString = ad) (w1 : (Cond.classLink own index C).before a0 Z = true) (w2 : (Cond.arrayOver (.object C)).before a0 Z = true) (hz : ¬ z < 0) (hcap : z.toNatClampNeg ≤ cap) (hb : cap * 8 ≤ 536870912) (hc : k + 1 ≤ R.cells) (hl : n + cap ≤ R.slots)
    (r : ∀ T' h' a kk, a = h.size → St p l e R s m args below meth c Z B own nm ml ret n0 T' h' (k + 1) (n + cap) → Ext h h' → Arv Z h' a kk (.object C) z [] .null → Exa Z h' a ad → Ovr Z kk C → Go p e below s n0 Q kC kS (T'.setTop (mkF m (pc + 3) Ls (.ref a :: st)))) : Go p e below s n0 Q kC kS (T.setTop (mkF m pc Ls (.int z :: st))) := by
  obtain ⟨⟨hx, hby, hZ, hown, q⟩, locs, X, eT, N⟩ := X
  obtain ⟨T', h', cA, X', e', E', A', G', O', st'⟩ := newRE X hx hZ hown w1 w2 eT (g := mkF m pc Ls (.int z :: st)) rfl (by rw [hby]; exact hd) rfl hz hcap hb hc hl had
  exact (r T' h' _ cA rfl ⟨⟨hx, hby, hZ, hown, q⟩, locs, X', e', N⟩ E' (Arv.new A' hz) G' O').st st'
theorem aastore_ (X : St p l e R s m args below meth c Z B own nm ml ret n0 T h k n) {kk : ClassId} {ty : FieldType} {z j : Int32} {vs : List Value} {dv v : Value} {a : Addr} {pc : Nat} {Ls : Array Slot} {st : List Value} (i : Nat) (hd : decode B pc = .ok (.aastore, 1)) (A : Arv Z h a kk ty z vs dv) (hty : ty.isReference = true) (hj : ¬ j < 0 ∧ j < z) (hi : j.toNatClampNeg = i) (hl : i < vs.length) (ha : n0 ≤ a) (hf : fits ty v = true) (F : ∀ cl : Cell, Arr Z h a cl ty → cl.cls = kk → Sto Z h a v)
    (r : ∀ T' h', St p l e R s m args below meth c Z B own nm ml ret n0 T' h' k n → Wr h h' a j.toNatClampNeg v → Arv Z h' a kk ty z (vs.set i v) dv → Go p e below s n0 Q kC kS (T'.setTop (mkF m (pc + 1) Ls st))) : Go p e below s n0 Q kC kS (T.setTop (mkF m pc Ls (v :: .int j :: .ref a :: st))) := by
  obtain ⟨⟨hx, hby, hZ, q⟩, locs, X, eT, N⟩ := X
  obtain ⟨cl, A, q1, S, hz, H, G⟩ := A
  obtain ⟨T', h', X', e', W', st'⟩ := stR X hx hZ eT A (inb_of S hj) hty (F cl A q1) (g := mkF m pc Ls (v :: .int j :: .ref a :: st)) rfl rfl (by rw [hby]; exact hd)
  exact (r T' h' ⟨⟨hx, hby, hZ, q⟩, _, X', e', Fr.snoc X' N ha⟩ W' (Arv.set A q1 S hz H G hf W' i hi hl)).st st'
theorem acmp_ (X : St p l e R s m args below meth c Z B own nm ml ret n0 T h k n) {cd : ACond} {pc pc' : Nat} {Ls : Array Slot} {st : List Value} {o : Int} {x y : Value} {same : Bool} (hd : decode B pc = .ok (.if_acmp cd o, 3)) (h1 : x.isRef = true) (h2 : y.isRef = true) (hq : decide (x = y) = same) (ho : 0 ≤ (pc : Int) + o) (hp : pc' = if acV cd same = true then ((pc : Int) + o).toNat else pc + 3)
    (r : Go p e below s n0 Q kC kS (T.setTop (mkF m pc' Ls st))) : Go p e below s n0 Q kC kS (T.setTop (mkF m pc Ls (y :: x :: st))) := by
  obtain ⟨⟨hx, rfl, -⟩, locs, X, -⟩ := X
  exact r.st fun u kk => Jvm.RoadKit.acmp (g := mkF m pc Ls (y :: x :: st)) X hx rfl h1 h2 rfl hd rfl hq ho hp kk

theorem gridM3_ (X : St p l e R s m args below meth c Z B own nm ml ret n0 T h k n) {a0 : Array Value} {C ad : String} {ty : FieldType} {index : Nat} {zk : Int32} {pc : Nat} {Ls : Array Slot} {st : List Value} (cap : Nat) (dv : Value) (hd : decode B pc = .ok (.multianewarray index 2, 4)) (hC : (FieldType.array ty).toString = C) (had : "[" ++ C = ad) (w1 : (Cond.classLink own index ad).before a0 Z = true) (w2 : (Cond.arrayOver (.array ty)).before a0 Z = true) (w3 : (Cond.arrayClass ty).before a0 Z = true) (hdv : defaultValue ty = dv) (hk : ¬ zk < 0) (hcap : zk.toNatClampNeg ≤ cap) (hb : cap * 8 ≤ 536870912) (hdf : fits ty (defaultValue ty) = true) (hdd : (defaultValue ty).isDefault = true) (hc : k + (1 + 3) ≤ R.cells) (hl : n + (3 + 3 * cap) ≤ R.slots)
    (r : ∀ T' h' a x0 x1 x2 kk comp, a = h.size → x0 = a + 1 → x1 = a + 2 → x2 = a + 3 → St p l e R s m args below meth c Z B own nm ml ret n0 T' h' (k + (1 + 3)) (n + (3 + 3 * cap)) → Ext h h' → Arv Z h' a kk (.array ty) 3 [.ref x0, .ref x1, .ref x2] .null → OvrA Z kk ty C → Exa Z h' a ad → Arv Z h' x0 comp ty zk [] dv → Arv Z h' x1 comp ty zk [] dv → Arv Z h' x2 comp ty zk [] dv → Exa Z h' x0 C → Exa Z h' x1 C → Exa Z h' x2 C → Go p e below s n0 Q kC kS (T'.setTop (mkF m (pc + 4) Ls (.ref a :: st)))) : Go p e below s n0 Q kC kS (T.setTop (mkF m pc Ls (.int zk :: .int 3 :: st))) := by
  subst hdv
  obtain ⟨⟨hx, hby, hZ, hown, q⟩, locs, X, eT, N⟩ := X
  obtain ⟨T', h', cA, comp, X', e', E', A', O', G', I', st'⟩ := gridM X hx hZ hown hC had w1 w2 w3 eT (g := mkF m pc Ls (.int zk :: .int 3 :: st)) rfl (by rw [hby]; exact hd) rfl (by decide) hk (xs := [h.size + 1 + 0, h.size + 1 + 1, h.size + 1 + 2]) (N := 3) rfl rfl hcap hb (by decide) hdf hdd hc hl
  exact (r T' h' _ _ _ _ cA comp rfl rfl rfl rfl ⟨⟨hx, hby, hZ, hown, q⟩, locs, X', e', N⟩ E' A' O' G' (Arv.new (I' 0 _ rfl).1 hk) (Arv.new (I' 1 _ rfl).1 hk) (Arv.new (I' 2 _ rfl).1 hk) (I' 0 _ rfl).2 (I' 1 _ rfl).2 (I' 2 _ rfl).2).st st'

theorem callS_ (X : St p l e R s m args below meth c Z B own nm ml ret n0 T h k n) {a0 : Array Value} {idx W pc : Nat} {Ls : Array Slot} {rest : List Value} {argsL : List Value} {y : MethodName} {bytes : ByteArray} {maxL : Nat} {rt : Option FieldType} {rm : Room} {Qc : Option Value → Heap → Prop} (hd : decode B pc = .ok (.invokestatic idx, 3)) (w1 : (Cond.methodLink own idx y).before a0 Z = true) (w2 : (Cond.static y).before a0 Z = true) (w3 : (Cond.initialized y.cls).before a0 Z = true) (w4 : (Cond.code y bytes maxL rt).before a0 Z = true)
    (hy : y.cls ≠ "java/lang/invoke/MethodHandle" ∧ y.cls ≠ "java/lang/invoke/VarHandle") (hM : Con l Z y [] bytes maxL rt rm argsL.toArray h n0 Qc) (hlen : ∀ sig, parseMethodDescriptor y.desc = some sig → argsL.length = sig.parameters.length) (hsz : Ls.size = ml) {stk : List Value} (hs : stk = argsL.reverse ++ rest)
    (hW : 2 * 0 + (rest.map fun v => v.category).sum ≤ W) (hf : rm.frames + 1 ≤ R.frames) (hl : W + (maxL + 11) + rm.locals ≤ R.locals) (hc : k + rm.cells ≤ R.cells) (hn : n + rm.slots ≤ R.slots)
    (r : ∀ T' h' v, St p l e R s m args below meth c Z B own nm ml ret n0 T' h' (k + rm.cells) (n + rm.slots) → Qc v h' → Go p e below s n0 Q kC kS (T'.setTop (mkF m (pc + 3) Ls (v.toList ++ rest)))) : Go p e below s n0 Q kC kS (T.setTop (mkF m pc Ls stk)) := by
  obtain ⟨⟨hx, hby, hZ, hown, hml, q⟩, locs, X, eT, N⟩ := X
  obtain ⟨v, vm1, ⟨T', L', k', n'⟩, -, X', ⟨Lc, ⟨hQ, N'⟩, l1, l2, l3⟩, st'⟩ := Jvm.LawKit.callS X hx (y := y) hown (mvT hZ w1) (mvT hZ w2) (mvT hZ w3) (mvT hZ w4) hy (backOf (Q := fun v h L => Qc v h ∧ Fr n0 L) hM hZ w4 w3 hf hl) (g := mkF m pc Ls stk) rfl (by rw [hml]; exact hsz) (argsL := argsL) (rest := rest) hlen hs hW (by rw [hby]; exact hd) (fun _ _ => ⟨rfl, eT, hc, hn⟩)
  dsimp only [Pt.U, Pt.locs, Pt.cells, Pt.slots] at X' l1 l2 l3 st' hQ
  subst l1 l2 l3
  exact (r T' T'.heap v ⟨⟨hx, hby, hZ, hown, hml, q⟩, _, X', rfl, Fr.app N N'⟩ hQ).st st'
theorem Go.tr {t t' : State} (r : Go p e below s n0 Q kC kS t') (q : Steps p.tables e below t t') : Go p e below s n0 Q kC kS t := r.st fun u kk => q.trans kk
theorem callI_ (X : St p l e R s m args below meth c Z B own nm ml ret n0 T h k n) {a0 : Array Value} {idx W pc : Nat} {Ls : Array Slot} {rest : List Value} {argsL : List Value} {a : Addr} {y : MethodName} {bytes : ByteArray} {maxL : Nat} {rm : Room} {Qc : Option Value → Heap → Prop} (hd : decode B pc = .ok (.invokespecial idx, 3)) (hin : y.name = "<init>") (w1 : (Cond.methodLink own idx y).before a0 Z = true) (w2 : (Cond.instanceMethod y).before a0 Z = true) (w3 : (Cond.initialized y.cls).before a0 Z = true) (w4 : (Cond.code y bytes maxL none).before a0 Z = true)
    (hy : y.cls ≠ "java/lang/invoke/MethodHandle" ∧ y.cls ≠ "java/lang/invoke/VarHandle") (hM : Con l Z y [] bytes maxL none rm (.ref a :: argsL).toArray h n0 Qc) (hlen : ∀ sig, parseMethodDescriptor y.desc = some sig → argsL.length = sig.parameters.length) (hsz : Ls.size = ml) {stk : List Value} (hs : stk = argsL.reverse ++ .ref a :: rest)
    (hW : 2 * 0 + (rest.map fun v => v.category).sum ≤ W) (hf : rm.frames + 1 ≤ R.frames) (hl : W + (maxL + 11) + rm.locals ≤ R.locals) (hc : k + rm.cells ≤ R.cells) (hn : n + rm.slots ≤ R.slots)
    (r : ∀ T' h' v, St p l e R s m args below meth c Z B own nm ml ret n0 T' h' (k + rm.cells) (n + rm.slots) → Qc v h' → Go p e below s n0 Q kC kS (T'.setTop (mkF m (pc + 3) Ls (v.toList ++ rest)))) : Go p e below s n0 Q kC kS (T.setTop (mkF m pc Ls stk)) := by
  obtain ⟨⟨hx, hby, hZ, hown, hml, q⟩, locs, X, eT, N⟩ := X
  obtain ⟨v, vm1, ⟨T', L', k', n'⟩, -, X', ⟨Lc, ⟨hQ, N'⟩, l1, l2, l3⟩, st'⟩ := X.specialBack hx (y := y) hin hown (mvT hZ w1) (mvT hZ w2) (mvT hZ w4) hy (backOf (Q := fun v h L => Qc v h ∧ Fr n0 L) hM hZ w4 w3 hf hl) (g := mkF m pc Ls stk) rfl (by rw [hml]; exact hsz) (Steps.refl _) (a := a) (argsL := argsL) (rest := rest) hlen hs hW (by rw [hby]; exact hd) (fun _ _ => ⟨rfl, eT, hc, hn⟩)
  dsimp only [Pt.U, Pt.locs, Pt.cells, Pt.slots] at X' l1 l2 l3 st' hQ
  subst l1 l2 l3
  exact (r T' T'.heap v ⟨⟨hx, hby, hZ, hown, hml, q⟩, _, X', rfl, Fr.app N N'⟩ hQ).tr st'
theorem callV_ (X : St p l e R s m args below meth c Z B own nm ml ret n0 T h k n) {a0 : Array Value} {idx W pc : Nat} {Ls : Array Slot} {rest : List Value} {argsL : List Value} {a : Addr} {C : String} {y z : MethodName} {bytes : ByteArray} {maxL : Nat} {rt : Option FieldType} {rm : Room} {Qc : Option Value → Heap → Prop} (hd : decode B pc = .ok (.invokevirtual idx, 3)) (w1 : (Cond.methodLink own idx y).before a0 Z = true) (w2 : (Cond.declares y).before a0 Z = true) (w5 : (Cond.selects C y z).before a0 Z = true) (w6 : (Cond.instanceMethod z).before a0 Z = true) (hzy : z = y) (w3 : (Cond.initialized z.cls).before a0 Z = true) (w4 : (Cond.code z bytes maxL rt).before a0 Z = true)
    (hy : y.cls ≠ "java/lang/invoke/MethodHandle" ∧ y.cls ≠ "java/lang/invoke/VarHandle") (E : Exa Z h a C) (hM : Con l Z z [] bytes maxL rt rm (.ref a :: argsL).toArray h n0 Qc) (hlen : ∀ sig, parseMethodDescriptor y.desc = some sig → argsL.length = sig.parameters.length) (hsz : Ls.size = ml) {stk : List Value} (hs : stk = argsL.reverse ++ .ref a :: rest)
    (hW : 2 * 0 + (rest.map fun v => v.category).sum ≤ W) (hf : rm.frames + 1 ≤ R.frames) (hl : W + (maxL + 11) + rm.locals ≤ R.locals) (hc : k + rm.cells ≤ R.cells) (hn : n + rm.slots ≤ R.slots)
    (r : ∀ T' h' v, St p l e R s m args below meth c Z B own nm ml ret n0 T' h' (k + rm.cells) (n + rm.slots) → Qc v h' → Go p e below s n0 Q kC kS (T'.setTop (mkF m (pc + 3) Ls (v.toList ++ rest)))) : Go p e below s n0 Q kC kS (T.setTop (mkF m pc Ls stk)) := by
  obtain ⟨⟨hx, hby, hZ, hown, hml, q⟩, locs, X, eT, N⟩ := X
  subst hzy
  obtain ⟨cq, kq, qa, qb, qc⟩ := isOf hZ eT E
  obtain ⟨v, vm1, ⟨T', L', k', n'⟩, -, X', ⟨Lc, ⟨hQ, N'⟩, l1, l2, l3⟩, st'⟩ := X.virtualBack hx (y := z) (z := z) hown (mvT hZ w1) (mvT hZ w2) (notFace_of_selects (args := #[]) (mvT hZ w5)) (mvT hZ w5) (mvT hZ w6) hy (backOf (Q := fun v h L => Qc v h ∧ Fr n0 L) hM hZ w4 w3 hf hl) qa qc (g := mkF m pc Ls stk) rfl (by rw [hml]; exact hsz) (Steps.refl _) (argsL := argsL) (rest := rest) hlen hs hW (by rw [hby]; exact hd) (fun _ _ => ⟨rfl, eT, hc, hn⟩)
  dsimp only [Pt.U, Pt.locs, Pt.cells, Pt.slots] at X' l1 l2 l3 st' hQ
  subst l1 l2 l3
  exact (r T' T'.heap v ⟨⟨hx, hby, hZ, hown, hml, q⟩, _, X', rfl, Fr.app N N'⟩ hQ).tr st'

theorem absD_ (X : St p l e R s m args below meth c Z B own nm ml ret n0 T h k n) {a0 : Array Value} {idx W pc : Nat} {Ls : Array Slot} {st : List Value} {x : UInt64} (hd : decode B pc = .ok (.invokestatic idx, 3)) (w1 : (Cond.methodLink own idx Jvm.Free.Fl.Abs.absDN).before a0 Z = true) (w2 : (Cond.static Jvm.Free.Fl.Abs.absDN).before a0 Z = true) (w3 : (Cond.initialized "java/lang/Math").before a0 Z = true) (w4 : (Cond.code Jvm.Free.Fl.Abs.absDN Jvm.Free.Fl.Abs.absDCode 2 (some .double)).before a0 Z = true) (nx : NoNaN64 x) (hlen : ∀ sig, parseMethodDescriptor "(D)D" = some sig → [Value.double x].length = sig.parameters.length) (hsz : Ls.size = ml)
    (hW : 2 * 0 + (st.map fun v => v.category).sum ≤ W) (hf : 1 ≤ R.frames) (hl : W + 13 ≤ R.locals) (hk : k ≤ R.cells) (hn : n ≤ R.slots)
    (r : ∀ T', St p l e R s m args below meth c Z B own nm ml ret n0 T' h k n → Go p e below s n0 Q kC kS (T'.setTop (mkF m (pc + 3) Ls (.double (x &&& 0x7fffffffffffffff) :: st)))) : Go p e below s n0 Q kC kS (T.setTop (mkF m pc Ls (.double x :: st))) := by
  obtain ⟨⟨hx, hby, hZ, hown, hml, q⟩, locs, X, eT, N⟩ := X
  obtain ⟨T', X', e', st'⟩ := natS X hx hZ hown w1 w2 w3 w4 (by decide) eT (W := W) (fun hc => Jvm.Free.Fl.Abs.absD_pays x hc hf hl) (g := mkF m pc Ls (.double x :: st)) rfl (by rw [hml]; exact hsz) (argsL := [.double x]) (rest := st) hlen rfl hW (by rw [hby]; exact hd) hk hn ⟨rfl, nx⟩ rfl
  exact (r T' ⟨⟨hx, hby, hZ, hown, hml, q⟩, locs, X', e', N⟩).st st'

theorem callP_ (X : St p l e R s m args below meth c Z B own nm ml ret n0 T h k n) {a0 : Array Value} {idx W pc : Nat} {Ls : Array Slot} {rest : List Value} {argsL : List Value} {a : Addr} {C D : String} {y z' z : MethodName} {bytes : ByteArray} {maxL : Nat} {rt : Option FieldType} {rm : Room} {Qc : Option Value → Heap → Prop} (hd : decode B pc = .ok (.invokevirtual idx, 3)) (w1 : (Cond.methodLink own idx y).before a0 Z = true) (w2 : (Cond.instanceMethod y).before a0 Z = true) (w5 : (Cond.selects D z' z).before a0 Z = true) (hz : z.cls = y.cls) (w6 : (Cond.privateMethod y).before a0 Z = true) (w3 : (Cond.initialized y.cls).before a0 Z = true) (w4 : (Cond.code y bytes maxL rt).before a0 Z = true)
    (hy : y.cls ≠ "java/lang/invoke/MethodHandle" ∧ y.cls ≠ "java/lang/invoke/VarHandle") (E : Exa Z h a C) (hM : Con l Z y [] bytes maxL rt rm (.ref a :: argsL).toArray h n0 Qc) (hlen : ∀ sig, parseMethodDescriptor y.desc = some sig → argsL.length = sig.parameters.length) (hsz : Ls.size = ml) {stk : List Value} (hs : stk = argsL.reverse ++ .ref a :: rest)
    (hW : 2 * 0 + (rest.map fun v => v.category).sum ≤ W) (hf : rm.frames + 1 ≤ R.frames) (hl : W + (maxL + 11) + rm.locals ≤ R.locals) (hc : k + rm.cells ≤ R.cells) (hn : n + rm.slots ≤ R.slots)
    (r : ∀ T' h' v, St p l e R s m args below meth c Z B own nm ml ret n0 T' h' (k + rm.cells) (n + rm.slots) → Qc v h' → Go p e below s n0 Q kC kS (T'.setTop (mkF m (pc + 3) Ls (v.toList ++ rest)))) : Go p e below s n0 Q kC kS (T.setTop (mkF m pc Ls stk)) := by
  obtain ⟨⟨hx, hby, hZ, hown, hml, q⟩, locs, X, eT, N⟩ := X
  obtain ⟨mk, methM, hnamed, hmethM, hstM, habM⟩ := Cond.instanceMethod_spec (args := args) (mvT hZ w2)
  obtain ⟨methM', cM, hmethM', -, -, -, -, -, -, hsigM⟩ := Cond.code_spec hnamed (mvT (args := args) hZ w4)
  cases hmethM.symm.trans hmethM'
  obtain ⟨c2, r2, m2, -, -, q3, -, kP, hkP, hkPi⟩ := Cond.selects_spec (args := args) (mvT hZ w5)
  have hcl : m2.cls = mk.cls := Option.some.inj ((findClass_of_methodNamed q3).symm.trans (by rw [hz]; exact findClass_of_methodNamed hnamed))
  rw [hcl] at hkP
  obtain ⟨cell, hcell, hobj⟩ := E.cell
  have hsel : selectMethod e.platform s.vm cell.cls mk = .method mk := selectMethod_private hmethM (Cond.privateMethod_at (mvP hZ w6 (args := args)) mk methM hnamed hmethM)
  obtain ⟨vm1, X1, step1⟩ := X.invokevirtual hx hown (mvT hZ w1) hnamed hmethM hstM hkP hkPi hy (a := a) (cell := cell) (by rw [eT]; exact hcell) hobj hsel hmethM habM hkP hkPi (g := mkF m pc Ls stk) rfl (argsL := argsL) (rest := rest) (hlen _ hsigM) hs (by rw [hby]; exact hd)
  obtain ⟨v, ⟨T', L', k', n'⟩, X', ⟨Lc, ⟨hQ, N'⟩, l1, l2, l3⟩, st'⟩ := (backOf (Q := fun v h L => Qc v h ∧ Fr n0 L) hM hZ w4 w3 hf hl) m meth c ⟨T.setVm vm1, locs, k, n⟩ { mkF m pc Ls stk with stack := rest } (.invokevirtual idx) mk (.ref a :: argsL).toArray X1 rfl (by rw [hml]; exact hsz) (by rw [hby]; exact hd) hW (X1.named hnamed) ⟨rfl, eT, hc, hn⟩
  dsimp only [Pt.U, Pt.locs, Pt.cells, Pt.slots] at X' l1 l2 l3 st' hQ
  subst l1 l2 l3
  exact (r T' T'.heap v ⟨⟨hx, hby, hZ, hown, hml, q⟩, _, X', rfl, Fr.app N N'⟩ hQ).tr ((step1 _ fun acts => by rw [doInvoke_state]; exact Steps.refl _).trans st')

theorem callSN_ (X : St p l e R s m args below meth c Z B own nm ml ret n0 T h k n) {a0 : Array Value} {host : String} {idx W pc : Nat} {Ls : Array Slot} {rest : List Value} {argsL : List Value} {y : MethodName} {bytes : ByteArray} {maxL : Nat} {rt : Option FieldType} {rm : Room} {Qc : Option Value → Heap → Prop} (hd : decode B pc = .ok (.invokestatic idx, 3)) (w1 : (Cond.methodLinkNest own idx y host).before a0 Z = true) (w2 : (Cond.static y).before a0 Z = true) (w3 : (Cond.initialized y.cls).before a0 Z = true) (w4 : (Cond.code y bytes maxL rt).before a0 Z = true)
    (hy : y.cls ≠ "java/lang/invoke/MethodHandle" ∧ y.cls ≠ "java/lang/invoke/VarHandle") (hM : Con l Z y [] bytes maxL rt rm argsL.toArray h n0 Qc) (hlen : ∀ sig, parseMethodDescriptor y.desc = some sig → argsL.length = sig.parameters.length) (hsz : Ls.size = ml) {stk : List Value} (hs : stk = argsL.reverse ++ rest)
    (hW : 2 * 0 + (rest.map fun v => v.category).sum ≤ W) (hf : rm.frames + 1 ≤ R.frames) (hl : W + (maxL + 11) + rm.locals ≤ R.locals) (hc : k + rm.cells ≤ R.cells) (hn : n + rm.slots ≤ R.slots)
    (r : ∀ T' h' v, St p l e R s m args below meth c Z B own nm ml ret n0 T' h' (k + rm.cells) (n + rm.slots) → Qc v h' → Go p e below s n0 Q kC kS (T'.setTop (mkF m (pc + 3) Ls (v.toList ++ rest)))) : Go p e below s n0 Q kC kS (T.setTop (mkF m pc Ls stk)) := by
  obtain ⟨⟨hx, hby, hZ, hown, hml, q⟩, locs, X, eT, N⟩ := X
  obtain ⟨v, vm1, ⟨T', L', k', n'⟩, -, X', ⟨Lc, ⟨hQ, N'⟩, l1, l2, l3⟩, st'⟩ := Jvm.RoadKit.callSN X hx (y := y) hown ((Cond.methodLinkNest_wide hZ w1 :) ) (mvT hZ w2) (mvT hZ w3) (mvT hZ w4) hy (backOf (Q := fun v h L => Qc v h ∧ Fr n0 L) hM hZ w4 w3 hf hl) (g := mkF m pc Ls stk) rfl (by rw [hml]; exact hsz) (argsL := argsL) (rest := rest) hlen hs hW (by rw [hby]; exact hd) (fun _ _ => ⟨rfl, eT, hc, hn⟩)
  dsimp only [Pt.U, Pt.locs, Pt.cells, Pt.slots] at X' l1 l2 l3 st' hQ
  subst l1 l2 l3
  exact (r T' T'.heap v ⟨⟨hx, hby, hZ, hown, hml, q⟩, _, X', rfl, Fr.app N N'⟩ hQ).tr st'

theorem signD_ (X : St p l e R s m args below meth c Z B own nm ml ret n0 T h k n) {a0 : Array Value} {idx W pc maxL : Nat} {bytes : ByteArray} {Ls : Array Slot} {st : List Value} {x : UInt64} (hd : decode B pc = .ok (.invokestatic idx, 3)) (w1 : (Cond.methodLink own idx Jvm.Free.NT.mathSignum64N).before a0 Z = true) (w2 : (Cond.static Jvm.Free.NT.mathSignum64N).before a0 Z = true) (w3 : (Cond.initialized "java/lang/Math").before a0 Z = true) (w4 : (Cond.code Jvm.Free.NT.mathSignum64N bytes maxL (some .double)).before a0 Z = true) (nx : NoNaN64 x) (hlen : ∀ sig, parseMethodDescriptor "(D)D" = some sig → [Value.double x].length = sig.parameters.length) (hsz : Ls.size = ml)
    (hW : 2 * 0 + (st.map fun v => v.category).sum ≤ W) (hf : 1 ≤ R.frames) (hl : W + (maxL + 11) ≤ R.locals) (hk : k ≤ R.cells) (hn : n ≤ R.slots)
    (r : ∀ T', St p l e R s m args below meth c Z B own nm ml ret n0 T' h k n → Go p e below s n0 Q kC kS (T'.setTop (mkF m (pc + 3) Ls (.double (Jvm.signum64 x) :: st)))) : Go p e below s n0 Q kC kS (T.setTop (mkF m pc Ls (.double x :: st))) := by
  obtain ⟨⟨hx, hby, hZ, hown, hml, q⟩, locs, X, eT, N⟩ := X
  obtain ⟨T', X', e', st'⟩ := natS X hx hZ hown w1 w2 w3 w4 (by decide) eT (W := W) (F := fun a' => a' = #[.double x] ∧ NoNaN64 x) (val := .double (Jvm.signum64 x)) (fun hc => by
    intro m' meth' c' A g ig mk a' X1 hg hsize hdg hW' hnamed ⟨_, _, ha', ha⟩
    obtain ⟨v, B', X2, ⟨hB, hv⟩, st2⟩ := (Jvm.Free.NT.Signum64.pays hc (mvT hZ w2) hf hl) m' meth' c' A g ig mk a' X1 hg hsize hdg hW' hnamed ⟨x, ha', Jvm.Free.Fl.Abs.dIsNaN_false ha⟩
    exact ⟨v, B', X2, ⟨hv x ⟨ha', Jvm.Free.Fl.Abs.dIsNaN_false ha⟩, hB⟩, st2⟩) (g := mkF m pc Ls (.double x :: st)) rfl (by rw [hml]; exact hsz) (argsL := [.double x]) (rest := st) hlen rfl hW (by rw [hby]; exact hd) hk hn ⟨rfl, nx⟩ rfl
  exact (r T' ⟨⟨hx, hby, hZ, hown, hml, q⟩, locs, X', e', N⟩).st st'
theorem nn_sign {x : UInt64} (h : NoNaN64 x) : NoNaN64 (Jvm.signum64 x) := by
  obtain ⟨o, ho⟩ := Jvm.Free.Fl.dcmp_of_noNaN h (b := 0) (by unfold NoNaN64; decide)
  cases o with
  | lt => rw [Jvm.FP.V.signum_neg ho]; unfold NoNaN64; decide
  | gt => rw [Jvm.FP.V.signum_pos ho]; unfold NoNaN64; decide
  | eq => rw [Jvm.FP.V.signum_zero ho]; exact h

theorem cpA_ (X : St p l e R s m args below meth c Z B own nm ml ret n0 T h k n) {a0 : Array Value} {idx W pc : Nat} {Ls : Array Slot} {rest : List Value} {a b : Addr} {ka kb : ClassId} {ty : FieldType} {z z' sp dp nn : Int32} {vs vd us : List Value} {dv dd : Value} (hd : decode B pc = .ok (.invokestatic idx, 3)) (w1 : (Cond.methodLink own idx Jvm.Stand.acN).before a0 Z = true) (w2 : (Cond.native Jvm.Stand.acN).before a0 Z = true) (w3 : (Cond.static Jvm.Stand.acN).before a0 Z = true) (w4 : (Cond.initialized "java/lang/System").before a0 Z = true)
    (A : Arv Z h a ka ty z vs dv) (V : Arv Z h b kb ty z' vd dd) (hty : refKind ty = false) (h1 : ¬ sp < 0) (h2 : ¬ dp < 0) (h3 : ¬ nn < 0) (h4 : sp.toNatClampNeg + nn.toNatClampNeg ≤ z.toNatClampNeg) (h5 : dp.toNatClampNeg + nn.toNatClampNeg ≤ z'.toNatClampNeg) (hus : us = (List.range nn.toNatClampNeg).map fun i => vs.getD (sp.toNatClampNeg + i) dv) (hl : dp.toNatClampNeg + nn.toNatClampNeg ≤ vd.length) (ge : n0 ≤ b) (hsz : Ls.size = ml)
    (hf : 1 ≤ R.frames) (hW : 2 * 0 + (rest.map fun v => v.category).sum ≤ W) (hlo : W + (nativeFrameWords "java/lang/System" "arraycopy" 5 + 11) ≤ R.locals)
    (r : ∀ T' h', St p l e R s m args below meth c Z B own nm ml ret n0 T' h' k n → Keep h h' [b] → Arv Z h' b kb ty z' (vd.take dp.toNatClampNeg ++ us ++ vd.drop (dp.toNatClampNeg + nn.toNatClampNeg)) dd → Go p e below s n0 Q kC kS (T'.setTop (mkF m (pc + 3) Ls rest))) : Go p e below s n0 Q kC kS (T.setTop (mkF m pc Ls (.int nn :: .int dp :: .ref b :: .int sp :: .ref a :: rest))) := by
  obtain ⟨⟨hx, hby, hZ, hown, hml, q⟩, locs, X, eT, N⟩ := X
  obtain ⟨T', h', L', X', e', N', K', V', st'⟩ := cpA X hx hZ hown w1 w2 w3 w4 eT A V (Or.inl ⟨rfl, hty⟩) h1 h2 h3 h4 h5 hus hl N ge (g := mkF m pc Ls (.int nn :: .int dp :: .ref b :: .int sp :: .ref a :: rest)) rfl (by rw [hml]; exact hsz) rfl (by rw [hby]; exact hd) hf hW hlo
  exact (r T' h' ⟨⟨hx, hby, hZ, hown, hml, q⟩, L', X', e', N'⟩ K' V').st st'
theorem clone_ (X : St p l e R s m args below meth c Z B own nm ml ret n0 T h k n) {a0 : Array Value} {ad : String} {idx W pc : Nat} {Ls : Array Slot} {rest : List Value} {a : Addr} {ka : ClassId} {ty : FieldType} {z : Int32} {vs : List Value} {dv : Value} (cap : Nat) (hd : decode B pc = .ok (.invokevirtual idx, 3)) (w1 : (Cond.methodLink own idx ⟨ad, "clone", "()Ljava/lang/Object;"⟩).before a0 Z = true) (w2 : (Cond.sameMethod ad "java/lang/Object" "clone" "()Ljava/lang/Object;").before a0 Z = true) (w3 : (Cond.native ⟨"java/lang/Object", "clone", "()Ljava/lang/Object;"⟩).before a0 Z = true)
    (w4 : (Cond.instanceMethod ⟨"java/lang/Object", "clone", "()Ljava/lang/Object;"⟩).before a0 Z = true) (w5 : (Cond.selects ad ⟨ad, "clone", "()Ljava/lang/Object;"⟩ ⟨"java/lang/Object", "clone", "()Ljava/lang/Object;"⟩).before a0 Z = true) (w6 : (Cond.castable ad "java/lang/Cloneable").before a0 Z = true)
    (F : Arv Z h a ka ty z vs dv) (E : Exa Z h a ad) (hsz : Ls.size = ml) (hf : 1 ≤ R.frames) (hW : 2 * 0 + (rest.map fun v => v.category).sum ≤ W) (hl : W + 14 ≤ R.locals) (hcap : z.toNatClampNeg ≤ cap) (hc : k + 1 ≤ R.cells) (hsl : n + cap ≤ R.slots)
    (r : ∀ T' h' b, b = h.size → St p l e R s m args below meth c Z B own nm ml ret n0 T' h' (k + 1) (n + cap) → Ext h h' → Arv Z h' b ka ty z vs dv → Exa Z h' b ad → Go p e below s n0 Q kC kS (T'.setTop (mkF m (pc + 3) Ls (.ref b :: rest)))) : Go p e below s n0 Q kC kS (T.setTop (mkF m pc Ls (.ref a :: rest))) := by
  obtain ⟨⟨hx, hby, hZ, hown, hml, q⟩, locs, X, eT, N⟩ := X
  obtain ⟨T', h', X', e', E', V', G', st'⟩ := cloneH X hx hZ hown w1 w2 w3 w4 w5 w6 eT F.arh E (g := mkF m pc Ls (.ref a :: rest)) rfl (by rw [hml]; exact hsz) rfl (by rw [hby]; exact hd) hf hW hl hcap hc hsl
  exact (r T' h' _ rfl ⟨⟨hx, hby, hZ, hown, hml, q⟩, locs, X', e', N⟩ E' V' G').st st'
theorem cast_ (X : St p l e R s m args below meth c Z B own nm ml ret n0 T h k n) {a0 : Array Value} {K : String} {idx pc : Nat} {Ls : Array Slot} {rest : List Value} {a : Addr} (hd : decode B pc = .ok (.checkcast idx, 3)) (w : (Cond.classLink own idx K).before a0 Z = true) (F : Ins Z h a K true)
    (r : ∀ T', St p l e R s m args below meth c Z B own nm ml ret n0 T' h k n → Go p e below s n0 Q kC kS (T'.setTop (mkF m (pc + 3) Ls (.ref a :: rest)))) : Go p e below s n0 Q kC kS (T.setTop (mkF m pc Ls (.ref a :: rest))) := by
  obtain ⟨⟨hx, hby, hZ, hown, q⟩, locs, X, eT, N⟩ := X
  obtain ⟨T', X', e', st'⟩ := castY X hx hZ hown w eT F (g := mkF m pc Ls (.ref a :: rest)) rfl rfl (by rw [hby]; exact hd)
  exact (r T' ⟨⟨hx, hby, hZ, hown, q⟩, locs, X', e', N⟩).st st'

theorem enter {y : MethodName} {ws : List Jvm.Cond} {rm : Room} {as : Array Value} {h0 : Heap} {Ls : Array Slot} {own nm : String} (hpl : plainFor y = true) (ho : y.cls = own) (hnm : y.name = nm) (hef : ∀ m, entryFrame m as ml = mkF m 0 Ls [])
    (body : ∀ p e s m below meth c T, St p l e rm s m as below meth c Z B own nm ml ret n0 T h0 0 0 → Go p e below s n0 Q rm.cells rm.slots (T.setTop (mkF m 0 Ls []))) : Con l Z y ws B ml ret rm as h0 n0 Q := by
  refine MetFree.of_bodySF hpl hisR ?_
  intro p e s m args below meth c s₁ Bd hml0 hP hK
  obtain ⟨rfl, hZ, hh⟩ := hP
  have X0 : Stand p l e rm s m _ below meth c s₁ [] 0 0 := Stand.of_body Bd
  have e0 : s₁.heap = h0 := by rw [← hh, Bd.state]; rfl
  rw [hef]
  exact body p e s m below meth c s₁ ⟨⟨Bd.exec, Bd.bytes, hZ, ho ▸ findClass_of_methodNamed Bd.named, hml0, Bd.returns, Bd.notSynchronized, (name_of_methodNamed Bd.named Bd.method).1.trans hnm⟩, [], X0, e0, Fr.nil n0⟩
theorem Con.imp {y : MethodName} {ws : List Jvm.Cond} {rm : Room} {as : Array Value} {h0 : Heap} {Q' : Option Value → Heap → Prop} (C : Con l Z y ws B ml ret rm as h0 n0 Q') (q : ∀ v h, Q' v h → Q v h) : Con l Z y ws B ml ret rm as h0 n0 Q := by
  intro p e ha hc hk s m args below hf happ hP hK
  obtain ⟨n, o, h1, h2, h3, v, L, h4, ⟨h5, h6⟩, h7⟩ := C p e ha hc hk s m args below hf happ hP hK
  exact ⟨n, o, h1, h2, h3, v, L, h4, ⟨q _ _ h5, h6⟩, h7⟩
end Kit
end Jvm.Own

namespace Jvm.Own
open Jvm.FP Jvm.FP.Core Jvm.Free.Fl
/-- one, in units of 2^-1074 -/
def U : Int := (one64 : Int)
theorem U_pos : 0 < U := by unfold U; have := one64_pos; omega
theorem U_pow : U = 2 ^ 1074 := by unfold U one64; exact Int.natCast_pow 2 1074
theorem U_lt {a b : Int} : a * U < b * U ↔ a < b := Int.mul_lt_mul_right U_pos
theorem U_le {a b : Int} : a * U ≤ b * U ↔ a ≤ b := Int.mul_le_mul_right U_pos
theorem U_eq {a b : Int} : a * U = b * U ↔ a = b := Int.mul_eq_mul_right_iff (by have := U_pos; omega)
theorem nn_0 : NoNaN64 0 := by unfold NoNaN64; decide
theorem nn_1 : NoNaN64 4607182418800017408 := by unfold NoNaN64; decide
theorem fin_0 : Fin64 0 := by unfold Fin64; decide
theorem fin_1 : Fin64 4607182418800017408 := by unfold Fin64; decide
theorem dz_0 : dz 0 = 0 := zval64_zero
theorem dz_int {i : Int} {v : UInt64} (h : DInt i v) : Fin64 v ∧ dz v = i * U := by
  refine ⟨fin64_core.mpr ?_, DInt_zval h⟩
  unfold DInt at h
  cases hv : val64 v with
  | nan => rw [hv] at h; exact h.elim
  | inf q => rw [hv] at h; exact h.elim
  | fin s c q => exact ⟨s, c, q, hv⟩
theorem dz_1 : dz 4607182418800017408 = U := by rw [(dz_int dint_one).2, Int.one_mul]
theorem i2d_v {x : Int32} {v : UInt64} (h : FP.i2d x = v) : Fin64 v ∧ dz v = x.toInt * U := h ▸ dz_int (i2d_int x)
theorem l2d_v {x : Int64} {v : UInt64} (h : FP.l2d x = v) (hx : x.toInt.natAbs ≤ 2 ^ 53) : Fin64 v ∧ dz v = x.toInt * U := h ▸ dz_int (l2d_int hx)
theorem fin_val {x : UInt64} (h : Fin64 x) : ∃ s c q, val64 x = .fin s c q := fin64_core.mp h
/-- the greatest magnitude, and one more -/
def Top : Nat := b64.tails * 2 ^ (b64.exps - 2)
theorem Top_pow : Top = 2 ^ 2098 := by unfold Top; rw [tails_b64, show b64.exps - 2 = 2046 from by decide, ← Nat.pow_add]
theorem fin_lt {x : UInt64} (h : Fin64 x) : (dz x).natAbs < Top := by
  have := (fin64_core.mp h).zval_lt
  show (signed _ _).natAbs < _
  rw [natAbs_signed]; exact this
theorem fin_of {x : UInt64} (h : NoNaN64 x) (q : (dz x).natAbs < Top) : Fin64 x := by
  refine fin64_core.mpr ?_
  cases hv : val64 x with
  | nan => exact absurd hv (val64_no.mp h)
  | inf s =>
    have : (dz x).natAbs = Top := by
      show (signed _ (zmag b64 (val64 x))).natAbs = _
      rw [natAbs_signed, hv]; rfl
    omega
  | fin s c q => exact ⟨s, c, q, hv⟩
/-- a number of at most 53 digits, at any place within reach, is a double -/
theorem rep (k : Int) (j : Nat) (hk : k.natAbs < 2 ^ 53) (hj : j ≤ 2040) : ∃ V : UInt64, Fin64 V ∧ dz V = k * 2 ^ j := by
  obtain ⟨c', q', h1, h2⟩ := round_exact good_b64 (decide (k < 0)) (c := k.natAbs) (q := b64.qmin + (j : Int)) hk (by omega) (by
    have : b64.qmax = b64.qmin + 2045 := by decide
    omega)
  have hf : Core.fits b64 (.fin (decide (k < 0)) c' q') := h1 ▸ round_fits good_b64 _
  refine ⟨of64 (.fin (decide (k < 0)) c' q'), fin64_core.mpr ⟨_, _, _, val64_of64 hf⟩, ?_⟩
  show zval b64 (val64 _) = _
  rw [val64_of64 hf]
  show signed _ (inUnits c' q' b64.qmin) = _
  rw [h2]
  unfold inUnits
  rw [show (b64.qmin + (j : Int) - b64.qmin).toNat = j by omega, signed_mul, show ((2 ^ j : Nat) : Int) = 2 ^ j from Int.natCast_pow 2 j]
  congr 1
  unfold signed
  by_cases q : k < 0 <;> simp [q, sgn] <;> omega
theorem repU (k : Int) (j : Nat) (hk : k.natAbs < 2 ^ 53) (hj : j ≤ 1074) : ∃ V : UInt64, Fin64 V ∧ dz V * 2 ^ j = k * U := by
  obtain ⟨V, h1, h2⟩ := rep k (1074 - j) hk (by omega)
  refine ⟨V, h1, ?_⟩
  rw [h2, Int.mul_assoc, ← Int.pow_add, show 1074 - j + j = 1074 by omega, U_pow]
/-! sums -/
theorem dadd_le {a b V : UInt64} (fa : Fin64 a) (fb : Fin64 b) (nV : NoNaN64 V) (h : dz a + dz b ≤ dz V) : dz (FP.dadd a b) ≤ dz V := by
  show zval b64 (val64 (Core.dadd a b)) ≤ _
  rw [val64_dadd]
  exact sum_le good_b64 (fin_val fa) (fin_val fb) (val64_fits a) (val64_fits b) (val64_fits V) (nn_val nV) h
theorem dadd_ge {a b V : UInt64} (fa : Fin64 a) (fb : Fin64 b) (nV : NoNaN64 V) (h : dz V ≤ dz a + dz b) : dz V ≤ dz (FP.dadd a b) := by
  show _ ≤ zval b64 (val64 (Core.dadd a b))
  rw [val64_dadd]
  exact sum_ge good_b64 (fin_val fa) (fin_val fb) (val64_fits a) (val64_fits b) (val64_fits V) (nn_val nV) h
theorem neg_fin {d : Datum} (h : ∃ s c q, d = .fin s c q) : ∃ s c q, negate d = .fin s c q := by
  obtain ⟨s, c, q, rfl⟩ := h; exact ⟨_, _, _, rfl⟩
theorem dsub_le {a b V : UInt64} (fa : Fin64 a) (fb : Fin64 b) (nV : NoNaN64 V) (h : dz a - dz b ≤ dz V) : dz (FP.dsub a b) ≤ dz V := by
  show zval b64 (val64 (Core.dsub a b)) ≤ _
  rw [val64_dsub]
  refine sum_le good_b64 (fin_val fa) (neg_fin (fin_val fb)) (val64_fits a) (negate_fits (val64_fits b)) (val64_fits V) (nn_val nV) ?_
  rw [zval_negate]; exact h
theorem dsub_ge {a b V : UInt64} (fa : Fin64 a) (fb : Fin64 b) (nV : NoNaN64 V) (h : dz V ≤ dz a - dz b) : dz V ≤ dz (FP.dsub a b) := by
  show _ ≤ zval b64 (val64 (Core.dsub a b))
  rw [val64_dsub]
  refine sum_ge good_b64 (fin_val fa) (neg_fin (fin_val fb)) (val64_fits a) (negate_fits (val64_fits b)) (val64_fits V) (nn_val nV) ?_
  rw [zval_negate]; exact h
/-- a sum that is a double is exact -/
theorem dadd_x {a b v V : UInt64} (e : FP.dadd a b = v) (fa : Fin64 a) (fb : Fin64 b) (fV : Fin64 V) (h : dz a + dz b = dz V) : Fin64 v ∧ dz v = dz a + dz b := by
  subst e
  have q : dz (FP.dadd a b) = dz a + dz b := by
    have h1 := dadd_le fa fb fV.noNaN (Int.le_of_eq h)
    have h2 := dadd_ge fa fb fV.noNaN (Int.le_of_eq h.symm)
    omega
  exact ⟨fin_of (dadd_out fa.noNaN fb) (by rw [q, h]; exact fin_lt fV), q⟩
theorem dsub_x {a b v V : UInt64} (e : FP.dsub a b = v) (fa : Fin64 a) (fb : Fin64 b) (fV : Fin64 V) (h : dz a - dz b = dz V) : Fin64 v ∧ dz v = dz a - dz b := by
  subst e
  have q : dz (FP.dsub a b) = dz a - dz b := by
    have h1 := dsub_le fa fb fV.noNaN (Int.le_of_eq h)
    have h2 := dsub_ge fa fb fV.noNaN (Int.le_of_eq h.symm)
    omega
  exact ⟨fin_of (dsub_out fa.noNaN fb) (by rw [q, h]; exact fin_lt fV), q⟩
/-! products -/
theorem zval_fin (f : Fmt) (s : Bool) (c : Nat) (q : Int) : zval f (.fin s c q) = signed s (inUnits c q f.qmin) := rfl
theorem signed_xor' (s t : Bool) (c d : Nat) : signed (s != t) (c * d) = signed s c * signed t d := signed_xor s t c d
theorem pow_two_qmin : ((2 ^ (b64.qmin - 2 * b64.qmin).toNat : Nat) : Int) = U := by
  unfold U; rw [← pow_qmin64]; rfl
theorem dmul_le {a b V : UInt64} (fa : Fin64 a) (fb : Fin64 b) (nV : NoNaN64 V) (h : dz a * dz b ≤ dz V * U) : dz (FP.dmul a b) ≤ dz V := by
  obtain ⟨s, c, q, ha⟩ := fin_val fa
  obtain ⟨t, d, r, hb⟩ := fin_val fb
  have fa' := val64_fits a
  have fb' := val64_fits b
  unfold dz at h ⊢
  show zval b64 (val64 (Core.dmul a b)) ≤ _
  rw [val64_dmul]
  rw [ha] at fa' h ⊢
  rw [hb] at fb' h ⊢
  obtain ⟨h1, h2, h3⟩ := product_units fa' fb'
  rw [h1]
  refine zval_round_le good_b64 (val64_fits V) (nn_val nV) (e0 := 2 * b64.qmin) (by decide) h2 ?_
  rw [h3, pow_two_qmin, signed_xor']
  exact h
theorem dmul_ge {a b V : UInt64} (fa : Fin64 a) (fb : Fin64 b) (nV : NoNaN64 V) (h : dz V * U ≤ dz a * dz b) : dz V ≤ dz (FP.dmul a b) := by
  obtain ⟨s, c, q, ha⟩ := fin_val fa
  obtain ⟨t, d, r, hb⟩ := fin_val fb
  have fa' := val64_fits a
  have fb' := val64_fits b
  unfold dz at h ⊢
  show _ ≤ zval b64 (val64 (Core.dmul a b))
  rw [val64_dmul]
  rw [ha] at fa' h ⊢
  rw [hb] at fb' h ⊢
  obtain ⟨h1, h2, h3⟩ := product_units fa' fb'
  rw [h1]
  refine zval_round_ge good_b64 (val64_fits V) (nn_val nV) (e0 := 2 * b64.qmin) (by decide) h2 ?_
  rw [h3, pow_two_qmin, signed_xor']
  exact h
theorem dmul_x {a b v V : UInt64} (e : FP.dmul a b = v) (fa : Fin64 a) (fb : Fin64 b) (fV : Fin64 V) (h : dz a * dz b = dz V * U) : Fin64 v ∧ dz v = dz V := by
  subst e
  have q : dz (FP.dmul a b) = dz V := by
    have h1 := dmul_le fa fb fV.noNaN (Int.le_of_eq h)
    have h2 := dmul_ge fa fb fV.noNaN (Int.le_of_eq h.symm)
    omega
  exact ⟨fin_of (dmul_out fa fb) (by rw [q]; exact fin_lt fV), q⟩
/-! quotients -/
theorem nz_of {b : UInt64} (h : dz b ≠ 0) : Nz64 b := nz64_core.mpr fun ⟨s, q, e⟩ => h (by
  show zval b64 (val64 b) = 0
  rw [e, zval_fin]; unfold inUnits; rw [Nat.zero_mul]; exact signed_zero s)
theorem quo_mag {s t : Bool} {c d : Nat} {q r : Int} (hx : Core.fits b64 (.fin s c q)) (hy : Core.fits b64 (.fin t d r)) :
    inUnits c (q - r) (2 * b64.qmin - r) = zmag b64 (.fin s c q) * one64 ∧ 2 ^ (b64.qmin - (2 * b64.qmin - r)).toNat * d = zmag b64 (.fin t d r) := by
  have h1 := hx.2.1
  have h2 := hy.2.1
  have hq : b64.qmin = -1074 := qmin_b64
  constructor
  · rw [← pow_qmin64]
    show c * _ = c * _ * _
    rw [Nat.mul_assoc, ← Nat.pow_add]; congr 2; omega
  · show _ = d * _
    rw [Nat.mul_comm]; congr 2; omega
theorem ddiv_val {a b : UInt64} {s t : Bool} {c d : Nat} {q r : Int} (ha : val64 a = .fin s c q) (hb : val64 b = .fin t d r) (hd : d ≠ 0) : val64 (FP.ddiv a b) = roundRatio b64 (s != t) c d (q - r) := by
  show val64 (Core.ddiv a b) = _
  rw [val64_ddiv, ha, hb]; simp only [quotient, if_neg hd]
theorem ddiv_zm {a b : UInt64} (fa : Fin64 a) (fb : Fin64 b) (hb : dz b ≠ 0) :
    sgn (val64 (FP.ddiv a b)) = (sgn (val64 a) != sgn (val64 b)) ∧
    (∀ V : UInt64, NoNaN64 V → zmag b64 (val64 a) * one64 ≤ zmag b64 (val64 V) * zmag b64 (val64 b) → zmag b64 (val64 (FP.ddiv a b)) ≤ zmag b64 (val64 V)) ∧
    (∀ V : UInt64, zmag b64 (val64 V) * zmag b64 (val64 b) ≤ zmag b64 (val64 a) * one64 → zmag b64 (val64 V) ≤ zmag b64 (val64 (FP.ddiv a b))) := by
  obtain ⟨s, c, q, ha⟩ := fin_val fa
  obtain ⟨t, d, r, hb'⟩ := fin_val fb
  have fa' := val64_fits a
  have fb' := val64_fits b
  rw [ha] at fa'
  rw [hb'] at fb'
  have hd : d ≠ 0 := by
    rintro rfl
    apply hb
    show zval b64 (val64 b) = 0
    rw [hb', zval_fin]; unfold inUnits; rw [Nat.zero_mul]; exact signed_zero t
  have hv := ddiv_val ha hb' hd
  obtain ⟨e1, e2⟩ := quo_mag fa' fb'
  have hq1 := fa'.2.1
  have hq2 := fb'.2.1
  have hqm : b64.qmin = -1074 := qmin_b64
  refine ⟨?_, fun V nV h => ?_, fun V h => ?_⟩
  · rw [hv, sgn_roundRatio, ha, hb']; rfl
  · rw [hv]
    refine zmag_roundRatio_le good_b64 (by omega) (val64_fits V) (nn_val nV) (e0 := 2 * b64.qmin - r) (by omega) (by omega) ?_
    rw [e1, Nat.mul_assoc, e2]
    rw [ha, hb'] at h
    exact h
  · rw [hv]
    refine zmag_roundRatio_ge good_b64 (by omega) (val64_fits V) (e0 := 2 * b64.qmin - r) (by omega) (by omega) ?_
    rw [e1, Nat.mul_assoc, e2]
    rw [ha, hb'] at h
    exact h
theorem dz_def (x : UInt64) : dz x = signed (sgn (val64 x)) (zmag b64 (val64 x)) := rfl
theorem ddiv_le {a b V : UInt64} (fa : Fin64 a) (fb : Fin64 b) (hb : 0 < dz b) (nV : NoNaN64 V) (h : dz a * U ≤ dz V * dz b) : dz (FP.ddiv a b) ≤ dz V := by
  obtain ⟨h1, h2, h3⟩ := ddiv_zm fa fb (by omega)
  have h2 := h2 V nV
  have h3 := h3 V
  have hU : U = (one64 : Int) := rfl
  rw [dz_def (FP.ddiv a b), h1]
  rw [hU] at h
  rw [dz_def V] at h ⊢
  rw [dz_def a] at h
  rw [dz_def b] at h hb
  have p1 := one64_pos
  generalize zmag b64 (val64 (FP.ddiv a b)) = R at *
  generalize zmag b64 (val64 V) = v at *
  generalize zmag b64 (val64 a) = x at *
  generalize zmag b64 (val64 b) = y at *
  generalize sgn (val64 a) = sa at *
  generalize sgn (val64 b) = sb at *
  generalize sgn (val64 V) = sv at *
  cases sb with
  | true => simp only [signed, if_true] at hb; omega
  | false =>
    simp only [signed, Bool.false_eq_true, if_false] at hb h ⊢
    have key : signed sv v * (y : Int) = signed sv (v * y) := (signed_mul sv v y).symm
    have key2 : signed sa x * (one64 : Int) = signed sa (x * one64) := (signed_mul sa x one64).symm
    have yp : 0 < y := by omega
    change signed sa x * (one64 : Int) ≤ signed sv v * (y : Int) at h
    change signed (sa != false) R ≤ signed sv v
    rw [key, key2] at h
    have z1 : x * one64 = 0 → x = 0 := fun e => (Nat.mul_eq_zero.mp e).resolve_right (by omega)
    have z2 : v * y = 0 → v = 0 := fun e => (Nat.mul_eq_zero.mp e).resolve_right (by omega)
    have z3 : v = 0 → v * y = 0 := fun e => by rw [e, Nat.zero_mul]
    have z4 : x = 0 → x * one64 = 0 := fun e => by rw [e, Nat.zero_mul]
    generalize v * y = vy at *
    generalize x * one64 = xo at *
    cases sa <;> cases sv <;> simp only [signed, Bool.bne_false, Bool.false_eq_true, if_true, if_false] at h ⊢
    · have := h2 (by omega); omega
    · have := h2 (by omega); omega
    · omega
    · have := h3 (by omega); omega
theorem ddiv_ge {a b V : UInt64} (fa : Fin64 a) (fb : Fin64 b) (hb : 0 < dz b) (nV : NoNaN64 V) (h : dz V * dz b ≤ dz a * U) : dz V ≤ dz (FP.ddiv a b) := by
  obtain ⟨h1, h2, h3⟩ := ddiv_zm fa fb (by omega)
  have h2 := h2 V nV
  have h3 := h3 V
  have hU : U = (one64 : Int) := rfl
  rw [dz_def (FP.ddiv a b), h1]
  rw [hU] at h
  rw [dz_def V] at h ⊢
  rw [dz_def a] at h
  rw [dz_def b] at h hb
  have p1 := one64_pos
  generalize zmag b64 (val64 (FP.ddiv a b)) = R at *
  generalize zmag b64 (val64 V) = v at *
  generalize zmag b64 (val64 a) = x at *
  generalize zmag b64 (val64 b) = y at *
  generalize sgn (val64 a) = sa at *
  generalize sgn (val64 b) = sb at *
  generalize sgn (val64 V) = sv at *
  cases sb with
  | true => simp only [signed, if_true] at hb; omega
  | false =>
    simp only [signed, Bool.false_eq_true, if_false] at hb h ⊢
    have key : signed sv v * (y : Int) = signed sv (v * y) := (signed_mul sv v y).symm
    have key2 : signed sa x * (one64 : Int) = signed sa (x * one64) := (signed_mul sa x one64).symm
    have yp : 0 < y := by omega
    change signed sv v * (y : Int) ≤ signed sa x * (one64 : Int) at h
    change signed sv v ≤ signed (sa != false) R
    rw [key, key2] at h
    have z1 : x * one64 = 0 → x = 0 := fun e => (Nat.mul_eq_zero.mp e).resolve_right (by omega)
    have z2 : v * y = 0 → v = 0 := fun e => (Nat.mul_eq_zero.mp e).resolve_right (by omega)
    have z3 : v = 0 → v * y = 0 := fun e => by rw [e, Nat.zero_mul]
    have z4 : x = 0 → x * one64 = 0 := fun e => by rw [e, Nat.zero_mul]
    generalize v * y = vy at *
    generalize x * one64 = xo at *
    cases sa <;> cases sv <;> simp only [signed, Bool.bne_false, Bool.false_eq_true, if_true, if_false] at h ⊢
    · have := h3 (by omega); omega
    · omega
    · have := h2 (by omega); omega
    · have := h2 (by omega); omega
theorem ddiv_nn {a b : UInt64} (fa : Fin64 a) (fb : Fin64 b) (hb : dz b ≠ 0) : NoNaN64 (FP.ddiv a b) := ddiv_out fa.noNaN fb (nz_of hb)
theorem ddiv_x {a b v V : UInt64} (e : FP.ddiv a b = v) (fa : Fin64 a) (fb : Fin64 b) (hb : 0 < dz b) (fV : Fin64 V) (h : dz a * U = dz V * dz b) : Fin64 v ∧ dz v = dz V := by
  subst e
  have q : dz (FP.ddiv a b) = dz V := by
    have h1 := ddiv_le fa fb hb fV.noNaN (Int.le_of_eq h)
    have h2 := ddiv_ge fa fb hb fV.noNaN (Int.le_of_eq h.symm)
    omega
  exact ⟨fin_of (ddiv_nn fa fb (by omega)) (by rw [q]; exact fin_lt fV), q⟩
/-! the sign turned -/
theorem xor_top (a : UInt64) : a.toNat = (FP.dneg a).toNat + 2 ^ 63 ∨ (FP.dneg a).toNat = a.toNat + 2 ^ 63 := by
  have hlt := a.toNat_lt
  have e : (FP.dneg a).toNat = a.toNat ^^^ 2 ^ 63 := by rw [dneg_xor, UInt64.toNat_xor]; rfl
  have hd : (FP.dneg a).toNat % 2 ^ 63 = a.toNat % 2 ^ 63 := by
    rw [e]
    apply Nat.eq_of_testBit_eq; intro i
    simp only [Nat.testBit_mod_two_pow, Nat.testBit_xor, Nat.testBit_two_pow]
    by_cases q : i < 63
    · have : ¬ (63 = i) := by omega
      simp [q, this]
    · simp [q]
  have hb : (FP.dneg a).toNat.testBit 63 = !(a.toNat.testBit 63) := by
    rw [e, Nat.testBit_xor, Nat.testBit_two_pow_self]; simp
  have hl2 : (FP.dneg a).toNat < 2 ^ 64 := (FP.dneg a).toNat_lt
  generalize (FP.dneg a).toNat = y at *
  generalize a.toNat = x at *
  simp only [Nat.testBit, Nat.shiftRight_eq_div_pow, Nat.and_comm 1, Nat.and_one_is_mod, bne_iff_ne] at hb
  by_cases q : x < 2 ^ 63
  · right
    have h1 : x / 2 ^ 63 = 0 := Nat.div_eq_of_lt q
    have h2 : y / 2 ^ 63 ≠ 0 := by
      intro z; rw [h1, z] at hb; simp at hb
    have h3 : ¬ y < 2 ^ 63 := fun z => h2 (Nat.div_eq_of_lt z)
    omega
  · left
    have h1 : x / 2 ^ 63 = 1 := by omega
    have h3 : y < 2 ^ 63 := by
      refine Nat.lt_of_not_le fun z => ?_
      have : y / 2 ^ 63 = 1 := by omega
      rw [h1, this] at hb; simp at hb
    omega
theorem dneg_val (a : UInt64) : val64 (FP.dneg a) = negate (val64 a) := val64_neg_bits (xor_top a)
theorem dz_neg (a : UInt64) : dz (FP.dneg a) = -dz a := by unfold dz; rw [dneg_val, zval_negate]
theorem nn_neg {a : UInt64} (h : NoNaN64 a) : NoNaN64 (FP.dneg a) := val64_no.mpr (by rw [dneg_val]; exact negate_ne_nan (val64_no.mp h))
theorem fin_neg {a : UInt64} (h : Fin64 a) : Fin64 (FP.dneg a) := fin_of (nn_neg h.noNaN) (by rw [dz_neg, Int.natAbs_neg]; exact fin_lt h)
end Jvm.Own
namespace Jvm.Own
open Jvm.FP Jvm.FP.Core Jvm.Free.Fl
theorem p2_pos (j : Nat) : (0 : Int) < 2 ^ j := Int.pow_pos (by decide)
/-! against k / 2^j: what is at most (at least) that rounds to at most (at least) that -/
theorem quo_le {a b v : UInt64} {p q : Int} (e : FP.ddiv a b = v) (fa : Fin64 a) (fb : Fin64 b) (ha : dz a = p * U) (hb : dz b = q * U) (hq : 0 < q) (k : Int) (j : Nat) (hk : k.natAbs < 2 ^ 53) (hj : j ≤ 1074) (h : p * 2 ^ j ≤ k * q) : dz v * 2 ^ j ≤ k * U := by
  obtain ⟨V, fV, hV⟩ := repU k j hk hj
  have hU := U_pos
  have hp := p2_pos j
  have hbp : 0 < dz b := by rw [hb]; exact Int.mul_pos hq hU
  have key : dz a * U ≤ dz V * dz b := by
    refine Int.le_of_mul_le_mul_right ?_ hp
    rw [ha, hb, show p * U * U * 2 ^ j = p * 2 ^ j * (U * U) by generalize U = u; ac_rfl, show dz V * (q * U) * 2 ^ j = dz V * 2 ^ j * (q * U) by generalize U = u; ac_rfl, hV, show k * U * (q * U) = k * q * (U * U) by generalize U = u; ac_rfl]
    exact Int.mul_le_mul_of_nonneg_right h (Int.le_of_lt (Int.mul_pos hU hU))
  rw [← hV, ← e]
  exact Int.mul_le_mul_of_nonneg_right (ddiv_le fa fb hbp fV.noNaN key) (Int.le_of_lt hp)
theorem quo_ge {a b v : UInt64} {p q : Int} (e : FP.ddiv a b = v) (fa : Fin64 a) (fb : Fin64 b) (ha : dz a = p * U) (hb : dz b = q * U) (hq : 0 < q) (k : Int) (j : Nat) (hk : k.natAbs < 2 ^ 53) (hj : j ≤ 1074) (h : k * q ≤ p * 2 ^ j) : k * U ≤ dz v * 2 ^ j := by
  obtain ⟨V, fV, hV⟩ := repU k j hk hj
  have hU := U_pos
  have hp := p2_pos j
  have hbp : 0 < dz b := by rw [hb]; exact Int.mul_pos hq hU
  have key : dz V * dz b ≤ dz a * U := by
    refine Int.le_of_mul_le_mul_right ?_ hp
    rw [ha, hb, show p * U * U * 2 ^ j = p * 2 ^ j * (U * U) by generalize U = u; ac_rfl, show dz V * (q * U) * 2 ^ j = dz V * 2 ^ j * (q * U) by generalize U = u; ac_rfl, hV, show k * U * (q * U) = k * q * (U * U) by generalize U = u; ac_rfl]
    exact Int.mul_le_mul_of_nonneg_right h (Int.le_of_lt (Int.mul_pos hU hU))
  rw [← hV, ← e]
  exact Int.mul_le_mul_of_nonneg_right (ddiv_ge fa fb hbp fV.noNaN key) (Int.le_of_lt hp)
theorem Top_U : (2 : Int) ^ 1000 * U < (Top : Int) := by
  rw [U_pow, ← Int.pow_add, Top_pow, show ((2 ^ 2098 : Nat) : Int) = 2 ^ 2098 from Int.natCast_pow 2 2098]
  exact Int.pow_lt_pow_of_lt (by decide) (by decide)
theorem fin_bd {v : UInt64} (n : NoNaN64 v) (h1 : -(2 ^ 1000 * U) ≤ dz v) (h2 : dz v ≤ 2 ^ 1000 * U) : Fin64 v := fin_of n (by have := Top_U; omega)
theorem add_le {a b v : UInt64} (e : FP.dadd a b = v) (fa : Fin64 a) (fb : Fin64 b) (k : Int) (j : Nat) (hk : k.natAbs < 2 ^ 53) (hj : j ≤ 1074) (h : (dz a + dz b) * 2 ^ j ≤ k * U) : dz v * 2 ^ j ≤ k * U := by
  obtain ⟨V, fV, hV⟩ := repU k j hk hj
  have hp := p2_pos j
  rw [← hV] at h ⊢
  rw [← e]
  exact Int.mul_le_mul_of_nonneg_right (dadd_le fa fb fV.noNaN (Int.le_of_mul_le_mul_right h hp)) (Int.le_of_lt hp)
theorem add_ge {a b v : UInt64} (e : FP.dadd a b = v) (fa : Fin64 a) (fb : Fin64 b) (k : Int) (j : Nat) (hk : k.natAbs < 2 ^ 53) (hj : j ≤ 1074) (h : k * U ≤ (dz a + dz b) * 2 ^ j) : k * U ≤ dz v * 2 ^ j := by
  obtain ⟨V, fV, hV⟩ := repU k j hk hj
  have hp := p2_pos j
  rw [← hV] at h ⊢
  rw [← e]
  exact Int.mul_le_mul_of_nonneg_right (dadd_ge fa fb fV.noNaN (Int.le_of_mul_le_mul_right h hp)) (Int.le_of_lt hp)
theorem sub_le {a b v : UInt64} (e : FP.dsub a b = v) (fa : Fin64 a) (fb : Fin64 b) (k : Int) (j : Nat) (hk : k.natAbs < 2 ^ 53) (hj : j ≤ 1074) (h : (dz a - dz b) * 2 ^ j ≤ k * U) : dz v * 2 ^ j ≤ k * U := by
  obtain ⟨V, fV, hV⟩ := repU k j hk hj
  have hp := p2_pos j
  rw [← hV] at h ⊢
  rw [← e]
  exact Int.mul_le_mul_of_nonneg_right (dsub_le fa fb fV.noNaN (Int.le_of_mul_le_mul_right h hp)) (Int.le_of_lt hp)
theorem sub_ge {a b v : UInt64} (e : FP.dsub a b = v) (fa : Fin64 a) (fb : Fin64 b) (k : Int) (j : Nat) (hk : k.natAbs < 2 ^ 53) (hj : j ≤ 1074) (h : k * U ≤ (dz a - dz b) * 2 ^ j) : k * U ≤ dz v * 2 ^ j := by
  obtain ⟨V, fV, hV⟩ := repU k j hk hj
  have hp := p2_pos j
  rw [← hV] at h ⊢
  rw [← e]
  exact Int.mul_le_mul_of_nonneg_right (dsub_ge fa fb fV.noNaN (Int.le_of_mul_le_mul_right h hp)) (Int.le_of_lt hp)
/-- a sum, a difference of dyadics that is one of at most 53 digits is exact -/
theorem add_x {a b v : UInt64} (e : FP.dadd a b = v) (fa : Fin64 a) (fb : Fin64 b) (k : Int) (j : Nat) (hk : k.natAbs < 2 ^ 53) (hj : j ≤ 1074) (h : (dz a + dz b) * 2 ^ j = k * U) : Fin64 v ∧ dz v = dz a + dz b := by
  obtain ⟨V, fV, hV⟩ := repU k j hk hj
  exact dadd_x e fa fb fV (Int.eq_of_mul_eq_mul_right (by have := p2_pos j; omega) (h.trans hV.symm))
theorem sub_x {a b v : UInt64} (e : FP.dsub a b = v) (fa : Fin64 a) (fb : Fin64 b) (k : Int) (j : Nat) (hk : k.natAbs < 2 ^ 53) (hj : j ≤ 1074) (h : (dz a - dz b) * 2 ^ j = k * U) : Fin64 v ∧ dz v = dz a - dz b := by
  obtain ⟨V, fV, hV⟩ := repU k j hk hj
  exact dsub_x e fa fb fV (Int.eq_of_mul_eq_mul_right (by have := p2_pos j; omega) (h.trans hV.symm))
theorem quo_x {a b v : UInt64} {p q : Int} (e : FP.ddiv a b = v) (fa : Fin64 a) (fb : Fin64 b) (ha : dz a = p * U) (hb : dz b = q * U) (hq : 0 < q) (k : Int) (j : Nat) (hk : k.natAbs < 2 ^ 53) (hj : j ≤ 1074) (h : p * 2 ^ j = k * q) : Fin64 v ∧ dz v * 2 ^ j = k * U := by
  obtain ⟨V, fV, hV⟩ := repU k j hk hj
  have h1 := quo_le e fa fb ha hb hq k j hk hj (Int.le_of_eq h)
  have h2 := quo_ge e fa fb ha hb hq k j hk hj (Int.le_of_eq h.symm)
  have h3 : dz v * 2 ^ j = k * U := by omega
  have h4 : dz v = dz V := Int.eq_of_mul_eq_mul_right (by have := p2_pos j; omega) (h3.trans hV.symm)
  refine ⟨fin_of ?_ (by rw [h4]; exact fin_lt fV), h3⟩
  rw [← e]
  exact ddiv_nn fa fb (by rw [hb]; have := Int.mul_pos hq U_pos; omega)
theorem quo_nn {a b v : UInt64} {q : Int} (e : FP.ddiv a b = v) (fa : Fin64 a) (fb : Fin64 b) (hb : dz b = q * U) (hq : 0 < q) : NoNaN64 v := by
  rw [← e]; exact ddiv_nn fa fb (by rw [hb]; have := Int.mul_pos hq U_pos; omega)
end Jvm.Own
namespace Jvm.Own
open Jvm.FP Jvm.FP.Core Jvm.Free.Fl
theorem fin_2 : Fin64 4611686018427387904 := by unfold Fin64; decide
theorem nz_2 : Nz64 4611686018427387904 := by unfold Nz64; decide
theorem dz_2 : dz 4611686018427387904 = 2 * U := by
  have e : FP.dadd 4607182418800017408 4607182418800017408 = 4611686018427387904 := by decide +kernel
  have h := (add_x e fin_1 fin_1 2 0 (by decide) (by decide) (by rw [dz_1, Int.pow_zero]; omega)).2
  rw [h, dz_1]; omega
end Jvm.Own
namespace Jvm.Own
theorem ite_I {P : Prop} [Decidable P] {a b v : Int32} (e : (if P then a else b) = v) : (P → v.toInt = a.toInt) ∧ (¬ P → v.toInt = b.toInt) := by
  subst e; exact ⟨fun q => by rw [if_pos q], fun q => by rw [if_neg q]⟩
end Jvm.Own
namespace Jvm.Own
open Jvm.FP Jvm.FP.Core Jvm.Free.Fl
theorem add0 {a v : UInt64} (e : FP.dadd a 0 = v) (fa : Fin64 a) : Fin64 v ∧ dz v = dz a := by
  obtain ⟨h1, h2⟩ := dadd_x e fa fin_0 fa (by rw [dz_0]; omega)
  exact ⟨h1, by rw [h2, dz_0]; omega⟩
end Jvm.Own
namespace Jvm.Own
open Jvm.FP Jvm.FP.Core Jvm.Free.Fl
/-! a divisor below nought -/
theorem ddiv_leN {a b V : UInt64} (fa : Fin64 a) (fb : Fin64 b) (hb : dz b < 0) (nV : NoNaN64 V) (h : dz V * dz b ≤ dz a * U) : dz (FP.ddiv a b) ≤ dz V := by
  obtain ⟨h1, h2, h3⟩ := ddiv_zm fa fb (by omega)
  have h2 := h2 V nV
  have h3 := h3 V
  have hU : U = (one64 : Int) := rfl
  rw [dz_def (FP.ddiv a b), h1]
  rw [hU] at h
  rw [dz_def V] at h ⊢
  rw [dz_def a] at h
  rw [dz_def b] at h hb
  have p1 := one64_pos
  generalize zmag b64 (val64 (FP.ddiv a b)) = R at *
  generalize zmag b64 (val64 V) = v at *
  generalize zmag b64 (val64 a) = x at *
  generalize zmag b64 (val64 b) = y at *
  generalize sgn (val64 a) = sa at *
  generalize sgn (val64 b) = sb at *
  generalize sgn (val64 V) = sv at *
  cases sb with
  | false => simp only [signed, Bool.false_eq_true, if_false] at hb; omega
  | true =>
    simp only [signed, if_true] at hb
    change signed sv v * (-(y : Int)) ≤ signed sa x * (one64 : Int) at h
    change signed (sa != true) R ≤ signed sv v
    have key : signed sv v * (y : Int) = signed sv (v * y) := (signed_mul sv v y).symm
    have key2 : signed sa x * (one64 : Int) = signed sa (x * one64) := (signed_mul sa x one64).symm
    have yp : 0 < y := by omega
    rw [Int.mul_neg, key, key2] at h
    have z2 : v * y = 0 → v = 0 := fun e => (Nat.mul_eq_zero.mp e).resolve_right (by omega)
    have z3 : v = 0 → v * y = 0 := fun e => by rw [e, Nat.zero_mul]
    have z4 : x = 0 → x * one64 = 0 := fun e => by rw [e, Nat.zero_mul]
    generalize v * y = vy at *
    generalize x * one64 = xo at *
    cases sa <;> cases sv <;> simp only [signed, Bool.bne_true, Bool.not_false, Bool.not_true, Bool.false_eq_true, if_true, if_false] at h ⊢
    · omega
    · have := h3 (by omega); omega
    · have := h2 (by omega); omega
    · have := h2 (by omega); omega
theorem ddiv_geN {a b V : UInt64} (fa : Fin64 a) (fb : Fin64 b) (hb : dz b < 0) (nV : NoNaN64 V) (h : dz a * U ≤ dz V * dz b) : dz V ≤ dz (FP.ddiv a b) := by
  obtain ⟨h1, h2, h3⟩ := ddiv_zm fa fb (by omega)
  have h2 := h2 V nV
  have h3 := h3 V
  have hU : U = (one64 : Int) := rfl
  rw [dz_def (FP.ddiv a b), h1]
  rw [hU] at h
  rw [dz_def V] at h ⊢
  rw [dz_def a] at h
  rw [dz_def b] at h hb
  have p1 := one64_pos
  generalize zmag b64 (val64 (FP.ddiv a b)) = R at *
  generalize zmag b64 (val64 V) = v at *
  generalize zmag b64 (val64 a) = x at *
  generalize zmag b64 (val64 b) = y at *
  generalize sgn (val64 a) = sa at *
  generalize sgn (val64 b) = sb at *
  generalize sgn (val64 V) = sv at *
  cases sb with
  | false => simp only [signed, Bool.false_eq_true, if_false] at hb; omega
  | true =>
    simp only [signed, if_true] at hb
    change signed sa x * (one64 : Int) ≤ signed sv v * (-(y : Int)) at h
    change signed sv v ≤ signed (sa != true) R
    have key : signed sv v * (y : Int) = signed sv (v * y) := (signed_mul sv v y).symm
    have key2 : signed sa x * (one64 : Int) = signed sa (x * one64) := (signed_mul sa x one64).symm
    have yp : 0 < y := by omega
    rw [Int.mul_neg, key, key2] at h
    have z2 : v * y = 0 → v = 0 := fun e => (Nat.mul_eq_zero.mp e).resolve_right (by omega)
    have z3 : v = 0 → v * y = 0 := fun e => by rw [e, Nat.zero_mul]
    have z4 : x = 0 → x * one64 = 0 := fun e => by rw [e, Nat.zero_mul]
    generalize v * y = vy at *
    generalize x * one64 = xo at *
    cases sa <;> cases sv <;> simp only [signed, Bool.bne_true, Bool.not_false, Bool.not_true, Bool.false_eq_true, if_true, if_false] at h ⊢
    · have := h2 (by omega); omega
    · have := h2 (by omega); omega
    · have := h3 (by omega); omega
    · omega
/-- a whole number's multiple, divided by it -/
theorem ddiv_mul {a b v : UInt64} {m q : Int} (e : FP.ddiv a b = v) (fa : Fin64 a) (fb : Fin64 b) (ha : dz a = m * q * U) (hb : dz b = q * U) (hq : q ≠ 0) (hm : m.natAbs < 2 ^ 53) : NoNaN64 v ∧ dz v = m * U := by
  obtain ⟨V, fV, hV⟩ := repU m 0 hm (by decide)
  rw [Int.pow_zero, Int.mul_one] at hV
  have hU := U_pos
  have k1 : dz a * U = dz V * dz b := by rw [ha, hb, hV]; generalize U = u; ac_rfl
  have hbz : dz b ≠ 0 := by rw [hb]; intro z; rcases Int.mul_eq_zero.mp z with z | z <;> omega
  subst e
  refine ⟨ddiv_nn fa fb hbz, ?_⟩
  rw [← hV]
  rcases Int.lt_or_gt_of_ne hbz with z | z
  · exact Int.le_antisymm (ddiv_leN fa fb z fV.noNaN (Int.le_of_eq k1.symm)) (ddiv_geN fa fb z fV.noNaN (Int.le_of_eq k1))
  · exact Int.le_antisymm (ddiv_le fa fb z fV.noNaN (Int.le_of_eq k1)) (ddiv_ge fa fb z fV.noNaN (Int.le_of_eq k1.symm))
end Jvm.Own
namespace Jvm.Own
open Jvm.FP Jvm.FP.Core Jvm.Free.Fl
theorem abs_max {u : UInt64} (h : Fin64 u) : dz (u &&& 0x7fffffffffffffff) ≤ dz 9218868437227405311 :=
  (dcmp_le.mp ((le_max (noNaN64_no.mp h.noNaN)).mpr (fin64_core.mp h))).2.2
end Jvm.Own
namespace Jvm.Own
open Jvm.FP Jvm.FP.Core Jvm.Free.Fl
/-- finite, and of a magnitude of at most A -/
def Bd (x : UInt64) (A : Int) : Prop := Fin64 x ∧ -(A * U) ≤ dz x ∧ dz x ≤ A * U
theorem Bd.fin {x : UInt64} {A : Int} (h : Bd x A) : Fin64 x := h.1
theorem big_U {A : Int} (h : A.natAbs < 2 ^ 53) : A * U ≤ 2 ^ 1000 * U ∧ -(2 ^ 1000 * U) ≤ A * U := by
  have z : (2 : Int) ^ 53 ≤ 2 ^ 1000 := by
    have h1 := Nat.pow_le_pow_right (n := 2) (by decide) (show 53 ≤ 1000 by decide)
    have e1 : ((2 ^ 53 : Nat) : Int) = 2 ^ 53 := Int.natCast_pow 2 53
    have e2 : ((2 ^ 1000 : Nat) : Int) = 2 ^ 1000 := Int.natCast_pow 2 1000
    rw [← e1, ← e2]; exact Int.ofNat_le.mpr h1
  have e : (2 : Int) ^ 53 = 9007199254740992 := by decide
  have hU := U_pos
  have a1 : A * U ≤ 2 ^ 1000 * U := Int.mul_le_mul_of_nonneg_right (by omega) (Int.le_of_lt hU)
  have a2 : (-(2 ^ 1000)) * U ≤ A * U := Int.mul_le_mul_of_nonneg_right (by omega) (Int.le_of_lt hU)
  rw [Int.neg_mul] at a2
  exact ⟨a1, a2⟩
theorem Bd.int {x : UInt64} {i A : Int} (f : Fin64 x) (z : dz x = i * U) (h1 : -A ≤ i) (h2 : i ≤ A) : Bd x A := by
  have hU := U_pos
  have a1 : i * U ≤ A * U := Int.mul_le_mul_of_nonneg_right h2 (Int.le_of_lt hU)
  have a2 : (-A) * U ≤ i * U := Int.mul_le_mul_of_nonneg_right h1 (Int.le_of_lt hU)
  rw [Int.neg_mul] at a2
  exact ⟨f, by omega, by omega⟩
theorem Bd.add {a b v : UInt64} {A B : Int} (e : FP.dadd a b = v) (ha : Bd a A) (hb : Bd b B) (h : (A + B).natAbs < 2 ^ 53) : Bd v (A + B) := by
  obtain ⟨fa, a1, a2⟩ := ha
  obtain ⟨fb, b1, b2⟩ := hb
  have h1 := add_le e fa fb (A + B) 0 h (by decide) (by rw [Int.pow_zero, Int.mul_one, Int.add_mul]; omega)
  have h2 := add_ge e fa fb (-(A + B)) 0 (by omega) (by decide) (by rw [Int.pow_zero, Int.mul_one, Int.neg_mul, Int.add_mul]; omega)
  rw [Int.pow_zero, Int.mul_one] at h1 h2
  rw [Int.neg_mul] at h2
  have := big_U h
  exact ⟨fin_bd (e ▸ dadd_out fa.noNaN fb) (by omega) (by omega), h2, h1⟩
theorem Bd.sub {a b v : UInt64} {A B : Int} (e : FP.dsub a b = v) (ha : Bd a A) (hb : Bd b B) (h : (A + B).natAbs < 2 ^ 53) : Bd v (A + B) := by
  obtain ⟨fa, a1, a2⟩ := ha
  obtain ⟨fb, b1, b2⟩ := hb
  have h1 := sub_le e fa fb (A + B) 0 h (by decide) (by rw [Int.pow_zero, Int.mul_one, Int.add_mul]; omega)
  have h2 := sub_ge e fa fb (-(A + B)) 0 (by omega) (by decide) (by rw [Int.pow_zero, Int.mul_one, Int.neg_mul, Int.add_mul]; omega)
  rw [Int.pow_zero, Int.mul_one] at h1 h2
  rw [Int.neg_mul] at h2
  have := big_U h
  exact ⟨fin_bd (e ▸ dsub_out fa.noNaN fb) (by omega) (by omega), h2, h1⟩
theorem Bd.mono {x : UInt64} {A B : Int} (h : Bd x A) (q : A ≤ B) : Bd x B := by
  have a1 : A * U ≤ B * U := Int.mul_le_mul_of_nonneg_right q (Int.le_of_lt U_pos)
  exact ⟨h.1, by have := h.2.1; omega, by have := h.2.2; omega⟩
theorem Bd.i2d {x : Int32} {v : UInt64} (e : FP.i2d x = v) : Bd v 2147483648 := by
  obtain ⟨f, z⟩ := i2d_v e
  have h1 := Int32.le_toInt x
  have h2 := Int32.toInt_lt x
  exact Bd.int f z (by omega) (by omega)
end Jvm.Own
namespace Jvm.Own
open Jvm.FP Jvm.FP.Core Jvm.Free.Fl
theorem mul_le' {a b v : UInt64} (e : FP.dmul a b = v) (fa : Fin64 a) (fb : Fin64 b) (k : Int) (hk : k.natAbs < 2 ^ 53) (h : dz a * dz b ≤ k * U * U) : dz v ≤ k * U := by
  obtain ⟨V, fV, hV⟩ := repU k 0 hk (by decide)
  rw [Int.pow_zero, Int.mul_one] at hV
  rw [← hV, ← e]
  exact dmul_le fa fb fV.noNaN (by rw [hV]; exact h)
theorem mul_ge' {a b v : UInt64} (e : FP.dmul a b = v) (fa : Fin64 a) (fb : Fin64 b) (k : Int) (hk : k.natAbs < 2 ^ 53) (h : k * U * U ≤ dz a * dz b) : k * U ≤ dz v := by
  obtain ⟨V, fV, hV⟩ := repU k 0 hk (by decide)
  rw [Int.pow_zero, Int.mul_one] at hV
  rw [← hV, ← e]
  exact dmul_ge fa fb fV.noNaN (by rw [hV]; exact h)
theorem abs_mul_le {x y A B : Int} (h1 : -A ≤ x) (h2 : x ≤ A) (h3 : -B ≤ y) (h4 : y ≤ B) : -(A * B) ≤ x * y ∧ x * y ≤ A * B := by
  have e : (x * y).natAbs = x.natAbs * y.natAbs := Int.natAbs_mul x y
  have e2 : x.natAbs * y.natAbs ≤ A.natAbs * B.natAbs := Nat.mul_le_mul (by omega) (by omega)
  have e3 : (A * B).natAbs = A.natAbs * B.natAbs := Int.natAbs_mul A B
  have e4 : 0 ≤ A * B := Int.mul_nonneg (by omega) (by omega)
  omega
theorem Bd.mul {a b v : UInt64} {A B : Int} (e : FP.dmul a b = v) (ha : Bd a A) (hb : Bd b B) (h : (A * B).natAbs < 2 ^ 53) : Bd v (A * B) := by
  obtain ⟨fa, a1, a2⟩ := ha
  obtain ⟨fb, b1, b2⟩ := hb
  obtain ⟨q1, q2⟩ := abs_mul_le a1 a2 b1 b2
  have r1 : A * U * (B * U) = A * B * U * U := by generalize U = u; ac_rfl
  rw [r1] at q1 q2
  have h1 := mul_le' e fa fb (A * B) h q2
  have h2 := mul_ge' e fa fb (-(A * B)) (by omega) (by rw [Int.neg_mul, Int.neg_mul]; exact q1)
  rw [Int.neg_mul] at h2
  have := big_U h
  exact ⟨fin_bd (e ▸ dmul_out fa fb) (by omega) (by omega), h2, h1⟩
end Jvm.Own

namespace Jvm.Own
open Jvm.FP Jvm.FP.Core Jvm.Free.Fl
theorem pos_sgn {a : UInt64} {s : Bool} {c : Nat} {q : Int} (v : val64 a = .fin s c q) (h : 0 < dz a) : s = false ∧ dz a = ((c * 2 ^ (q - b64.qmin).toNat : Nat) : Int) ∧ c ≠ 0 := by
  have e : dz a = signed s (c * 2 ^ (q - b64.qmin).toNat) := by show zval b64 (val64 a) = _; rw [v]; rfl
  cases s with
  | true => rw [e] at h; simp only [signed, if_true] at h; omega
  | false =>
    refine ⟨rfl, e, ?_⟩
    rintro rfl
    rw [e, Nat.zero_mul] at h
    exact absurd h (by decide)
theorem ddiv_z {a b : UInt64} (fa : Fin64 a) (fb : Fin64 b) (hb : 0 < dz b) (z : dz a = 0) : dz (FP.ddiv a b) = 0 := by
  have h1 := ddiv_le fa fb hb nn_0 (by rw [z, dz_0]; omega)
  have h2 := ddiv_ge fa fb hb nn_0 (by rw [z, dz_0]; omega)
  rw [dz_0] at h1 h2; omega
/-- one ratio, one rounded quotient -/
theorem ddiv_same {a b a' b' : UInt64} (fa : Fin64 a) (fb : Fin64 b) (fa' : Fin64 a') (fb' : Fin64 b') (ha : 0 ≤ dz a) (ha' : 0 ≤ dz a') (hb : 0 < dz b) (hb' : 0 < dz b') (h : dz a * dz b' = dz a' * dz b) : dz (FP.ddiv a b) = dz (FP.ddiv a' b') := by
  by_cases z : dz a = 0
  · have z' : dz a' = 0 := by
      rw [z, Int.zero_mul] at h
      exact (Int.mul_eq_zero.mp h.symm).resolve_right (by omega)
    rw [ddiv_z fa fb hb z, ddiv_z fa' fb' hb' z']
  · have z' : dz a' ≠ 0 := by
      intro q; rw [q, Int.zero_mul] at h
      rcases Int.mul_eq_zero.mp h with w | w <;> omega
    obtain ⟨s, c, q, va⟩ := fin_val fa
    obtain ⟨t, d, r, vb⟩ := fin_val fb
    obtain ⟨s', c', q', va'⟩ := fin_val fa'
    obtain ⟨t', d', r', vb'⟩ := fin_val fb'
    have f1 := val64_fits a
    have f2 := val64_fits b
    have f3 := val64_fits a'
    have f4 := val64_fits b'
    rw [va] at f1
    rw [vb] at f2
    rw [va'] at f3
    rw [vb'] at f4
    obtain ⟨rfl, e1, n1⟩ := pos_sgn va (by omega)
    obtain ⟨rfl, e2, n2⟩ := pos_sgn vb hb
    obtain ⟨rfl, e3, n3⟩ := pos_sgn va' (by omega)
    obtain ⟨rfl, e4, n4⟩ := pos_sgn vb' hb'
    have k1 := f1.2.1
    have k2 := f2.2.1
    have k3 := f3.2.1
    have k4 := f4.2.1
    rw [e1, e2, e3, e4, ← Int.natCast_mul, ← Int.natCast_mul] at h
    have h := Int.ofNat.inj h
    show zval b64 (val64 (FP.ddiv a b)) = zval b64 (val64 (FP.ddiv a' b'))
    rw [ddiv_val va vb n2, ddiv_val va' vb' n4]
    refine congrArg (zval b64) (roundRatio_congr (by omega) (by omega) ?_)
    generalize hQ : (q - b64.qmin).toNat = Q at h
    generalize hR : (r - b64.qmin).toNat = R at h
    generalize hQ' : (q' - b64.qmin).toNat = Q' at h
    generalize hR' : (r' - b64.qmin).toNat = R' at h
    have h5 : c * d' * 2 ^ (Q + R') = c' * d * 2 ^ (Q' + R) := by
      rw [Nat.pow_add, Nat.pow_add, show c * d' * (2 ^ Q * 2 ^ R') = c * 2 ^ Q * (d' * 2 ^ R') by ac_rfl, h]; ac_rfl
    have x1 : (q - r - (q' - r')).toNat = (Q + R') - (Q' + R) := by omega
    have x2 : (q' - r' - (q - r)).toNat = (Q' + R) - (Q + R') := by omega
    rw [x1, x2]
    rcases Nat.le_total (Q + R') (Q' + R) with w | w
    · rw [Nat.sub_eq_zero_of_le w, Nat.pow_zero, Nat.mul_one]
      refine Nat.eq_of_mul_eq_mul_right (Nat.two_pow_pos (Q + R')) ?_
      rw [h5, Nat.mul_assoc (c' * d), ← Nat.pow_add, Nat.sub_add_cancel w]
    · rw [Nat.sub_eq_zero_of_le w, Nat.pow_zero, Nat.mul_one]
      refine Nat.eq_of_mul_eq_mul_right (Nat.two_pow_pos (Q' + R)) ?_
      rw [← h5, Nat.mul_assoc (c * d'), ← Nat.pow_add, Nat.sub_add_cancel w]
/-- what is known of a rounded quotient n / d of small whole numbers -/
def Fq (v : UInt64) (n d : Int) : Prop := 0 ≤ n ∧ 1 ≤ d ∧ d ≤ 65536 ∧ n ≤ d ∧ NoNaN64 v ∧ (∀ k : Int, k.natAbs < 2 ^ 53 → (n * 1099511627776 ≤ k * d → dz v * 1099511627776 ≤ k * U) ∧ (k * d ≤ n * 1099511627776 → k * U ≤ dz v * 1099511627776))
theorem Fq.zero : Fq 0 0 1 := by
  refine ⟨by decide, by decide, by decide, by decide, nn_0, fun k hk => ⟨fun h => ?_, fun h => ?_⟩⟩
  · rw [dz_0, Int.zero_mul]; exact Int.mul_nonneg (by omega) (Int.le_of_lt U_pos)
  · rw [dz_0, Int.zero_mul]
    have : k ≤ 0 := by omega
    have := Int.mul_le_mul_of_nonneg_right this (Int.le_of_lt U_pos)
    omega
theorem Fq.of {a b v : UInt64} {n d : Int} (e : FP.ddiv a b = v) (fa : Fin64 a) (fb : Fin64 b) (ha : dz a = n * U) (hb : dz b = d * U) (h0 : 0 ≤ n) (h1 : n ≤ d) (h2 : 1 ≤ d) (h3 : d ≤ 65536) : Fq v n d := by
  have p40 : (2 : Int) ^ 40 = 1099511627776 := by decide
  refine ⟨h0, h2, h3, h1, quo_nn e fa fb hb (by omega), fun k hk => ⟨fun h => ?_, fun h => ?_⟩⟩
  · have := quo_le e fa fb ha hb (by omega) k 40 hk (by decide) (by rw [p40]; exact h)
    rw [p40] at this; exact this
  · have := quo_ge e fa fb ha hb (by omega) k 40 hk (by decide) (by rw [p40]; exact h)
    rw [p40] at this; exact this
theorem Fq.range {v : UInt64} {n d : Int} (F : Fq v n d) : 0 ≤ dz v ∧ dz v ≤ U := by
  obtain ⟨h0, h1, h2, h3, -, h⟩ := F
  have a := (h 0 (by decide)).2 (by omega)
  have b := (h 1099511627776 (by decide)).1 (by omega)
  have := U_pos
  omega
theorem Fq.lt {v v' : UInt64} {n d n' d' : Int} (F : Fq v n d) (F' : Fq v' n' d') (h : n * d' < n' * d) : dz v < dz v' := by
  obtain ⟨h0, h1, h2, h3, -, g⟩ := F
  obtain ⟨h0', h1', h2', h3', -, g'⟩ := F'
  have e1 : d * (n * 1099511627776 / d) + n * 1099511627776 % d = n * 1099511627776 := Int.mul_ediv_add_emod _ _
  have e2 := Int.emod_nonneg (n * 1099511627776) (show d ≠ 0 by omega)
  have e3 := Int.emod_lt_of_pos (n * 1099511627776) (show 0 < d by omega)
  have e4 : 0 ≤ n * 1099511627776 / d := Int.ediv_nonneg (by omega) (by omega)
  have e5 : n * 1099511627776 / d ≤ 1099511627776 := by
    have : n * 1099511627776 ≤ 1099511627776 * d := by omega
    exact Int.ediv_le_of_le_mul (by omega) this
  generalize n * 1099511627776 / d = k at *
  generalize n * 1099511627776 % d = r at *
  have a := (g (k + 1) (by omega)).1 (by rw [Int.add_mul, Int.one_mul, ← e1, Int.mul_comm d k]; omega)
  have dd : d * d' ≤ 65536 * 65536 := by
    have x1 : d * d' ≤ 65536 * d' := Int.mul_le_mul_of_nonneg_right h2 (by omega)
    omega
  have key : (k + 2) * d' ≤ n' * 1099511627776 := by
    refine Int.le_of_mul_le_mul_right ?_ (show (0 : Int) < d by omega)
    have y1 : (k + 2) * d' * d = k * d * d' + 2 * (d * d') := by rw [Int.add_mul, Int.add_mul]; congr 1 <;> ac_rfl
    have y2 : k * d = n * 1099511627776 - r := by rw [← e1, Int.mul_comm d k]; omega
    have y3 : (n * 1099511627776 - r) * d' = n * d' * 1099511627776 - r * d' := by rw [Int.sub_mul]; congr 1; ac_rfl
    have y4 : n' * 1099511627776 * d = n' * d * 1099511627776 := by ac_rfl
    have y5 : 0 ≤ r * d' := Int.mul_nonneg e2 (by omega)
    rw [y1, y2, y3, y4]
    generalize n * d' = A at *
    generalize n' * d = B at *
    generalize r * d' = C at *
    generalize d * d' = D at *
    omega
  have b := (g' (k + 2) (by omega)).2 key
  have hU := U_pos
  rw [Int.add_mul] at a b
  omega
theorem Fq.zero_iff {v : UInt64} {n d : Int} (F : Fq v n d) : dz v = 0 ↔ n = 0 := by
  constructor
  · intro h
    refine Classical.byContradiction fun q => ?_
    have := Fq.zero.lt F (by have := F.1; omega)
    rw [dz_0] at this; omega
  · intro h
    have a := F.range
    obtain ⟨h0, h1, h2, h3, -, g⟩ := F
    have := (g 0 (by decide)).1 (by omega)
    omega
theorem Fq.one_iff {v : UInt64} {n d : Int} (F : Fq v n d) : dz v = U ↔ n = d := by
  have a := F.range
  obtain ⟨h0, h1, h2, h3, -, g⟩ := F
  constructor
  · intro h
    refine Classical.byContradiction fun q => ?_
    have := (g 1099511627775 (by decide)).1 (by omega)
    have hU := U_pos
    omega
  · intro h
    have := (g 1099511627776 (by decide)).2 (by omega)
    omega
end Jvm.Own

namespace Jvm.Pilot.@@N@@
open Jvm Jvm.ClassFile Sem Op Lib Jvm.Free Jvm.Stand Jvm.LawKit Jvm.RoadKit Bundle Jvm.Free.Fl Jvm.Pilot.@@N@@.Jvm.D
theorem pn_java_lang_Record : plainName "java/lang/Record" = true := by first | (simp [plainName, overriddenIn]; done) | decide +kernel
abbrev mn_0 : MethodName := (⟨"java/lang/Record", "<init>", "()V"⟩ : MethodName)
theorem pd_1 : parseMethodDescriptor "()V" = some ⟨[], none⟩ := by decide +kernel
theorem pn_com_example_sift_shelves_siftshelves_cli_Measure_Tally : plainName "com/example/sift_shelves/siftshelves/cli/Measure$Tally" = true := by first | (simp [plainName, overriddenIn]; done) | decide +kernel
abbrev mn_2 : MethodName := (⟨"com/example/sift_shelves/siftshelves/cli/Measure$Tally", "<init>", "(IIIIIDI)V"⟩ : MethodName)
abbrev mn_3 : MethodName := (⟨"com/example/sift_shelves/siftshelves/cli/Measure$Tally", "setPrecision", "()D"⟩ : MethodName)
theorem pd_4 : parseMethodDescriptor "(IIIIIDI)V" = some ⟨[.int, .int, .int, .int, .int, .double, .int], none⟩ := by decide +kernel
theorem pd_5 : parseMethodDescriptor "()D" = some ⟨[], some .double⟩ := by decide +kernel
theorem pn_com_example_sift_shelves_siftshelves_cli_TallySetPrecisionPinLaw : plainName "com/example/sift_shelves/siftshelves/cli/TallySetPrecisionPinLaw" = true := by first | (simp [plainName, overriddenIn]; done) | decide +kernel
theorem d2_0 : decode jdk_30_method_1_code 0 = .ok (.aload_n 0, 1) := by decide +kernel
theorem d2_1 : decode jdk_30_method_1_code 1 = .ok (.invokespecial 1, 3) := by decide +kernel
theorem d2_4 : decode jdk_30_method_1_code 4 = .ok (.return_, 1) := by decide +kernel
theorem d1_0 : decode prog_12_method_1_code 0 = .ok (.aload_n 0, 1) := by decide +kernel
theorem d1_1 : decode prog_12_method_1_code 1 = .ok (.invokespecial 1, 3) := by decide +kernel
theorem d1_4 : decode prog_12_method_1_code 4 = .ok (.aload_n 0, 1) := by decide +kernel
theorem d1_5 : decode prog_12_method_1_code 5 = .ok (.iload_n 1, 1) := by decide +kernel
theorem d1_6 : decode prog_12_method_1_code 6 = .ok (.putfield 7, 3) := by decide +kernel
theorem d1_9 : decode prog_12_method_1_code 9 = .ok (.aload_n 0, 1) := by decide +kernel
theorem d1_10 : decode prog_12_method_1_code 10 = .ok (.iload_n 2, 1) := by decide +kernel
theorem d1_11 : decode prog_12_method_1_code 11 = .ok (.putfield 13, 3) := by decide +kernel
theorem d1_14 : decode prog_12_method_1_code 14 = .ok (.aload_n 0, 1) := by decide +kernel
theorem d1_15 : decode prog_12_method_1_code 15 = .ok (.iload_n 3, 1) := by decide +kernel
theorem d1_16 : decode prog_12_method_1_code 16 = .ok (.putfield 16, 3) := by decide +kernel
theorem d1_19 : decode prog_12_method_1_code 19 = .ok (.aload_n 0, 1) := by decide +kernel
theorem d1_20 : decode prog_12_method_1_code 20 = .ok (.iload 4, 2) := by decide +kernel
theorem d1_22 : decode prog_12_method_1_code 22 = .ok (.putfield 19, 3) := by decide +kernel
theorem d1_25 : decode prog_12_method_1_code 25 = .ok (.aload_n 0, 1) := by decide +kernel
theorem d1_26 : decode prog_12_method_1_code 26 = .ok (.iload 5, 2) := by decide +kernel
theorem d1_28 : decode prog_12_method_1_code 28 = .ok (.putfield 22, 3) := by decide +kernel
theorem d1_31 : decode prog_12_method_1_code 31 = .ok (.aload_n 0, 1) := by decide +kernel
theorem d1_32 : decode prog_12_method_1_code 32 = .ok (.dload 6, 2) := by decide +kernel
theorem d1_34 : decode prog_12_method_1_code 34 = .ok (.putfield 25, 3) := by decide +kernel
theorem d1_37 : decode prog_12_method_1_code 37 = .ok (.aload_n 0, 1) := by decide +kernel
theorem d1_38 : decode prog_12_method_1_code 38 = .ok (.iload 8, 2) := by decide +kernel
theorem d1_40 : decode prog_12_method_1_code 40 = .ok (.putfield 29, 3) := by decide +kernel
theorem d1_43 : decode prog_12_method_1_code 43 = .ok (.return_, 1) := by decide +kernel
theorem d4_0 : decode prog_12_method_3_code 0 = .ok (.aload_n 0, 1) := by decide +kernel
theorem d4_1 : decode prog_12_method_3_code 1 = .ok (.getfield 7, 3) := by decide +kernel
theorem d4_4 : decode prog_12_method_3_code 4 = .ok (.ifCond .ne 7, 3) := by decide +kernel
theorem d4_11 : decode prog_12_method_3_code 11 = .ok (.aload_n 0, 1) := by decide +kernel
theorem d4_12 : decode prog_12_method_3_code 12 = .ok (.getfield 16, 3) := by decide +kernel
theorem d4_15 : decode prog_12_method_3_code 15 = .ok (.i2d, 1) := by decide +kernel
theorem d4_16 : decode prog_12_method_3_code 16 = .ok (.aload_n 0, 1) := by decide +kernel
theorem d4_17 : decode prog_12_method_3_code 17 = .ok (.getfield 7, 3) := by decide +kernel
theorem d4_20 : decode prog_12_method_3_code 20 = .ok (.i2d, 1) := by decide +kernel
theorem d4_21 : decode prog_12_method_3_code 21 = .ok (.ddiv, 1) := by decide +kernel
theorem d4_22 : decode prog_12_method_3_code 22 = .ok (.dreturn, 1) := by decide +kernel
theorem d4_7 : decode prog_12_method_3_code 7 = .ok (.dconst 0, 1) := by decide +kernel
theorem d4_8 : decode prog_12_method_3_code 8 = .ok (.goto 14, 3) := by decide +kernel

theorem own_r (x v : Int32) (e : x &&& (65535 : Int32) = v) : 0 ≤ v.toInt ∧ v.toInt ≤ 65535 := by
  have h := c_mask x 65535 16 (by decide) (by decide)
  rw [e] at h; omega
theorem own_s1 (v : Int32) (h : 0 ≤ v.toInt ∧ v.toInt ≤ 65535) : (v + (1 : Int32)).toInt = v.toInt + 1 := by
  have h1 := c_iadd v 1
  have h2 := rng32 (v + 1)
  have h3 : (1 : Int32).toInt = 1 := by decide
  omega
theorem own_nz (v : Int32) (h : 0 ≤ v.toInt ∧ v.toInt ≤ 65535) : v + (1 : Int32) ≠ 0 := fun q => by
  have h1 := own_s1 v h
  rw [q] at h1
  have : (0 : Int32).toInt = 0 := by decide
  omega
theorem own_rr (i r v : Int32) (h : 0 ≤ r.toInt ∧ r.toInt ≤ 65535) (e : (i &&& (2147483647 : Int32)) % (r + (1 : Int32)) = v) : 0 ≤ v.toInt ∧ v.toInt ≤ r.toInt := by
  have h1 := c_mask i 2147483647 31 (by decide) (by decide)
  have h2 := own_s1 r h
  have h3 := (c_iremV (i &&& 2147483647) (r + 1)).1 (by rw [h1]; exact Int.emod_nonneg _ (by decide)) (by omega)
  rw [e] at h3
  omega
theorem own_nn {r rr : Int32} {p : UInt64} (h : 0 ≤ r.toInt ∧ r.toInt ≤ 65535) (h' : 0 ≤ rr.toInt ∧ rr.toInt ≤ r.toInt) (e : (if r.toInt = 0 then (0 : UInt64) else FP.ddiv (FP.i2d rr) (FP.i2d r)) = p) : NoNaN64 p := by
  by_cases q : r.toInt = 0
  · rw [if_pos q] at e; rw [← e]; exact Own.nn_0
  · rw [if_neg q] at e
    exact Own.quo_nn e (i2d_fin _) (i2d_fin _) (Own.i2d_v rfl).2 (by omega)
theorem own_fq {r rr : Int32} {n q : Int64} {p : UInt64} (h : 0 ≤ r.toInt ∧ r.toInt ≤ 65535) (h' : 0 ≤ rr.toInt ∧ rr.toInt ≤ r.toInt) (en : n = if r.toInt = 0 then (0 : Int64) else rr.toInt64) (eq : q = if r.toInt = 0 then (1 : Int64) else r.toInt64) (e : (if r.toInt = 0 then (0 : UInt64) else FP.ddiv (FP.i2d rr) (FP.i2d r)) = p) : Own.Fq p n.toInt q.toInt := by
  by_cases z : r.toInt = 0
  · rw [if_pos z] at en eq e
    rw [← e, en, eq]
    exact Own.Fq.zero
  · rw [if_neg z] at en eq e
    have e1 : rr.toInt64.toInt = rr.toInt := Int32.toInt_toInt64 _
    have e2 : r.toInt64.toInt = r.toInt := Int32.toInt_toInt64 _
    rw [en, eq, e1, e2]
    exact Own.Fq.of e (i2d_fin _) (i2d_fin _) (Own.i2d_v rfl).2 (Own.i2d_v rfl).2 (by omega) (by omega) (by omega) (by omega)
theorem own_mul {a b v : Int64} (e : a * b = v) (ha : 0 ≤ a.toInt ∧ a.toInt ≤ 65536) (hb : 0 ≤ b.toInt ∧ b.toInt ≤ 65536) : v.toInt = a.toInt * b.toInt := by
  have h1 := c_lmul a b
  have h2 := rng64 v
  have h3 : 0 ≤ a.toInt * b.toInt := Int.mul_nonneg ha.1 hb.1
  have h4 : a.toInt * b.toInt ≤ 65536 * 65536 := by
    have x1 : a.toInt * b.toInt ≤ 65536 * b.toInt := Int.mul_le_mul_of_nonneg_right ha.2 hb.1
    omega
  rw [e] at h1
  omega
theorem own_same {r rr r' rr' : Int32} (h : 0 < r.toInt) (h0 : 0 ≤ rr.toInt) (h' : 0 < r'.toInt) (h0' : 0 ≤ rr'.toInt) (e : rr.toInt * r'.toInt = rr'.toInt * r.toInt) : Own.dz (FP.ddiv (FP.i2d rr) (FP.i2d r)) = Own.dz (FP.ddiv (FP.i2d rr') (FP.i2d r')) := by
  have hU := Own.U_pos
  obtain ⟨f1, z1⟩ := Own.i2d_v (x := rr) rfl
  obtain ⟨f2, z2⟩ := Own.i2d_v (x := r) rfl
  obtain ⟨f3, z3⟩ := Own.i2d_v (x := rr') rfl
  obtain ⟨f4, z4⟩ := Own.i2d_v (x := r') rfl
  refine Own.ddiv_same f1 f2 f3 f4 ?_ ?_ ?_ ?_ ?_
  · rw [z1]; exact Int.mul_nonneg h0 (Int.le_of_lt hU)
  · rw [z3]; exact Int.mul_nonneg h0' (Int.le_of_lt hU)
  · rw [z2]; exact Int.mul_pos h hU
  · rw [z4]; exact Int.mul_pos h' hU
  · rw [z1, z2, z3, z4, show rr.toInt * Own.U * (r'.toInt * Own.U) = rr.toInt * r'.toInt * (Own.U * Own.U) by generalize Own.U = u; ac_rfl, e]; generalize Own.U = u; ac_rfl
theorem own_law {r1 rr1 r2 rr2 : Int32} {n1 q1 n2 q2 xx yy : Int64} {p1 p2 : UInt64} (h1 : 0 ≤ r1.toInt ∧ r1.toInt ≤ 65535) (g1 : 0 ≤ rr1.toInt ∧ rr1.toInt ≤ r1.toInt) (en1 : n1 = if r1.toInt = 0 then (0 : Int64) else rr1.toInt64) (eq1 : q1 = if r1.toInt = 0 then (1 : Int64) else r1.toInt64) (e1 : (if r1.toInt = 0 then (0 : UInt64) else FP.ddiv (FP.i2d rr1) (FP.i2d r1)) = p1)
    (h2 : 0 ≤ r2.toInt ∧ r2.toInt ≤ 65535) (g2 : 0 ≤ rr2.toInt ∧ rr2.toInt ≤ r2.toInt) (en2 : n2 = if r2.toInt = 0 then (0 : Int64) else rr2.toInt64) (eq2 : q2 = if r2.toInt = 0 then (1 : Int64) else r2.toInt64) (e2 : (if r2.toInt = 0 then (0 : UInt64) else FP.ddiv (FP.i2d rr2) (FP.i2d r2)) = p2) (ex : n1 * q2 = xx) (ey : n2 * q1 = yy) :
    (r1.toInt = 0 → Own.dz p1 = 0) ∧ 0 ≤ Own.dz p1 ∧ Own.dz p1 ≤ Own.U ∧ 0 ≤ Own.dz p2 ∧ Own.dz p2 ≤ Own.U ∧ (Own.dz p1 = Own.U ↔ (0 < r1.toInt ∧ rr1.toInt = r1.toInt)) ∧ (Own.dz p1 = 0 ↔ n1.toInt = 0) ∧ (Own.dz p1 < Own.dz p2 ↔ xx.toInt < yy.toInt) ∧ (Own.dz p1 = Own.dz p2 ↔ xx.toInt = yy.toInt) := by
  have F1 := own_fq h1 g1 en1 eq1 e1
  have F2 := own_fq h2 g2 en2 eq2 e2
  have R1 := F1.range
  have R2 := F2.range
  have Z1 := F1.zero_iff
  have Z2 := F2.zero_iff
  have O1 := F1.one_iff
  have vx := own_mul ex (by have := F1.1; have := F1.2.1; have := F1.2.2.1; have := F1.2.2.2.1; omega) (by have := F2.2.1; have := F2.2.2.1; omega)
  have vy := own_mul ey (by have := F2.1; have := F2.2.1; have := F2.2.2.1; have := F2.2.2.2.1; omega) (by have := F1.2.1; have := F1.2.2.1; omega)
  have L1 : xx.toInt < yy.toInt → Own.dz p1 < Own.dz p2 := fun q => F1.lt F2 (by rw [vx, vy] at q; exact q)
  have L2 : yy.toInt < xx.toInt → Own.dz p2 < Own.dz p1 := fun q => F2.lt F1 (by rw [vx, vy] at q; exact q)
  have E1 : xx.toInt = yy.toInt → Own.dz p1 = Own.dz p2 := fun q => by
    by_cases w1 : n1.toInt = 0
    · have w2 : n2.toInt * q1.toInt = 0 := by rw [← vy, ← q, vx, w1, Int.zero_mul]
      have w3 : n2.toInt = 0 := (Int.mul_eq_zero.mp w2).resolve_right (by have := F1.2.1; omega)
      rw [Z1.mpr w1, Z2.mpr w3]
    · by_cases w2 : n2.toInt = 0
      · have w4 : n1.toInt * q2.toInt = 0 := by rw [← vx, q, vy, w2, Int.zero_mul]
        exact absurd ((Int.mul_eq_zero.mp w4).resolve_right (by have := F2.2.1; omega)) w1
      · by_cases z1 : r1.toInt = 0
        · rw [if_pos z1] at en1; rw [en1] at w1; exact absurd rfl w1
        · by_cases z2 : r2.toInt = 0
          · rw [if_pos z2] at en2; rw [en2] at w2; exact absurd rfl w2
          · rw [if_neg z1] at en1 eq1 e1
            rw [if_neg z2] at en2 eq2 e2
            have a1 : rr1.toInt64.toInt = rr1.toInt := Int32.toInt_toInt64 _
            have a2 : r1.toInt64.toInt = r1.toInt := Int32.toInt_toInt64 _
            have a3 : rr2.toInt64.toInt = rr2.toInt := Int32.toInt_toInt64 _
            have a4 : r2.toInt64.toInt = r2.toInt := Int32.toInt_toInt64 _
            rw [← e1, ← e2]
            refine own_same (by omega) g1.1 (by omega) g2.1 ?_
            rw [vx, vy, en1, en2, eq1, eq2, a1, a2, a3, a4] at q
            exact q
  have N1 : r1.toInt = 0 → n1.toInt = 0 ∧ q1.toInt = 1 := fun q => by rw [if_pos q] at en1 eq1; rw [en1, eq1]; exact ⟨rfl, rfl⟩
  have N2 : ¬ r1.toInt = 0 → n1.toInt = rr1.toInt ∧ q1.toInt = r1.toInt := fun q => by rw [if_neg q] at en1 eq1; rw [en1, eq1]; exact ⟨Int32.toInt_toInt64 _, Int32.toInt_toInt64 _⟩
  refine ⟨fun q => Z1.mpr (N1 q).1, R1.1, R1.2, R2.1, R2.2, ?_, Z1, ?_, ?_⟩
  · rw [O1]
    by_cases q : r1.toInt = 0
    · have := N1 q; omega
    · have := N2 q; omega
  · constructor
    · intro q; rcases Int.lt_trichotomy xx.toInt yy.toInt with w | w | w
      · exact w
      · have := E1 w; omega
      · have := L2 w; omega
    · exact L1
  · constructor
    · intro q; rcases Int.lt_trichotomy xx.toInt yy.toInt with w | w | w
      · have := L1 w; omega
      · exact w
      · have := L2 w; omega
    · exact E1

theorem ef_2 (m : MethodId) (x0 : Addr) : entryFrame m #[.ref x0] 1 = mkF m 0 #[.val (.ref x0)] [] := by first | (simp [entryFrame, mkF, argsToLocals, Value.category, maxLocals]; done) | rfl
set_option maxRecDepth 65536 in
set_option maxHeartbeats 40000000 in
theorem rm2 (l : Launch) (Z : State) (a0 : Array Value) (hw : ∀ d ∈ tables_1, d.before a0 Z = true) (a : Addr) (h0 : Heap) (n0 : Nat) (Z0 : n0 ≤ h0.size)  :
    Own.Con l Z mn_0 [] jdk_30_method_1_code 1 none ({ frames := 1, cells := 0, slots := 0, locals := 12 } : Room) #[.ref a] h0 n0 (fun v h => v = none ∧ h0 = h) := by
  refine Own.enter (own := "java/lang/Record") (nm := "<init>") (plainFor_of_name pn_java_lang_Record) rfl rfl (fun m => ef_2 m a) fun p e s m below meth c T X => ?_
  refine Own.aloadN X d2_0 rfl rfl ?_
  refine Own.initO_ X d2_1 (Own.wd hw 13 rfl) (Own.wd hw 14 rfl) (Own.wd hw 15 rfl) rfl (W := 0) (by decide) (Nat.le_of_eq rfl) (by decide) fun T1 X1 => ?_
  exact Own.retV X1 d2_4 ⟨rfl, rfl⟩ (by decide) (by decide)
theorem ef_1 (m : MethodId) (x0 : Addr) (x1 : Int32) (x2 : Int32) (x3 : Int32) (x4 : Int32) (x5 : Int32) (x6 : UInt64) (x7 : Int32) : entryFrame m #[.ref x0, .int x1, .int x2, .int x3, .int x4, .int x5, .double x6, .int x7] 9 = mkF m 0 #[.val (.ref x0), .val (.int x1), .val (.int x2), .val (.int x3), .val (.int x4), .val (.int x5), .val (.double x6), .second, .val (.int x7)] [] := by first | (simp [entryFrame, mkF, argsToLocals, Value.category, maxLocals]; done) | rfl
set_option maxRecDepth 65536 in
set_option maxHeartbeats 40000000 in
theorem rm1 (l : Launch) (Z : State) (a0 : Array Value) (hw : ∀ d ∈ tables_1, d.before a0 Z = true) (a : Addr) (p1 : Int32) (p2 : Int32) (p3 : Int32) (p4 : Int32) (p5 : Int32) (p6 : UInt64) (p7 : Int32)  (h0 : Heap) (n0 : Nat) (Z0 : n0 ≤ h0.size) (ga : n0 ≤ a) (Ea : Exa Z h0 a "com/example/sift_shelves/siftshelves/cli/Measure$Tally") (F0_retrieved : Fld Z h0 a "com/example/sift_shelves/siftshelves/cli/Measure$Tally" "retrieved" "I" (.int (0 : Int32))) (F0_relevant : Fld Z h0 a "com/example/sift_shelves/siftshelves/cli/Measure$Tally" "relevant" "I" (.int (0 : Int32))) (F0_relevantRetrieved : Fld Z h0 a "com/example/sift_shelves/siftshelves/cli/Measure$Tally" "relevantRetrieved" "I" (.int (0 : Int32))) (F0_relevantInFirstR : Fld Z h0 a "com/example/sift_shelves/siftshelves/cli/Measure$Tally" "relevantInFirstR" "I" (.int (0 : Int32))) (F0_relevantInFirst10 : Fld Z h0 a "com/example/sift_shelves/siftshelves/cli/Measure$Tally" "relevantInFirst10" "I" (.int (0 : Int32))) (F0_precisionSum : Fld Z h0 a "com/example/sift_shelves/siftshelves/cli/Measure$Tally" "precisionSum" "D" (.double 0)) (F0_firstRelevantRank : Fld Z h0 a "com/example/sift_shelves/siftshelves/cli/Measure$Tally" "firstRelevantRank" "I" (.int (0 : Int32)))  :
    Own.Con l Z mn_2 [] prog_12_method_1_code 9 none ({ frames := 2, cells := 0, slots := 0, locals := 24 } : Room) #[.ref a, .int p1, .int p2, .int p3, .int p4, .int p5, .double p6, .int p7] h0 n0 (fun v h => v = none ∧ Keep h0 h [a] ∧ Fld Z h a "com/example/sift_shelves/siftshelves/cli/Measure$Tally" "retrieved" "I" (.int p1) ∧ Fld Z h a "com/example/sift_shelves/siftshelves/cli/Measure$Tally" "relevant" "I" (.int p2) ∧ Fld Z h a "com/example/sift_shelves/siftshelves/cli/Measure$Tally" "relevantRetrieved" "I" (.int p3) ∧ Fld Z h a "com/example/sift_shelves/siftshelves/cli/Measure$Tally" "relevantInFirstR" "I" (.int p4) ∧ Fld Z h a "com/example/sift_shelves/siftshelves/cli/Measure$Tally" "relevantInFirst10" "I" (.int p5) ∧ Fld Z h a "com/example/sift_shelves/siftshelves/cli/Measure$Tally" "precisionSum" "D" (.double p6) ∧ Fld Z h a "com/example/sift_shelves/siftshelves/cli/Measure$Tally" "firstRelevantRank" "I" (.int p7)) := by
  refine Own.enter (own := "com/example/sift_shelves/siftshelves/cli/Measure$Tally") (nm := "<init>") (plainFor_of_name pn_com_example_sift_shelves_siftshelves_cli_Measure_Tally) rfl rfl (fun m => ef_1 m a p1 p2 p3 p4 p5 p6 p7) fun p e s m below meth c T X => ?_
  refine Own.aloadN X d1_0 rfl rfl ?_
  refine Own.callI_ (y := mn_0) (a := a) X d1_1 rfl (Own.wd hw 8 rfl) (Own.wd hw 9 rfl) (Own.wd hw 11 rfl) (Own.wd hw 12 rfl) (by decide) (rm2 l Z a0 hw a h0 n0 Z0) (lenOf pd_1 rfl) rfl (argsL := []) (rest := []) rfl (W := 0) (Nat.le_of_eq rfl) (by decide) (by decide) (by decide) (by decide) fun T1 h1 v1 X1 q1 => ?_
  obtain ⟨rfl, rfl⟩ := q1
  show Own.Go p e below s n0 _ _ _ (T1.setTop (mkF m 4 _ []))
  refine Own.aloadN X1 d1_4 rfl rfl ?_
  refine Own.iloadN X1 d1_5 rfl ?_
  refine Own.putF_ X1 d1_6 (host := "") (Or.inl (Own.wd hw 16 rfl)) Via.refl F0_retrieved Ea (Or.inr ⟨(Own.wd hw 17 rfl), rfl, rfl⟩) (Own.wd hw 3 rfl) (ty := .int) (by decide) rfl rfl ga fun T2 h2 X2 W2 => ?_
  have F3 := Ea.wr W2
  have F4 := (Keep.refl h0 [a]).wr W2 (Or.inl (List.mem_of_getElem? (i := 0) rfl))
  have F5 := F0_relevant.other W2 (Or.inr (slot_ne (Or.inr (Own.wd hw 19 rfl)) (Or.inr (Own.wd hw 17 rfl)) (by decide) (t := .int) (t' := .int) (by decide) (by decide)))
  have F6 := F0_relevantRetrieved.other W2 (Or.inr (slot_ne (Or.inr (Own.wd hw 21 rfl)) (Or.inr (Own.wd hw 17 rfl)) (by decide) (t := .int) (t' := .int) (by decide) (by decide)))
  have F7 := F0_relevantInFirstR.other W2 (Or.inr (slot_ne (Or.inr (Own.wd hw 23 rfl)) (Or.inr (Own.wd hw 17 rfl)) (by decide) (t := .int) (t' := .int) (by decide) (by decide)))
  have F8 := F0_relevantInFirst10.other W2 (Or.inr (slot_ne (Or.inr (Own.wd hw 25 rfl)) (Or.inr (Own.wd hw 17 rfl)) (by decide) (t := .int) (t' := .int) (by decide) (by decide)))
  have F9 := F0_precisionSum.other W2 (Or.inr (slot_ne (Or.inr (Own.wd hw 27 rfl)) (Or.inr (Own.wd hw 17 rfl)) (by decide) (t := .double) (t' := .int) (by decide) (by decide)))
  have F10 := F0_firstRelevantRank.other W2 (Or.inr (slot_ne (Or.inr (Own.wd hw 29 rfl)) (Or.inr (Own.wd hw 17 rfl)) (by decide) (t := .int) (t' := .int) (by decide) (by decide)))
  have F11 : Fld Z h2 a "com/example/sift_shelves/siftshelves/cli/Measure$Tally" "retrieved" "I" (.int p1) := Fld.same W2 F0_retrieved
  have Z12 : n0 ≤ h2.size := by rw [W2.size]; exact Z0
  refine Own.aloadN X2 d1_9 rfl rfl ?_
  refine Own.iloadN X2 d1_10 rfl ?_
  refine Own.putF_ X2 d1_11 (host := "") (Or.inl (Own.wd hw 18 rfl)) Via.refl F5 F3 (Or.inr ⟨(Own.wd hw 19 rfl), rfl, rfl⟩) (Own.wd hw 3 rfl) (ty := .int) (by decide) rfl rfl ga fun T13 h13 X13 W13 => ?_
  have F14 := F3.wr W13
  have F15 := F4.wr W13 (Or.inl (List.mem_of_getElem? (i := 0) rfl))
  have F16 := F6.other W13 (Or.inr (slot_ne (Or.inr (Own.wd hw 21 rfl)) (Or.inr (Own.wd hw 19 rfl)) (by decide) (t := .int) (t' := .int) (by decide) (by decide)))
  have F17 := F7.other W13 (Or.inr (slot_ne (Or.inr (Own.wd hw 23 rfl)) (Or.inr (Own.wd hw 19 rfl)) (by decide) (t := .int) (t' := .int) (by decide) (by decide)))
  have F18 := F8.other W13 (Or.inr (slot_ne (Or.inr (Own.wd hw 25 rfl)) (Or.inr (Own.wd hw 19 rfl)) (by decide) (t := .int) (t' := .int) (by decide) (by decide)))
  have F19 := F9.other W13 (Or.inr (slot_ne (Or.inr (Own.wd hw 27 rfl)) (Or.inr (Own.wd hw 19 rfl)) (by decide) (t := .double) (t' := .int) (by decide) (by decide)))
  have F20 := F10.other W13 (Or.inr (slot_ne (Or.inr (Own.wd hw 29 rfl)) (Or.inr (Own.wd hw 19 rfl)) (by decide) (t := .int) (t' := .int) (by decide) (by decide)))
  have F21 := F11.other W13 (Or.inr (slot_ne (Or.inr (Own.wd hw 17 rfl)) (Or.inr (Own.wd hw 19 rfl)) (by decide) (t := .int) (t' := .int) (by decide) (by decide)))
  have F22 : Fld Z h13 a "com/example/sift_shelves/siftshelves/cli/Measure$Tally" "relevant" "I" (.int p2) := Fld.same W13 F5
  have Z23 : n0 ≤ h13.size := by rw [W13.size]; exact Z12
  refine Own.aloadN X13 d1_14 rfl rfl ?_
  refine Own.iloadN X13 d1_15 rfl ?_
  refine Own.putF_ X13 d1_16 (host := "") (Or.inl (Own.wd hw 20 rfl)) Via.refl F16 F14 (Or.inr ⟨(Own.wd hw 21 rfl), rfl, rfl⟩) (Own.wd hw 3 rfl) (ty := .int) (by decide) rfl rfl ga fun T24 h24 X24 W24 => ?_
  have F25 := F14.wr W24
  have F26 := F15.wr W24 (Or.inl (List.mem_of_getElem? (i := 0) rfl))
  have F27 := F17.other W24 (Or.inr (slot_ne (Or.inr (Own.wd hw 23 rfl)) (Or.inr (Own.wd hw 21 rfl)) (by decide) (t := .int) (t' := .int) (by decide) (by decide)))
  have F28 := F18.other W24 (Or.inr (slot_ne (Or.inr (Own.wd hw 25 rfl)) (Or.inr (Own.wd hw 21 rfl)) (by decide) (t := .int) (t' := .int) (by decide) (by decide)))
  have F29 := F19.other W24 (Or.inr (slot_ne (Or.inr (Own.wd hw 27 rfl)) (Or.inr (Own.wd hw 21 rfl)) (by decide) (t := .double) (t' := .int) (by decide) (by decide)))
  have F30 := F20.other W24 (Or.inr (slot_ne (Or.inr (Own.wd hw 29 rfl)) (Or.inr (Own.wd hw 21 rfl)) (by decide) (t := .int) (t' := .int) (by decide) (by decide)))
  have F31 := F21.other W24 (Or.inr (slot_ne (Or.inr (Own.wd hw 17 rfl)) (Or.inr (Own.wd hw 21 rfl)) (by decide) (t := .int) (t' := .int) (by decide) (by decide)))
  have F32 := F22.other W24 (Or.inr (slot_ne (Or.inr (Own.wd hw 19 rfl)) (Or.inr (Own.wd hw 21 rfl)) (by decide) (t := .int) (t' := .int) (by decide) (by decide)))
  have F33 : Fld Z h24 a "com/example/sift_shelves/siftshelves/cli/Measure$Tally" "relevantRetrieved" "I" (.int p3) := Fld.same W24 F16
  have Z34 : n0 ≤ h24.size := by rw [W24.size]; exact Z23
  refine Own.aloadN X24 d1_19 rfl rfl ?_
  refine Own.iload X24 d1_20 rfl ?_
  refine Own.putF_ X24 d1_22 (host := "") (Or.inl (Own.wd hw 22 rfl)) Via.refl F27 F25 (Or.inr ⟨(Own.wd hw 23 rfl), rfl, rfl⟩) (Own.wd hw 3 rfl) (ty := .int) (by decide) rfl rfl ga fun T35 h35 X35 W35 => ?_
  have F36 := F25.wr W35
  have F37 := F26.wr W35 (Or.inl (List.mem_of_getElem? (i := 0) rfl))
  have F38 := F28.other W35 (Or.inr (slot_ne (Or.inr (Own.wd hw 25 rfl)) (Or.inr (Own.wd hw 23 rfl)) (by decide) (t := .int) (t' := .int) (by decide) (by decide)))
  have F39 := F29.other W35 (Or.inr (slot_ne (Or.inr (Own.wd hw 27 rfl)) (Or.inr (Own.wd hw 23 rfl)) (by decide) (t := .double) (t' := .int) (by decide) (by decide)))
  have F40 := F30.other W35 (Or.inr (slot_ne (Or.inr (Own.wd hw 29 rfl)) (Or.inr (Own.wd hw 23 rfl)) (by decide) (t := .int) (t' := .int) (by decide) (by decide)))
  have F41 := F31.other W35 (Or.inr (slot_ne (Or.inr (Own.wd hw 17 rfl)) (Or.inr (Own.wd hw 23 rfl)) (by decide) (t := .int) (t' := .int) (by decide) (by decide)))
  have F42 := F32.other W35 (Or.inr (slot_ne (Or.inr (Own.wd hw 19 rfl)) (Or.inr (Own.wd hw 23 rfl)) (by decide) (t := .int) (t' := .int) (by decide) (by decide)))
  have F43 := F33.other W35 (Or.inr (slot_ne (Or.inr (Own.wd hw 21 rfl)) (Or.inr (Own.wd hw 23 rfl)) (by decide) (t := .int) (t' := .int) (by decide) (by decide)))
  have F44 : Fld Z h35 a "com/example/sift_shelves/siftshelves/cli/Measure$Tally" "relevantInFirstR" "I" (.int p4) := Fld.same W35 F27
  have Z45 : n0 ≤ h35.size := by rw [W35.size]; exact Z34
  refine Own.aloadN X35 d1_25 rfl rfl ?_
  refine Own.iload X35 d1_26 rfl ?_
  refine Own.putF_ X35 d1_28 (host := "") (Or.inl (Own.wd hw 24 rfl)) Via.refl F38 F36 (Or.inr ⟨(Own.wd hw 25 rfl), rfl, rfl⟩) (Own.wd hw 3 rfl) (ty := .int) (by decide) rfl rfl ga fun T46 h46 X46 W46 => ?_
  have F47 := F36.wr W46
  have F48 := F37.wr W46 (Or.inl (List.mem_of_getElem? (i := 0) rfl))
  have F49 := F39.other W46 (Or.inr (slot_ne (Or.inr (Own.wd hw 27 rfl)) (Or.inr (Own.wd hw 25 rfl)) (by decide) (t := .double) (t' := .int) (by decide) (by decide)))
  have F50 := F40.other W46 (Or.inr (slot_ne (Or.inr (Own.wd hw 29 rfl)) (Or.inr (Own.wd hw 25 rfl)) (by decide) (t := .int) (t' := .int) (by decide) (by decide)))
  have F51 := F41.other W46 (Or.inr (slot_ne (Or.inr (Own.wd hw 17 rfl)) (Or.inr (Own.wd hw 25 rfl)) (by decide) (t := .int) (t' := .int) (by decide) (by decide)))
  have F52 := F42.other W46 (Or.inr (slot_ne (Or.inr (Own.wd hw 19 rfl)) (Or.inr (Own.wd hw 25 rfl)) (by decide) (t := .int) (t' := .int) (by decide) (by decide)))
  have F53 := F43.other W46 (Or.inr (slot_ne (Or.inr (Own.wd hw 21 rfl)) (Or.inr (Own.wd hw 25 rfl)) (by decide) (t := .int) (t' := .int) (by decide) (by decide)))
  have F54 := F44.other W46 (Or.inr (slot_ne (Or.inr (Own.wd hw 23 rfl)) (Or.inr (Own.wd hw 25 rfl)) (by decide) (t := .int) (t' := .int) (by decide) (by decide)))
  have F55 : Fld Z h46 a "com/example/sift_shelves/siftshelves/cli/Measure$Tally" "relevantInFirst10" "I" (.int p5) := Fld.same W46 F38
  have Z56 : n0 ≤ h46.size := by rw [W46.size]; exact Z45
  refine Own.aloadN X46 d1_31 rfl rfl ?_
  refine Own.dload X46 d1_32 rfl ?_
  refine Own.putF_ X46 d1_34 (host := "") (Or.inl (Own.wd hw 26 rfl)) Via.refl F49 F47 (Or.inr ⟨(Own.wd hw 27 rfl), rfl, rfl⟩) (Own.wd hw 3 rfl) (ty := .double) (by decide) rfl rfl ga fun T57 h57 X57 W57 => ?_
  have F58 := F47.wr W57
  have F59 := F48.wr W57 (Or.inl (List.mem_of_getElem? (i := 0) rfl))
  have F60 := F50.other W57 (Or.inr (slot_ne (Or.inr (Own.wd hw 29 rfl)) (Or.inr (Own.wd hw 27 rfl)) (by decide) (t := .int) (t' := .double) (by decide) (by decide)))
  have F61 := F51.other W57 (Or.inr (slot_ne (Or.inr (Own.wd hw 17 rfl)) (Or.inr (Own.wd hw 27 rfl)) (by decide) (t := .int) (t' := .double) (by decide) (by decide)))
  have F62 := F52.other W57 (Or.inr (slot_ne (Or.inr (Own.wd hw 19 rfl)) (Or.inr (Own.wd hw 27 rfl)) (by decide) (t := .int) (t' := .double) (by decide) (by decide)))
  have F63 := F53.other W57 (Or.inr (slot_ne (Or.inr (Own.wd hw 21 rfl)) (Or.inr (Own.wd hw 27 rfl)) (by decide) (t := .int) (t' := .double) (by decide) (by decide)))
  have F64 := F54.other W57 (Or.inr (slot_ne (Or.inr (Own.wd hw 23 rfl)) (Or.inr (Own.wd hw 27 rfl)) (by decide) (t := .int) (t' := .double) (by decide) (by decide)))
  have F65 := F55.other W57 (Or.inr (slot_ne (Or.inr (Own.wd hw 25 rfl)) (Or.inr (Own.wd hw 27 rfl)) (by decide) (t := .int) (t' := .double) (by decide) (by decide)))
  have F66 : Fld Z h57 a "com/example/sift_shelves/siftshelves/cli/Measure$Tally" "precisionSum" "D" (.double p6) := Fld.same W57 F49
  have Z67 : n0 ≤ h57.size := by rw [W57.size]; exact Z56
  refine Own.aloadN X57 d1_37 rfl rfl ?_
  refine Own.iload X57 d1_38 rfl ?_
  refine Own.putF_ X57 d1_40 (host := "") (Or.inl (Own.wd hw 28 rfl)) Via.refl F60 F58 (Or.inr ⟨(Own.wd hw 29 rfl), rfl, rfl⟩) (Own.wd hw 3 rfl) (ty := .int) (by decide) rfl rfl ga fun T68 h68 X68 W68 => ?_
  have F69 := F58.wr W68
  have F70 := F59.wr W68 (Or.inl (List.mem_of_getElem? (i := 0) rfl))
  have F71 := F61.other W68 (Or.inr (slot_ne (Or.inr (Own.wd hw 17 rfl)) (Or.inr (Own.wd hw 29 rfl)) (by decide) (t := .int) (t' := .int) (by decide) (by decide)))
  have F72 := F62.other W68 (Or.inr (slot_ne (Or.inr (Own.wd hw 19 rfl)) (Or.inr (Own.wd hw 29 rfl)) (by decide) (t := .int) (t' := .int) (by decide) (by decide)))
  have F73 := F63.other W68 (Or.inr (slot_ne (Or.inr (Own.wd hw 21 rfl)) (Or.inr (Own.wd hw 29 rfl)) (by decide) (t := .int) (t' := .int) (by decide) (by decide)))
  have F74 := F64.other W68 (Or.inr (slot_ne (Or.inr (Own.wd hw 23 rfl)) (Or.inr (Own.wd hw 29 rfl)) (by decide) (t := .int) (t' := .int) (by decide) (by decide)))
  have F75 := F65.other W68 (Or.inr (slot_ne (Or.inr (Own.wd hw 25 rfl)) (Or.inr (Own.wd hw 29 rfl)) (by decide) (t := .int) (t' := .int) (by decide) (by decide)))
  have F76 := F66.other W68 (Or.inr (slot_ne (Or.inr (Own.wd hw 27 rfl)) (Or.inr (Own.wd hw 29 rfl)) (by decide) (t := .double) (t' := .int) (by decide) (by decide)))
  have F77 : Fld Z h68 a "com/example/sift_shelves/siftshelves/cli/Measure$Tally" "firstRelevantRank" "I" (.int p7) := Fld.same W68 F60
  have Z78 : n0 ≤ h68.size := by rw [W68.size]; exact Z67
  exact Own.retV X68 d1_43 ⟨rfl, F70, F71, F72, F73, F74, F75, F76, F77⟩ (by decide) (by decide)
theorem ef_4 (m : MethodId) (x0 : Addr) : entryFrame m #[.ref x0] 1 = mkF m 0 #[.val (.ref x0)] [] := by first | (simp [entryFrame, mkF, argsToLocals, Value.category, maxLocals]; done) | rfl
set_option maxRecDepth 65536 in
set_option maxHeartbeats 40000000 in
theorem rm4 (l : Launch) (Z : State) (a0 : Array Value) (hw : ∀ d ∈ tables_1, d.before a0 Z = true) (a : Addr) (u1 : Int32) (u2 : Int32)  (h0 : Heap) (n0 : Nat) (Z0 : n0 ≤ h0.size) (F0_a_retrieved : Fld Z h0 a "com/example/sift_shelves/siftshelves/cli/Measure$Tally" "retrieved" "I" (.int u1)) (F0_a_relevantRetrieved : Fld Z h0 a "com/example/sift_shelves/siftshelves/cli/Measure$Tally" "relevantRetrieved" "I" (.int u2))  :
    Own.Con l Z mn_3 [] prog_12_method_3_code 1 (some .double) ({ frames := 0, cells := 0, slots := 0, locals := 0 } : Room) #[.ref a] h0 n0 (fun v h => v = some (.double (if u1.toInt = 0 then (0 : UInt64) else FP.ddiv (FP.i2d u2) (FP.i2d u1))) ∧ h0 = h) := by
  refine Own.enter (own := "com/example/sift_shelves/siftshelves/cli/Measure$Tally") (nm := "setPrecision") (plainFor_of_name pn_com_example_sift_shelves_siftshelves_cli_Measure_Tally) rfl rfl (fun m => ef_4 m a) fun p e s m below meth c T X => ?_
  refine Own.aloadN X d4_0 rfl rfl ?_
  refine Own.getF_ X d4_1 (host := "") (Or.inl (Own.wd hw 16 rfl)) Via.refl F0_a_retrieved fun T1 X1 => ?_
  refine Own.iff_ X1 (pc' := 11) d4_4 (by decide) (fun (h4 : ¬ (u1.toInt = (0 : Int))) => ?_) (fun h4' => ?_)
  · refine Own.aloadN X1 d4_11 rfl rfl ?_
    refine Own.getF_ X1 d4_12 (host := "") (Or.inl (Own.wd hw 20 rfl)) Via.refl F0_a_relevantRetrieved fun T2 X2 => ?_
    obtain ⟨d15, e_d15⟩ : ∃ v, FP.i2d u2 = v := ⟨_, rfl⟩
    obtain ⟨f_d15, z_d15⟩ := Own.i2d_v e_d15
    have n_d15 := f_d15.noNaN
    refine Own.i2d X2 d4_15 e_d15 ?_
    refine Own.aloadN X2 d4_16 rfl rfl ?_
    refine Own.getF_ X2 d4_17 (host := "") (Or.inl (Own.wd hw 16 rfl)) Via.refl F0_a_retrieved fun T3 X3 => ?_
    obtain ⟨d20, e_d20⟩ : ∃ v, FP.i2d u1 = v := ⟨_, rfl⟩
    obtain ⟨f_d20, z_d20⟩ := Own.i2d_v e_d20
    have n_d20 := f_d20.noNaN
    refine Own.i2d X3 d4_20 e_d20 ?_
    obtain ⟨d21, e_d21⟩ : ∃ v, FP.ddiv d15 d20 = v := ⟨_, rfl⟩
    have n_d21 : NoNaN64 d21 := e_d21 ▸ Own.ddiv_nn f_d15 f_d20 (by rw [z_d20]; intro z; exact (Int.mul_eq_zero.mp z).elim h4 (fun w => absurd w (by have := Own.U_pos; omega)))
    refine Own.ddiv X3 d4_21 e_d21 n_d21 ?_
    exact Own.retD X3 d4_22 ⟨congrArg (fun z => some (Value.double z)) (by first | (rw [if_pos h4]; done) | (rw [if_neg h4, e_d15, e_d20, e_d21]; done)), rfl⟩ (by decide) (by decide)
  · have h4 : u1.toInt = (0 : Int) := Classical.not_not.mp h4'
    refine Own.dconst0 X1 d4_7 ?_
    refine Own.goto_ X1 (pc' := 22) d4_8 (by decide) ?_
    exact Own.retD X1 d4_22 ⟨congrArg (fun z => some (Value.double z)) (by first | (rw [if_pos h4]; done) | (rw [if_neg h4, e_d15, e_d20, e_d21]; done)), rfl⟩ (by decide) (by decide)
theorem ef_0 (m : MethodId) (x0 : Int32) (x1 : Int32) (x2 : Int32) (x3 : Int32) (x4 : Int32) (x5 : Int32) : entryFrame m #[.int x0, .int x1, .int x2, .int x3, .int x4, .int x5] maxLocals = mkF m 0 #[.val (.int x0), .val (.int x1), .val (.int x2), .val (.int x3), .val (.int x4), .val (.int x5), .unset, .unset, .unset, .unset, .unset, .unset, .unset, .unset, .unset, .unset, .unset, .unset, .unset, .unset, .unset, .unset, .unset, .unset, .unset, .unset, .unset, .unset, .unset, .unset, .unset] [] := by first | (simp [entryFrame, mkF, argsToLocals, Value.category, maxLocals]; done) | rfl
set_option maxRecDepth 65536 in
set_option maxHeartbeats 40000000 in
theorem rm0 (l : Launch) (Z : State) (a0 : Array Value) (hw : ∀ d ∈ tables_1, d.before a0 Z = true) (i0 i1 i2 i3 i4 i5 : Int32) (h0 : Heap) (n0 : Nat) (Z0 : n0 ≤ h0.size)  :
    Own.Con l Z x tables_1 code maxLocals ret room_1 #[.int i0, .int i1, .int i2, .int i3, .int i4, .int i5] h0 n0 (fun v _ => v = some (.int 1)) := by
  refine Own.enter (own := "com/example/sift_shelves/siftshelves/cli/TallySetPrecisionPinLaw") (nm := "law") (plainFor_of_name pn_com_example_sift_shelves_siftshelves_cli_TallySetPrecisionPinLaw) rfl rfl (fun m => ef_0 m i0 i1 i2 i3 i4 i5) fun p e s m below meth c T X => ?_
  refine Own.iloadN X at_0 rfl ?_
  refine Own.ldcI X at_1 (Own.wd hw 0 rfl) ?_
  refine Own.iand X at_3 ?_
  obtain ⟨r1, e_r1⟩ : ∃ v, (i1 &&& (65535 : Int32)) = v := ⟨_, rfl⟩
  rw [e_r1]
  have h_r1 := own_r _ r1 e_r1
  refine Own.istore X at_4 (l' := #[.val (.int i0), .val (.int i1), .val (.int i2), .val (.int i3), .val (.int i4), .val (.int i5), .val (.int r1), .unset, .unset, .unset, .unset, .unset, .unset, .unset, .unset, .unset, .unset, .unset, .unset, .unset, .unset, .unset, .unset, .unset, .unset, .unset, .unset, .unset, .unset, .unset, .unset]) rfl ?_
  refine Own.iloadN X at_6 rfl ?_
  refine Own.ldcI X at_7 (Own.wd hw 1 rfl) ?_
  refine Own.iand X at_9 ?_
  refine Own.iload X at_10 rfl ?_
  refine Own.iconst X (v := 1) at_12 rfl ?_
  refine Own.iadd X at_13 ?_
  refine Own.irem X at_14 (own_nz r1 h_r1) ?_
  obtain ⟨rr1, e_rr1⟩ : ∃ v, ((i0 &&& (2147483647 : Int32)) % (r1 + (1 : Int32))) = v := ⟨_, rfl⟩
  rw [e_rr1]
  have h_rr1 := own_rr i0 r1 rr1 h_r1 e_rr1
  refine Own.istore X at_15 (l' := #[.val (.int i0), .val (.int i1), .val (.int i2), .val (.int i3), .val (.int i4), .val (.int i5), .val (.int r1), .val (.int rr1), .unset, .unset, .unset, .unset, .unset, .unset, .unset, .unset, .unset, .unset, .unset, .unset, .unset, .unset, .unset, .unset, .unset, .unset, .unset, .unset, .unset, .unset, .unset]) rfl ?_
  refine Own.iloadN X at_17 rfl ?_
  refine Own.ldcI X at_18 (Own.wd hw 0 rfl) ?_
  refine Own.iand X at_20 ?_
  obtain ⟨r2, e_r2⟩ : ∃ v, (i3 &&& (65535 : Int32)) = v := ⟨_, rfl⟩
  rw [e_r2]
  have h_r2 := own_r _ r2 e_r2
  refine Own.istore X at_21 (l' := #[.val (.int i0), .val (.int i1), .val (.int i2), .val (.int i3), .val (.int i4), .val (.int i5), .val (.int r1), .val (.int rr1), .val (.int r2), .unset, .unset, .unset, .unset, .unset, .unset, .unset, .unset, .unset, .unset, .unset, .unset, .unset, .unset, .unset, .unset, .unset, .unset, .unset, .unset, .unset, .unset]) rfl ?_
  refine Own.iloadN X at_23 rfl ?_
  refine Own.ldcI X at_24 (Own.wd hw 1 rfl) ?_
  refine Own.iand X at_26 ?_
  refine Own.iload X at_27 rfl ?_
  refine Own.iconst X (v := 1) at_29 rfl ?_
  refine Own.iadd X at_30 ?_
  refine Own.irem X at_31 (own_nz r2 h_r2) ?_
  obtain ⟨rr2, e_rr2⟩ : ∃ v, ((i2 &&& (2147483647 : Int32)) % (r2 + (1 : Int32))) = v := ⟨_, rfl⟩
  rw [e_rr2]
  have h_rr2 := own_rr i2 r2 rr2 h_r2 e_rr2
  refine Own.istore X at_32 (l' := #[.val (.int i0), .val (.int i1), .val (.int i2), .val (.int i3), .val (.int i4), .val (.int i5), .val (.int r1), .val (.int rr1), .val (.int r2), .val (.int rr2), .unset, .unset, .unset, .unset, .unset, .unset, .unset, .unset, .unset, .unset, .unset, .unset, .unset, .unset, .unset, .unset, .unset, .unset, .unset, .unset, .unset]) rfl ?_
  refine Own.iload X at_34 rfl ?_
  refine Own.ldcI X at_36 (Own.wd hw 0 rfl) ?_
  refine Own.iand X at_38 ?_
  refine Own.iconst X (v := 1) at_39 rfl ?_
  refine Own.iadd X at_40 ?_
  obtain ⟨rel, e_rel⟩ : ∃ v, ((i4 &&& (65535 : Int32)) + (1 : Int32)) = v := ⟨_, rfl⟩
  rw [e_rel]
  refine Own.istore X at_41 (l' := #[.val (.int i0), .val (.int i1), .val (.int i2), .val (.int i3), .val (.int i4), .val (.int i5), .val (.int r1), .val (.int rr1), .val (.int r2), .val (.int rr2), .val (.int rel), .unset, .unset, .unset, .unset, .unset, .unset, .unset, .unset, .unset, .unset, .unset, .unset, .unset, .unset, .unset, .unset, .unset, .unset, .unset, .unset]) rfl ?_
  refine Own.iload X at_43 rfl ?_
  refine Own.sipush X (v := 255) at_45 rfl ?_
  refine Own.iand X at_48 ?_
  obtain ⟨ot, e_ot⟩ : ∃ v, (i5 &&& (255 : Int32)) = v := ⟨_, rfl⟩
  rw [e_ot]
  refine Own.istore X at_49 (l' := #[.val (.int i0), .val (.int i1), .val (.int i2), .val (.int i3), .val (.int i4), .val (.int i5), .val (.int r1), .val (.int rr1), .val (.int r2), .val (.int rr2), .val (.int rel), .val (.int ot), .unset, .unset, .unset, .unset, .unset, .unset, .unset, .unset, .unset, .unset, .unset, .unset, .unset, .unset, .unset, .unset, .unset, .unset, .unset]) rfl ?_
  refine Own.newO_ X at_51 (Own.wd hw 2 rfl) (Own.wd hw 3 rfl) (Own.wd hw 4 rfl) (by decide) (by decide) fun T1 h1 o51 g_o51 X1 E1 A1 D1 => ?_
  have fr2 : n0 ≤ o51 := Nat.le_trans Z0 (Nat.le_of_eq g_o51.symm)
  have Z3 : n0 ≤ h1.size := Nat.le_trans Z0 E1.1
  have F4 : Fld Z h1 o51 "com/example/sift_shelves/siftshelves/cli/Measure$Tally" "retrieved" "I" (.int (0 : Int32)) := D1 (Or.inr (Own.wd hw 17 rfl)) (ty := .int) (by decide)
  have F5 : Fld Z h1 o51 "com/example/sift_shelves/siftshelves/cli/Measure$Tally" "relevant" "I" (.int (0 : Int32)) := D1 (Or.inr (Own.wd hw 19 rfl)) (ty := .int) (by decide)
  have F6 : Fld Z h1 o51 "com/example/sift_shelves/siftshelves/cli/Measure$Tally" "relevantRetrieved" "I" (.int (0 : Int32)) := D1 (Or.inr (Own.wd hw 21 rfl)) (ty := .int) (by decide)
  have F7 : Fld Z h1 o51 "com/example/sift_shelves/siftshelves/cli/Measure$Tally" "relevantInFirstR" "I" (.int (0 : Int32)) := D1 (Or.inr (Own.wd hw 23 rfl)) (ty := .int) (by decide)
  have F8 : Fld Z h1 o51 "com/example/sift_shelves/siftshelves/cli/Measure$Tally" "relevantInFirst10" "I" (.int (0 : Int32)) := D1 (Or.inr (Own.wd hw 25 rfl)) (ty := .int) (by decide)
  have F9 : Fld Z h1 o51 "com/example/sift_shelves/siftshelves/cli/Measure$Tally" "precisionSum" "D" (.double 0) := D1 (Or.inr (Own.wd hw 27 rfl)) (ty := .double) (by decide)
  have F10 : Fld Z h1 o51 "com/example/sift_shelves/siftshelves/cli/Measure$Tally" "firstRelevantRank" "I" (.int (0 : Int32)) := D1 (Or.inr (Own.wd hw 29 rfl)) (ty := .int) (by decide)
  refine Own.dup X1 at_54 rfl ?_
  refine Own.iload X1 at_55 rfl ?_
  refine Own.iload X1 at_57 rfl ?_
  refine Own.iload X1 at_59 rfl ?_
  refine Own.iload X1 at_61 rfl ?_
  refine Own.iload X1 at_63 rfl ?_
  refine Own.iload X1 at_65 rfl ?_
  obtain ⟨d67, e_d67⟩ : ∃ v, FP.i2d ot = v := ⟨_, rfl⟩
  obtain ⟨f_d67, z_d67⟩ := Own.i2d_v e_d67
  have n_d67 := f_d67.noNaN
  refine Own.i2d X1 at_67 e_d67 ?_
  refine Own.iload X1 at_68 rfl ?_
  refine Own.callI_ (y := mn_2) (a := o51) X1 at_70 rfl (Own.wd hw 5 rfl) (Own.wd hw 6 rfl) (Own.wd hw 4 rfl) (Own.wd hw 7 rfl) (by decide) (rm1 l Z a0 hw o51 r1 rel rr1 ot ot d67 ot h1 n0 Z3 fr2 A1 F4 F5 F6 F7 F8 F9 F10) (lenOf pd_4 rfl) rfl (argsL := [.int r1, .int rel, .int rr1, .int ot, .int ot, .double d67, .int ot]) (rest := [.ref o51]) rfl (W := 1) (Nat.le_of_eq rfl) (by decide) (by decide) (by decide) (by decide) fun T11 h11 v11 X11 q11 => ?_
  obtain ⟨rfl, K11, G11_0, G11_1, G11_2, G11_3, G11_4, G11_5, G11_6⟩ := q11
  have F12 := A1.keep K11
  have Z13 : n0 ≤ h11.size := Nat.le_trans Z3 K11.1
  show Own.Go p e below s n0 _ _ _ (T11.setTop (mkF m 73 _ [.ref o51]))
  refine Own.astore X11 at_73 rfl (l' := #[.val (.int i0), .val (.int i1), .val (.int i2), .val (.int i3), .val (.int i4), .val (.int i5), .val (.int r1), .val (.int rr1), .val (.int r2), .val (.int rr2), .val (.int rel), .val (.int ot), .val (.ref o51), .unset, .unset, .unset, .unset, .unset, .unset, .unset, .unset, .unset, .unset, .unset, .unset, .unset, .unset, .unset, .unset, .unset, .unset]) rfl ?_
  refine Own.newO_ X11 at_75 (Own.wd hw 2 rfl) (Own.wd hw 3 rfl) (Own.wd hw 4 rfl) (by decide) (by decide) fun T14 h14 o75 g_o75 X14 E14 A14 D14 => ?_
  have ne15 : o51 ≠ o75 := Nat.ne_of_lt (Nat.lt_of_lt_of_le F12.lt (Nat.le_of_eq g_o75.symm))
  have fr16 : n0 ≤ o75 := Nat.le_trans Z13 (Nat.le_of_eq g_o75.symm)
  have F17 := F12.ext E14
  have F18 := G11_0.ext E14
  have F19 := G11_1.ext E14
  have F20 := G11_2.ext E14
  have F21 := G11_3.ext E14
  have F22 := G11_4.ext E14
  have F23 := G11_5.ext E14
  have F24 := G11_6.ext E14
  have Z25 : n0 ≤ h14.size := Nat.le_trans Z13 E14.1
  have F26 : Fld Z h14 o75 "com/example/sift_shelves/siftshelves/cli/Measure$Tally" "retrieved" "I" (.int (0 : Int32)) := D14 (Or.inr (Own.wd hw 17 rfl)) (ty := .int) (by decide)
  have F27 : Fld Z h14 o75 "com/example/sift_shelves/siftshelves/cli/Measure$Tally" "relevant" "I" (.int (0 : Int32)) := D14 (Or.inr (Own.wd hw 19 rfl)) (ty := .int) (by decide)
  have F28 : Fld Z h14 o75 "com/example/sift_shelves/siftshelves/cli/Measure$Tally" "relevantRetrieved" "I" (.int (0 : Int32)) := D14 (Or.inr (Own.wd hw 21 rfl)) (ty := .int) (by decide)
  have F29 : Fld Z h14 o75 "com/example/sift_shelves/siftshelves/cli/Measure$Tally" "relevantInFirstR" "I" (.int (0 : Int32)) := D14 (Or.inr (Own.wd hw 23 rfl)) (ty := .int) (by decide)
  have F30 : Fld Z h14 o75 "com/example/sift_shelves/siftshelves/cli/Measure$Tally" "relevantInFirst10" "I" (.int (0 : Int32)) := D14 (Or.inr (Own.wd hw 25 rfl)) (ty := .int) (by decide)
  have F31 : Fld Z h14 o75 "com/example/sift_shelves/siftshelves/cli/Measure$Tally" "precisionSum" "D" (.double 0) := D14 (Or.inr (Own.wd hw 27 rfl)) (ty := .double) (by decide)
  have F32 : Fld Z h14 o75 "com/example/sift_shelves/siftshelves/cli/Measure$Tally" "firstRelevantRank" "I" (.int (0 : Int32)) := D14 (Or.inr (Own.wd hw 29 rfl)) (ty := .int) (by decide)
  refine Own.dup X14 at_78 rfl ?_
  refine Own.iload X14 at_79 rfl ?_
  refine Own.iload X14 at_81 rfl ?_
  refine Own.iload X14 at_83 rfl ?_
  refine Own.iload X14 at_85 rfl ?_
  refine Own.iload X14 at_87 rfl ?_
  refine Own.iload X14 at_89 rfl ?_
  obtain ⟨d91, e_d91⟩ : ∃ v, FP.i2d ot = v := ⟨_, rfl⟩
  obtain ⟨f_d91, z_d91⟩ := Own.i2d_v e_d91
  have n_d91 := f_d91.noNaN
  refine Own.i2d X14 at_91 e_d91 ?_
  refine Own.iload X14 at_92 rfl ?_
  refine Own.callI_ (y := mn_2) (a := o75) X14 at_94 rfl (Own.wd hw 5 rfl) (Own.wd hw 6 rfl) (Own.wd hw 4 rfl) (Own.wd hw 7 rfl) (by decide) (rm1 l Z a0 hw o75 r2 rel rr2 ot ot d91 ot h14 n0 Z25 fr16 A14 F26 F27 F28 F29 F30 F31 F32) (lenOf pd_4 rfl) rfl (argsL := [.int r2, .int rel, .int rr2, .int ot, .int ot, .double d91, .int ot]) (rest := [.ref o75]) rfl (W := 1) (Nat.le_of_eq rfl) (by decide) (by decide) (by decide) (by decide) fun T33 h33 v33 X33 q33 => ?_
  obtain ⟨rfl, K33, G33_0, G33_1, G33_2, G33_3, G33_4, G33_5, G33_6⟩ := q33
  have F34 := F17.keep K33
  have F35 := F18.keep K33 (ninS ne15 nin0)
  have F36 := F19.keep K33 (ninS ne15 nin0)
  have F37 := F20.keep K33 (ninS ne15 nin0)
  have F38 := F21.keep K33 (ninS ne15 nin0)
  have F39 := F22.keep K33 (ninS ne15 nin0)
  have F40 := F23.keep K33 (ninS ne15 nin0)
  have F41 := F24.keep K33 (ninS ne15 nin0)
  have F42 := A14.keep K33
  have Z43 : n0 ≤ h33.size := Nat.le_trans Z25 K33.1
  show Own.Go p e below s n0 _ _ _ (T33.setTop (mkF m 97 _ [.ref o75]))
  refine Own.astore X33 at_97 rfl (l' := #[.val (.int i0), .val (.int i1), .val (.int i2), .val (.int i3), .val (.int i4), .val (.int i5), .val (.int r1), .val (.int rr1), .val (.int r2), .val (.int rr2), .val (.int rel), .val (.int ot), .val (.ref o51), .val (.ref o75), .unset, .unset, .unset, .unset, .unset, .unset, .unset, .unset, .unset, .unset, .unset, .unset, .unset, .unset, .unset, .unset, .unset]) rfl ?_
  refine Own.aload X33 at_99 rfl rfl ?_
  refine Own.callV_ (y := mn_3) (z := mn_3) (a := o51) X33 at_101 (Own.wd hw 30 rfl) (Own.wd hw 31 rfl) (Own.wd hw 33 rfl) (Own.wd hw 32 rfl) rfl (Own.wd hw 4 rfl) (Own.wd hw 34 rfl) (by decide) F34 (rm4 l Z a0 hw o51 r1 rr1 h33 n0 Z43 F35 F37) (lenOf pd_5 rfl) rfl (argsL := []) (rest := []) rfl (W := 0) (Nat.le_of_eq rfl) (by decide) (by decide) (by decide) (by decide) fun T44 h44 v44 X44 q44 => ?_
  obtain ⟨rfl, rfl⟩ := q44
  obtain ⟨p1, e_p1⟩ : ∃ v, (if r1.toInt = 0 then (0 : UInt64) else FP.ddiv (FP.i2d rr1) (FP.i2d r1)) = v := ⟨_, rfl⟩
  rw [e_p1]
  have n_p1 : NoNaN64 p1 := own_nn h_r1 h_rr1 e_p1
  show Own.Go p e below s n0 _ _ _ (T44.setTop (mkF m 104 _ [.double p1]))
  refine Own.dstore X44 at_104 (l' := #[.val (.int i0), .val (.int i1), .val (.int i2), .val (.int i3), .val (.int i4), .val (.int i5), .val (.int r1), .val (.int rr1), .val (.int r2), .val (.int rr2), .val (.int rel), .val (.int ot), .val (.ref o51), .val (.ref o75), .val (.double p1), .second, .unset, .unset, .unset, .unset, .unset, .unset, .unset, .unset, .unset, .unset, .unset, .unset, .unset, .unset, .unset]) rfl ?_
  refine Own.aload X44 at_106 rfl rfl ?_
  refine Own.callV_ (y := mn_3) (z := mn_3) (a := o75) X44 at_108 (Own.wd hw 30 rfl) (Own.wd hw 31 rfl) (Own.wd hw 33 rfl) (Own.wd hw 32 rfl) rfl (Own.wd hw 4 rfl) (Own.wd hw 34 rfl) (by decide) F42 (rm4 l Z a0 hw o75 r2 rr2 h33 n0 Z43 G33_0 G33_2) (lenOf pd_5 rfl) rfl (argsL := []) (rest := []) rfl (W := 0) (Nat.le_of_eq rfl) (by decide) (by decide) (by decide) (by decide) fun T45 h45 v45 X45 q45 => ?_
  obtain ⟨rfl, rfl⟩ := q45
  obtain ⟨p2, e_p2⟩ : ∃ v, (if r2.toInt = 0 then (0 : UInt64) else FP.ddiv (FP.i2d rr2) (FP.i2d r2)) = v := ⟨_, rfl⟩
  rw [e_p2]
  have n_p2 : NoNaN64 p2 := own_nn h_r2 h_rr2 e_p2
  show Own.Go p e below s n0 _ _ _ (T45.setTop (mkF m 111 _ [.double p2]))
  refine Own.dstore X45 at_111 (l' := #[.val (.int i0), .val (.int i1), .val (.int i2), .val (.int i3), .val (.int i4), .val (.int i5), .val (.int r1), .val (.int rr1), .val (.int r2), .val (.int rr2), .val (.int rel), .val (.int ot), .val (.ref o51), .val (.ref o75), .val (.double p1), .second, .val (.double p2), .second, .unset, .unset, .unset, .unset, .unset, .unset, .unset, .unset, .unset, .unset, .unset, .unset, .unset]) rfl ?_
  refine Own.iload X45 at_113 rfl ?_
  suffices J115_46 : ∀ (z125_46 : Int64), z125_46 = (if r1.toInt = (0 : Int) then (0 : Int64) else (rr1.toInt64)) → Own.Go p e below s n0 (fun v _ => v = some (.int 1)) 16 128 (T45.setTop (mkF m 125 #[.val (.int i0), .val (.int i1), .val (.int i2), .val (.int i3), .val (.int i4), .val (.int i5), .val (.int r1), .val (.int rr1), .val (.int r2), .val (.int rr2), .val (.int rel), .val (.int ot), .val (.ref o51), .val (.ref o75), .val (.double p1), .second, .val (.double p2), .second, .unset, .unset, .unset, .unset, .unset, .unset, .unset, .unset, .unset, .unset, .unset, .unset, .unset] [.long z125_46])) by
    refine Own.iff_ X45 (pc' := 122) at_115 (by decide) (fun (h115 : ¬ (r1.toInt = (0 : Int))) => ?_) (fun h115' => ?_)
    · refine Own.iload X45 at_122 rfl ?_
      refine Own.i2l X45 at_124 ?_
      exact J115_46 _ (if_neg h115).symm
    · have h115 : r1.toInt = (0 : Int) := Classical.not_not.mp h115'
      refine Own.lconst X45 (v := 0) at_118 rfl ?_
      refine Own.goto_ X45 (pc' := 125) at_119 (by decide) ?_
      exact J115_46 _ (if_pos h115).symm
  intro n1 e_n1
  refine Own.lstore X45 at_125 (l' := #[.val (.int i0), .val (.int i1), .val (.int i2), .val (.int i3), .val (.int i4), .val (.int i5), .val (.int r1), .val (.int rr1), .val (.int r2), .val (.int rr2), .val (.int rel), .val (.int ot), .val (.ref o51), .val (.ref o75), .val (.double p1), .second, .val (.double p2), .second, .val (.long n1), .second, .unset, .unset, .unset, .unset, .unset, .unset, .unset, .unset, .unset, .unset, .unset]) rfl ?_
  refine Own.iload X45 at_127 rfl ?_
  suffices J129_47 : ∀ (z139_47 : Int64), z139_47 = (if r1.toInt = (0 : Int) then (1 : Int64) else (r1.toInt64)) → Own.Go p e below s n0 (fun v _ => v = some (.int 1)) 16 128 (T45.setTop (mkF m 139 #[.val (.int i0), .val (.int i1), .val (.int i2), .val (.int i3), .val (.int i4), .val (.int i5), .val (.int r1), .val (.int rr1), .val (.int r2), .val (.int rr2), .val (.int rel), .val (.int ot), .val (.ref o51), .val (.ref o75), .val (.double p1), .second, .val (.double p2), .second, .val (.long n1), .second, .unset, .unset, .unset, .unset, .unset, .unset, .unset, .unset, .unset, .unset, .unset] [.long z139_47])) by
    refine Own.iff_ X45 (pc' := 136) at_129 (by decide) (fun (h129 : ¬ (r1.toInt = (0 : Int))) => ?_) (fun h129' => ?_)
    · refine Own.iload X45 at_136 rfl ?_
      refine Own.i2l X45 at_138 ?_
      exact J129_47 _ (if_neg h129).symm
    · have h129 : r1.toInt = (0 : Int) := Classical.not_not.mp h129'
      refine Own.lconst X45 (v := 1) at_132 rfl ?_
      refine Own.goto_ X45 (pc' := 139) at_133 (by decide) ?_
      exact J129_47 _ (if_pos h129).symm
  intro q1 e_q1
  refine Own.lstore X45 at_139 (l' := #[.val (.int i0), .val (.int i1), .val (.int i2), .val (.int i3), .val (.int i4), .val (.int i5), .val (.int r1), .val (.int rr1), .val (.int r2), .val (.int rr2), .val (.int rel), .val (.int ot), .val (.ref o51), .val (.ref o75), .val (.double p1), .second, .val (.double p2), .second, .val (.long n1), .second, .val (.long q1), .second, .unset, .unset, .unset, .unset, .unset, .unset, .unset, .unset, .unset]) rfl ?_
  refine Own.iload X45 at_141 rfl ?_
  suffices J143_48 : ∀ (z153_48 : Int64), z153_48 = (if r2.toInt = (0 : Int) then (0 : Int64) else (rr2.toInt64)) → Own.Go p e below s n0 (fun v _ => v = some (.int 1)) 16 128 (T45.setTop (mkF m 153 #[.val (.int i0), .val (.int i1), .val (.int i2), .val (.int i3), .val (.int i4), .val (.int i5), .val (.int r1), .val (.int rr1), .val (.int r2), .val (.int rr2), .val (.int rel), .val (.int ot), .val (.ref o51), .val (.ref o75), .val (.double p1), .second, .val (.double p2), .second, .val (.long n1), .second, .val (.long q1), .second, .unset, .unset, .unset, .unset, .unset, .unset, .unset, .unset, .unset] [.long z153_48])) by
    refine Own.iff_ X45 (pc' := 150) at_143 (by decide) (fun (h143 : ¬ (r2.toInt = (0 : Int))) => ?_) (fun h143' => ?_)
    · refine Own.iload X45 at_150 rfl ?_
      refine Own.i2l X45 at_152 ?_
      exact J143_48 _ (if_neg h143).symm
    · have h143 : r2.toInt = (0 : Int) := Classical.not_not.mp h143'
      refine Own.lconst X45 (v := 0) at_146 rfl ?_
      refine Own.goto_ X45 (pc' := 153) at_147 (by decide) ?_
      exact J143_48 _ (if_pos h143).symm
  intro n2 e_n2
  refine Own.lstore X45 at_153 (l' := #[.val (.int i0), .val (.int i1), .val (.int i2), .val (.int i3), .val (.int i4), .val (.int i5), .val (.int r1), .val (.int rr1), .val (.int r2), .val (.int rr2), .val (.int rel), .val (.int ot), .val (.ref o51), .val (.ref o75), .val (.double p1), .second, .val (.double p2), .second, .val (.long n1), .second, .val (.long q1), .second, .val (.long n2), .second, .unset, .unset, .unset, .unset, .unset, .unset, .unset]) rfl ?_
  refine Own.iload X45 at_155 rfl ?_
  suffices J157_49 : ∀ (z167_49 : Int64), z167_49 = (if r2.toInt = (0 : Int) then (1 : Int64) else (r2.toInt64)) → Own.Go p e below s n0 (fun v _ => v = some (.int 1)) 16 128 (T45.setTop (mkF m 167 #[.val (.int i0), .val (.int i1), .val (.int i2), .val (.int i3), .val (.int i4), .val (.int i5), .val (.int r1), .val (.int rr1), .val (.int r2), .val (.int rr2), .val (.int rel), .val (.int ot), .val (.ref o51), .val (.ref o75), .val (.double p1), .second, .val (.double p2), .second, .val (.long n1), .second, .val (.long q1), .second, .val (.long n2), .second, .unset, .unset, .unset, .unset, .unset, .unset, .unset] [.long z167_49])) by
    refine Own.iff_ X45 (pc' := 164) at_157 (by decide) (fun (h157 : ¬ (r2.toInt = (0 : Int))) => ?_) (fun h157' => ?_)
    · refine Own.iload X45 at_164 rfl ?_
      refine Own.i2l X45 at_166 ?_
      exact J157_49 _ (if_neg h157).symm
    · have h157 : r2.toInt = (0 : Int) := Classical.not_not.mp h157'
      refine Own.lconst X45 (v := 1) at_160 rfl ?_
      refine Own.goto_ X45 (pc' := 167) at_161 (by decide) ?_
      exact J157_49 _ (if_pos h157).symm
  intro q2 e_q2
  refine Own.lstore X45 at_167 (l' := #[.val (.int i0), .val (.int i1), .val (.int i2), .val (.int i3), .val (.int i4), .val (.int i5), .val (.int r1), .val (.int rr1), .val (.int r2), .val (.int rr2), .val (.int rel), .val (.int ot), .val (.ref o51), .val (.ref o75), .val (.double p1), .second, .val (.double p2), .second, .val (.long n1), .second, .val (.long q1), .second, .val (.long n2), .second, .val (.long q2), .second, .unset, .unset, .unset, .unset, .unset]) rfl ?_
  refine Own.lload X45 at_169 rfl ?_
  refine Own.lload X45 at_171 rfl ?_
  refine Own.lmul X45 at_173 ?_
  obtain ⟨xx, e_xx⟩ : ∃ v, (n1 * q2) = v := ⟨_, rfl⟩
  rw [e_xx]
  refine Own.lstore X45 at_174 (l' := #[.val (.int i0), .val (.int i1), .val (.int i2), .val (.int i3), .val (.int i4), .val (.int i5), .val (.int r1), .val (.int rr1), .val (.int r2), .val (.int rr2), .val (.int rel), .val (.int ot), .val (.ref o51), .val (.ref o75), .val (.double p1), .second, .val (.double p2), .second, .val (.long n1), .second, .val (.long q1), .second, .val (.long n2), .second, .val (.long q2), .second, .val (.long xx), .second, .unset, .unset, .unset]) rfl ?_
  refine Own.lload X45 at_176 rfl ?_
  refine Own.lload X45 at_178 rfl ?_
  refine Own.lmul X45 at_180 ?_
  obtain ⟨yy, e_yy⟩ : ∃ v, (n2 * q1) = v := ⟨_, rfl⟩
  rw [e_yy]
  obtain ⟨k1, k2, k3, k4, k5, k6, k7, k8, k9⟩ := own_law h_r1 h_rr1 e_n1 e_q1 e_p1 h_r2 h_rr2 e_n2 e_q2 e_p2 e_xx e_yy
  have z0 := Own.dz_0
  have z1 := Own.dz_1
  have hU := Own.U_pos
  refine Own.lstore X45 at_181 (l' := #[.val (.int i0), .val (.int i1), .val (.int i2), .val (.int i3), .val (.int i4), .val (.int i5), .val (.int r1), .val (.int rr1), .val (.int r2), .val (.int rr2), .val (.int rel), .val (.int ot), .val (.ref o51), .val (.ref o75), .val (.double p1), .second, .val (.double p2), .second, .val (.long n1), .second, .val (.long q1), .second, .val (.long n2), .second, .val (.long q2), .second, .val (.long xx), .second, .val (.long yy), .second, .unset]) rfl ?_
  refine Own.iconst X45 (v := 1) at_183 rfl ?_
  refine Own.istore X45 at_184 (l' := #[.val (.int i0), .val (.int i1), .val (.int i2), .val (.int i3), .val (.int i4), .val (.int i5), .val (.int r1), .val (.int rr1), .val (.int r2), .val (.int rr2), .val (.int rel), .val (.int ot), .val (.ref o51), .val (.ref o75), .val (.double p1), .second, .val (.double p2), .second, .val (.long n1), .second, .val (.long q1), .second, .val (.long n2), .second, .val (.long q2), .second, .val (.long xx), .second, .val (.long yy), .second, .val (.int (1 : Int32))]) rfl ?_
  refine Own.iload X45 at_186 rfl ?_
  suffices J188_50 : ∀ (z201_50 : Int32), z201_50 = Own.bo (¬ (r1.toInt = (0 : Int)) ∨ (Own.dz p1 = Own.dz 0)) → Own.Go p e below s n0 (fun v _ => v = some (.int 1)) 16 128 (T45.setTop (mkF m 201 #[.val (.int i0), .val (.int i1), .val (.int i2), .val (.int i3), .val (.int i4), .val (.int i5), .val (.int r1), .val (.int rr1), .val (.int r2), .val (.int rr2), .val (.int rel), .val (.int ot), .val (.ref o51), .val (.ref o75), .val (.double p1), .second, .val (.double p2), .second, .val (.long n1), .second, .val (.long q1), .second, .val (.long n2), .second, .val (.long q2), .second, .val (.long xx), .second, .val (.long yy), .second, .val (.int z201_50)] [])) by
    refine Own.iff_ X45 (pc' := 201) at_188 (by decide) (fun (h188 : ¬ (r1.toInt = (0 : Int))) => ?_) (fun h188' => ?_)
    · exact J188_50 _ (Own.bo_t (Or.inl h188))
    · have h188 : r1.toInt = (0 : Int) := Classical.not_not.mp h188'
      refine Own.dload X45 at_191 rfl ?_
      refine Own.dconst0 X45 at_193 ?_
      refine Own.dcmpF X45 (pc' := 201) at_194 at_195 (by decide) n_p1 Own.nn_0 (fun (h194 : Own.dz p1 = Own.dz 0) => ?_) (fun (h194 : ¬ (Own.dz p1 = Own.dz 0)) => ?_)
      · exact J188_50 _ (Own.bo_t (Or.inr (h194)))
      · refine Own.iconst X45 (v := 0) at_198 rfl ?_
        refine Own.istore X45 at_199 (l' := #[.val (.int i0), .val (.int i1), .val (.int i2), .val (.int i3), .val (.int i4), .val (.int i5), .val (.int r1), .val (.int rr1), .val (.int r2), .val (.int rr2), .val (.int rel), .val (.int ot), .val (.ref o51), .val (.ref o75), .val (.double p1), .second, .val (.double p2), .second, .val (.long n1), .second, .val (.long q1), .second, .val (.long n2), .second, .val (.long q2), .second, .val (.long xx), .second, .val (.long yy), .second, .val (.int (0 : Int32))]) rfl ?_
        exact J188_50 _ (Own.bo_f (fun q => q.elim (fun z => z h188) (h194)))
  intro z201_50 e_z201_50
  subst e_z201_50
  refine Own.dload X45 at_201 rfl ?_
  refine Own.dconst0 X45 at_203 ?_
  suffices J204_51 : ∀ (z218_51 : Int32), z218_51 = Own.bo (¬ (Own.dz p1 < Own.dz 0) ∧ ((Own.dz p1 ≤ Own.dz 4607182418800017408) ∧ (¬ (r1.toInt = (0 : Int)) ∨ (Own.dz p1 = Own.dz 0)))) → Own.Go p e below s n0 (fun v _ => v = some (.int 1)) 16 128 (T45.setTop (mkF m 218 #[.val (.int i0), .val (.int i1), .val (.int i2), .val (.int i3), .val (.int i4), .val (.int i5), .val (.int r1), .val (.int rr1), .val (.int r2), .val (.int rr2), .val (.int rel), .val (.int ot), .val (.ref o51), .val (.ref o75), .val (.double p1), .second, .val (.double p2), .second, .val (.long n1), .second, .val (.long q1), .second, .val (.long n2), .second, .val (.long q2), .second, .val (.long xx), .second, .val (.long yy), .second, .val (.int z218_51)] [])) by
    refine Own.dcmpF X45 (pc' := 215) at_204 at_205 (by decide) n_p1 Own.nn_0 (fun (h204 : Own.dz p1 < Own.dz 0) => ?_) (fun (h204 : ¬ (Own.dz p1 < Own.dz 0)) => ?_)
    · refine Own.iconst X45 (v := 0) at_215 rfl ?_
      refine Own.istore X45 at_216 (l' := #[.val (.int i0), .val (.int i1), .val (.int i2), .val (.int i3), .val (.int i4), .val (.int i5), .val (.int r1), .val (.int rr1), .val (.int r2), .val (.int rr2), .val (.int rel), .val (.int ot), .val (.ref o51), .val (.ref o75), .val (.double p1), .second, .val (.double p2), .second, .val (.long n1), .second, .val (.long q1), .second, .val (.long n2), .second, .val (.long q2), .second, .val (.long xx), .second, .val (.long yy), .second, .val (.int (0 : Int32))]) rfl ?_
      exact J204_51 _ (Own.bo_f (fun q => q.1 h204))
    · refine Own.dload X45 at_208 rfl ?_
      refine Own.dconst1 X45 at_210 ?_
      refine Own.dcmpF X45 (pc' := 218) at_211 at_212 (by decide) n_p1 Own.nn_1 (fun (h211 : Own.dz p1 ≤ Own.dz 4607182418800017408) => ?_) (fun (h211 : ¬ (Own.dz p1 ≤ Own.dz 4607182418800017408)) => ?_)
      · exact J204_51 _ (Own.bo_c (((Iff.rfl).trans (Own.iff_and h211)).trans (Own.iff_and h204)))
      · refine Own.iconst X45 (v := 0) at_215 rfl ?_
        refine Own.istore X45 at_216 (l' := #[.val (.int i0), .val (.int i1), .val (.int i2), .val (.int i3), .val (.int i4), .val (.int i5), .val (.int r1), .val (.int rr1), .val (.int r2), .val (.int rr2), .val (.int rel), .val (.int ot), .val (.ref o51), .val (.ref o75), .val (.double p1), .second, .val (.double p2), .second, .val (.long n1), .second, .val (.long q1), .second, .val (.long n2), .second, .val (.long q2), .second, .val (.long xx), .second, .val (.long yy), .second, .val (.int (0 : Int32))]) rfl ?_
        exact J204_51 _ (Own.bo_f (fun q => (fun q => h211 q.1) q.2))
  intro z218_51 e_z218_51
  subst e_z218_51
  refine Own.dload X45 at_218 rfl ?_
  refine Own.dconst0 X45 at_220 ?_
  suffices J221_52 : ∀ (z235_52 : Int32), z235_52 = Own.bo (¬ (Own.dz p2 < Own.dz 0) ∧ ((Own.dz p2 ≤ Own.dz 4607182418800017408) ∧ (¬ (Own.dz p1 < Own.dz 0) ∧ ((Own.dz p1 ≤ Own.dz 4607182418800017408) ∧ (¬ (r1.toInt = (0 : Int)) ∨ (Own.dz p1 = Own.dz 0)))))) → Own.Go p e below s n0 (fun v _ => v = some (.int 1)) 16 128 (T45.setTop (mkF m 235 #[.val (.int i0), .val (.int i1), .val (.int i2), .val (.int i3), .val (.int i4), .val (.int i5), .val (.int r1), .val (.int rr1), .val (.int r2), .val (.int rr2), .val (.int rel), .val (.int ot), .val (.ref o51), .val (.ref o75), .val (.double p1), .second, .val (.double p2), .second, .val (.long n1), .second, .val (.long q1), .second, .val (.long n2), .second, .val (.long q2), .second, .val (.long xx), .second, .val (.long yy), .second, .val (.int z235_52)] [])) by
    refine Own.dcmpF X45 (pc' := 232) at_221 at_222 (by decide) n_p2 Own.nn_0 (fun (h221 : Own.dz p2 < Own.dz 0) => ?_) (fun (h221 : ¬ (Own.dz p2 < Own.dz 0)) => ?_)
    · refine Own.iconst X45 (v := 0) at_232 rfl ?_
      refine Own.istore X45 at_233 (l' := #[.val (.int i0), .val (.int i1), .val (.int i2), .val (.int i3), .val (.int i4), .val (.int i5), .val (.int r1), .val (.int rr1), .val (.int r2), .val (.int rr2), .val (.int rel), .val (.int ot), .val (.ref o51), .val (.ref o75), .val (.double p1), .second, .val (.double p2), .second, .val (.long n1), .second, .val (.long q1), .second, .val (.long n2), .second, .val (.long q2), .second, .val (.long xx), .second, .val (.long yy), .second, .val (.int (0 : Int32))]) rfl ?_
      exact J221_52 _ (Own.bo_f (fun q => q.1 h221))
    · refine Own.dload X45 at_225 rfl ?_
      refine Own.dconst1 X45 at_227 ?_
      refine Own.dcmpF X45 (pc' := 235) at_228 at_229 (by decide) n_p2 Own.nn_1 (fun (h228 : Own.dz p2 ≤ Own.dz 4607182418800017408) => ?_) (fun (h228 : ¬ (Own.dz p2 ≤ Own.dz 4607182418800017408)) => ?_)
      · exact J221_52 _ (Own.bo_c (((Iff.rfl).trans (Own.iff_and h228)).trans (Own.iff_and h221)))
      · refine Own.iconst X45 (v := 0) at_232 rfl ?_
        refine Own.istore X45 at_233 (l' := #[.val (.int i0), .val (.int i1), .val (.int i2), .val (.int i3), .val (.int i4), .val (.int i5), .val (.int r1), .val (.int rr1), .val (.int r2), .val (.int rr2), .val (.int rel), .val (.int ot), .val (.ref o51), .val (.ref o75), .val (.double p1), .second, .val (.double p2), .second, .val (.long n1), .second, .val (.long q1), .second, .val (.long n2), .second, .val (.long q2), .second, .val (.long xx), .second, .val (.long yy), .second, .val (.int (0 : Int32))]) rfl ?_
        exact J221_52 _ (Own.bo_f (fun q => (fun q => h228 q.1) q.2))
  intro z235_52 e_z235_52
  subst e_z235_52
  refine Own.dload X45 at_235 rfl ?_
  refine Own.dconst1 X45 at_237 ?_
  suffices J238_53 : ∀ (z247_53 : Int32), z247_53 = Own.bo (Own.dz p1 = Own.dz 4607182418800017408) → Own.Go p e below s n0 (fun v _ => v = some (.int 1)) 16 128 (T45.setTop (mkF m 247 #[.val (.int i0), .val (.int i1), .val (.int i2), .val (.int i3), .val (.int i4), .val (.int i5), .val (.int r1), .val (.int rr1), .val (.int r2), .val (.int rr2), .val (.int rel), .val (.int ot), .val (.ref o51), .val (.ref o75), .val (.double p1), .second, .val (.double p2), .second, .val (.long n1), .second, .val (.long q1), .second, .val (.long n2), .second, .val (.long q2), .second, .val (.long xx), .second, .val (.long yy), .second, .val (.int (Own.bo (¬ (Own.dz p2 < Own.dz 0) ∧ ((Own.dz p2 ≤ Own.dz 4607182418800017408) ∧ (¬ (Own.dz p1 < Own.dz 0) ∧ ((Own.dz p1 ≤ Own.dz 4607182418800017408) ∧ (¬ (r1.toInt = (0 : Int)) ∨ (Own.dz p1 = Own.dz 0))))))))] [.int z247_53])) by
    refine Own.dcmpF X45 (pc' := 246) at_238 at_239 (by decide) n_p1 Own.nn_1 (fun (h238 : ¬ (Own.dz p1 = Own.dz 4607182418800017408)) => ?_) (fun h238' => ?_)
    · refine Own.iconst X45 (v := 0) at_246 rfl ?_
      exact J238_53 _ (Own.bo_f (h238))
    · have h238 : Own.dz p1 = Own.dz 4607182418800017408 := Classical.not_not.mp h238'
      refine Own.iconst X45 (v := 1) at_242 rfl ?_
      refine Own.goto_ X45 (pc' := 247) at_243 (by decide) ?_
      exact J238_53 _ (Own.bo_t (h238))
  intro z247_53 e_z247_53
  subst e_z247_53
  refine Own.iload X45 at_247 rfl ?_
  suffices J249_54 : ∀ (z264_54 : Int32), z264_54 = Own.bo (¬ (r1.toInt ≤ (0 : Int)) ∧ (rr1.toInt = r1.toInt)) → Own.Go p e below s n0 (fun v _ => v = some (.int 1)) 16 128 (T45.setTop (mkF m 264 #[.val (.int i0), .val (.int i1), .val (.int i2), .val (.int i3), .val (.int i4), .val (.int i5), .val (.int r1), .val (.int rr1), .val (.int r2), .val (.int rr2), .val (.int rel), .val (.int ot), .val (.ref o51), .val (.ref o75), .val (.double p1), .second, .val (.double p2), .second, .val (.long n1), .second, .val (.long q1), .second, .val (.long n2), .second, .val (.long q2), .second, .val (.long xx), .second, .val (.long yy), .second, .val (.int (Own.bo (¬ (Own.dz p2 < Own.dz 0) ∧ ((Own.dz p2 ≤ Own.dz 4607182418800017408) ∧ (¬ (Own.dz p1 < Own.dz 0) ∧ ((Own.dz p1 ≤ Own.dz 4607182418800017408) ∧ (¬ (r1.toInt = (0 : Int)) ∨ (Own.dz p1 = Own.dz 0))))))))] [.int z264_54, .int (Own.bo (Own.dz p1 = Own.dz 4607182418800017408))])) by
    refine Own.iff_ X45 (pc' := 263) at_249 (by decide) (fun (h249 : r1.toInt ≤ (0 : Int)) => ?_) (fun (h249 : ¬ (r1.toInt ≤ (0 : Int))) => ?_)
    · refine Own.iconst X45 (v := 0) at_263 rfl ?_
      exact J249_54 _ (Own.bo_f (fun q => q.1 h249))
    · refine Own.iload X45 at_252 rfl ?_
      refine Own.iload X45 at_254 rfl ?_
      refine Own.icmp_ X45 (pc' := 263) at_256 (by decide) (fun (h256 : ¬ (rr1.toInt = r1.toInt)) => ?_) (fun h256' => ?_)
      · refine Own.iconst X45 (v := 0) at_263 rfl ?_
        exact J249_54 _ (Own.bo_f (fun q => (h256) q.2))
      · have h256 : rr1.toInt = r1.toInt := Classical.not_not.mp h256'
        refine Own.iconst X45 (v := 1) at_259 rfl ?_
        refine Own.goto_ X45 (pc' := 264) at_260 (by decide) ?_
        exact J249_54 _ (Own.bo_t (⟨h249, h256⟩))
  intro z264_54 e_z264_54
  subst e_z264_54
  suffices J264_55 : ∀ (z270_55 : Int32), z270_55 = Own.bo (((Own.dz p1 = Own.dz 4607182418800017408) ↔ (¬ (r1.toInt ≤ (0 : Int)) ∧ (rr1.toInt = r1.toInt))) ∧ (¬ (Own.dz p2 < Own.dz 0) ∧ ((Own.dz p2 ≤ Own.dz 4607182418800017408) ∧ (¬ (Own.dz p1 < Own.dz 0) ∧ ((Own.dz p1 ≤ Own.dz 4607182418800017408) ∧ (¬ (r1.toInt = (0 : Int)) ∨ (Own.dz p1 = Own.dz 0))))))) → Own.Go p e below s n0 (fun v _ => v = some (.int 1)) 16 128 (T45.setTop (mkF m 270 #[.val (.int i0), .val (.int i1), .val (.int i2), .val (.int i3), .val (.int i4), .val (.int i5), .val (.int r1), .val (.int rr1), .val (.int r2), .val (.int rr2), .val (.int rel), .val (.int ot), .val (.ref o51), .val (.ref o75), .val (.double p1), .second, .val (.double p2), .second, .val (.long n1), .second, .val (.long q1), .second, .val (.long n2), .second, .val (.long q2), .second, .val (.long xx), .second, .val (.long yy), .second, .val (.int z270_55)] [])) by
    refine Own.icmpeqB (P := Own.dz p1 = Own.dz 4607182418800017408) (P' := ¬ (r1.toInt ≤ (0 : Int)) ∧ (rr1.toInt = r1.toInt)) X45 (pc' := 270) at_264 (by decide) (fun (h264 : (Own.dz p1 = Own.dz 4607182418800017408) ↔ (¬ (r1.toInt ≤ (0 : Int)) ∧ (rr1.toInt = r1.toInt))) => ?_) (fun (h264 : ¬ ((Own.dz p1 = Own.dz 4607182418800017408) ↔ (¬ (r1.toInt ≤ (0 : Int)) ∧ (rr1.toInt = r1.toInt)))) => ?_)
    · exact J264_55 _ (Own.bo_c ((Iff.rfl).trans (Own.iff_and h264)))
    · refine Own.iconst X45 (v := 0) at_267 rfl ?_
      refine Own.istore X45 at_268 (l' := #[.val (.int i0), .val (.int i1), .val (.int i2), .val (.int i3), .val (.int i4), .val (.int i5), .val (.int r1), .val (.int rr1), .val (.int r2), .val (.int rr2), .val (.int rel), .val (.int ot), .val (.ref o51), .val (.ref o75), .val (.double p1), .second, .val (.double p2), .second, .val (.long n1), .second, .val (.long q1), .second, .val (.long n2), .second, .val (.long q2), .second, .val (.long xx), .second, .val (.long yy), .second, .val (.int (0 : Int32))]) rfl ?_
      exact J264_55 _ (Own.bo_f (fun q => h264 q.1))
  intro z270_55 e_z270_55
  subst e_z270_55
  refine Own.dload X45 at_270 rfl ?_
  refine Own.dconst0 X45 at_272 ?_
  suffices J273_56 : ∀ (z282_56 : Int32), z282_56 = Own.bo (Own.dz p1 = Own.dz 0) → Own.Go p e below s n0 (fun v _ => v = some (.int 1)) 16 128 (T45.setTop (mkF m 282 #[.val (.int i0), .val (.int i1), .val (.int i2), .val (.int i3), .val (.int i4), .val (.int i5), .val (.int r1), .val (.int rr1), .val (.int r2), .val (.int rr2), .val (.int rel), .val (.int ot), .val (.ref o51), .val (.ref o75), .val (.double p1), .second, .val (.double p2), .second, .val (.long n1), .second, .val (.long q1), .second, .val (.long n2), .second, .val (.long q2), .second, .val (.long xx), .second, .val (.long yy), .second, .val (.int (Own.bo (((Own.dz p1 = Own.dz 4607182418800017408) ↔ (¬ (r1.toInt ≤ (0 : Int)) ∧ (rr1.toInt = r1.toInt))) ∧ (¬ (Own.dz p2 < Own.dz 0) ∧ ((Own.dz p2 ≤ Own.dz 4607182418800017408) ∧ (¬ (Own.dz p1 < Own.dz 0) ∧ ((Own.dz p1 ≤ Own.dz 4607182418800017408) ∧ (¬ (r1.toInt = (0 : Int)) ∨ (Own.dz p1 = Own.dz 0)))))))))] [.int z282_56])) by
    refine Own.dcmpF X45 (pc' := 281) at_273 at_274 (by decide) n_p1 Own.nn_0 (fun (h273 : ¬ (Own.dz p1 = Own.dz 0)) => ?_) (fun h273' => ?_)
    · refine Own.iconst X45 (v := 0) at_281 rfl ?_
      exact J273_56 _ (Own.bo_f (h273))
    · have h273 : Own.dz p1 = Own.dz 0 := Classical.not_not.mp h273'
      refine Own.iconst X45 (v := 1) at_277 rfl ?_
      refine Own.goto_ X45 (pc' := 282) at_278 (by decide) ?_
      exact J273_56 _ (Own.bo_t (h273))
  intro z282_56 e_z282_56
  subst e_z282_56
  refine Own.lload X45 at_282 rfl ?_
  refine Own.lconst X45 (v := 0) at_284 rfl ?_
  suffices J285_57 : ∀ (z294_57 : Int32), z294_57 = Own.bo (n1.toInt = (0 : Int)) → Own.Go p e below s n0 (fun v _ => v = some (.int 1)) 16 128 (T45.setTop (mkF m 294 #[.val (.int i0), .val (.int i1), .val (.int i2), .val (.int i3), .val (.int i4), .val (.int i5), .val (.int r1), .val (.int rr1), .val (.int r2), .val (.int rr2), .val (.int rel), .val (.int ot), .val (.ref o51), .val (.ref o75), .val (.double p1), .second, .val (.double p2), .second, .val (.long n1), .second, .val (.long q1), .second, .val (.long n2), .second, .val (.long q2), .second, .val (.long xx), .second, .val (.long yy), .second, .val (.int (Own.bo (((Own.dz p1 = Own.dz 4607182418800017408) ↔ (¬ (r1.toInt ≤ (0 : Int)) ∧ (rr1.toInt = r1.toInt))) ∧ (¬ (Own.dz p2 < Own.dz 0) ∧ ((Own.dz p2 ≤ Own.dz 4607182418800017408) ∧ (¬ (Own.dz p1 < Own.dz 0) ∧ ((Own.dz p1 ≤ Own.dz 4607182418800017408) ∧ (¬ (r1.toInt = (0 : Int)) ∨ (Own.dz p1 = Own.dz 0)))))))))] [.int z294_57, .int (Own.bo (Own.dz p1 = Own.dz 0))])) by
    refine Own.lcmpF X45 (pc' := 293) at_285 at_286 (by decide) (fun (h285 : ¬ (n1.toInt = (0 : Int))) => ?_) (fun h285' => ?_)
    · refine Own.iconst X45 (v := 0) at_293 rfl ?_
      exact J285_57 _ (Own.bo_f (h285))
    · have h285 : n1.toInt = (0 : Int) := Classical.not_not.mp h285'
      refine Own.iconst X45 (v := 1) at_289 rfl ?_
      refine Own.goto_ X45 (pc' := 294) at_290 (by decide) ?_
      exact J285_57 _ (Own.bo_t (h285))
  intro z294_57 e_z294_57
  subst e_z294_57
  suffices J294_58 : ∀ (z300_58 : Int32), z300_58 = Own.bo (((Own.dz p1 = Own.dz 0) ↔ (n1.toInt = (0 : Int))) ∧ (((Own.dz p1 = Own.dz 4607182418800017408) ↔ (¬ (r1.toInt ≤ (0 : Int)) ∧ (rr1.toInt = r1.toInt))) ∧ (¬ (Own.dz p2 < Own.dz 0) ∧ ((Own.dz p2 ≤ Own.dz 4607182418800017408) ∧ (¬ (Own.dz p1 < Own.dz 0) ∧ ((Own.dz p1 ≤ Own.dz 4607182418800017408) ∧ (¬ (r1.toInt = (0 : Int)) ∨ (Own.dz p1 = Own.dz 0)))))))) → Own.Go p e below s n0 (fun v _ => v = some (.int 1)) 16 128 (T45.setTop (mkF m 300 #[.val (.int i0), .val (.int i1), .val (.int i2), .val (.int i3), .val (.int i4), .val (.int i5), .val (.int r1), .val (.int rr1), .val (.int r2), .val (.int rr2), .val (.int rel), .val (.int ot), .val (.ref o51), .val (.ref o75), .val (.double p1), .second, .val (.double p2), .second, .val (.long n1), .second, .val (.long q1), .second, .val (.long n2), .second, .val (.long q2), .second, .val (.long xx), .second, .val (.long yy), .second, .val (.int z300_58)] [])) by
    refine Own.icmpeqB (P := Own.dz p1 = Own.dz 0) (P' := n1.toInt = (0 : Int)) X45 (pc' := 300) at_294 (by decide) (fun (h294 : (Own.dz p1 = Own.dz 0) ↔ (n1.toInt = (0 : Int))) => ?_) (fun (h294 : ¬ ((Own.dz p1 = Own.dz 0) ↔ (n1.toInt = (0 : Int)))) => ?_)
    · exact J294_58 _ (Own.bo_c ((Iff.rfl).trans (Own.iff_and h294)))
    · refine Own.iconst X45 (v := 0) at_297 rfl ?_
      refine Own.istore X45 at_298 (l' := #[.val (.int i0), .val (.int i1), .val (.int i2), .val (.int i3), .val (.int i4), .val (.int i5), .val (.int r1), .val (.int rr1), .val (.int r2), .val (.int rr2), .val (.int rel), .val (.int ot), .val (.ref o51), .val (.ref o75), .val (.double p1), .second, .val (.double p2), .second, .val (.long n1), .second, .val (.long q1), .second, .val (.long n2), .second, .val (.long q2), .second, .val (.long xx), .second, .val (.long yy), .second, .val (.int (0 : Int32))]) rfl ?_
      exact J294_58 _ (Own.bo_f (fun q => h294 q.1))
  intro z300_58 e_z300_58
  subst e_z300_58
  refine Own.dload X45 at_300 rfl ?_
  refine Own.dload X45 at_302 rfl ?_
  suffices J304_59 : ∀ (z313_59 : Int32), z313_59 = Own.bo (¬ (Own.dz p2 ≤ Own.dz p1)) → Own.Go p e below s n0 (fun v _ => v = some (.int 1)) 16 128 (T45.setTop (mkF m 313 #[.val (.int i0), .val (.int i1), .val (.int i2), .val (.int i3), .val (.int i4), .val (.int i5), .val (.int r1), .val (.int rr1), .val (.int r2), .val (.int rr2), .val (.int rel), .val (.int ot), .val (.ref o51), .val (.ref o75), .val (.double p1), .second, .val (.double p2), .second, .val (.long n1), .second, .val (.long q1), .second, .val (.long n2), .second, .val (.long q2), .second, .val (.long xx), .second, .val (.long yy), .second, .val (.int (Own.bo (((Own.dz p1 = Own.dz 0) ↔ (n1.toInt = (0 : Int))) ∧ (((Own.dz p1 = Own.dz 4607182418800017408) ↔ (¬ (r1.toInt ≤ (0 : Int)) ∧ (rr1.toInt = r1.toInt))) ∧ (¬ (Own.dz p2 < Own.dz 0) ∧ ((Own.dz p2 ≤ Own.dz 4607182418800017408) ∧ (¬ (Own.dz p1 < Own.dz 0) ∧ ((Own.dz p1 ≤ Own.dz 4607182418800017408) ∧ (¬ (r1.toInt = (0 : Int)) ∨ (Own.dz p1 = Own.dz 0))))))))))] [.int z313_59])) by
    refine Own.dcmpF X45 (pc' := 312) at_304 at_305 (by decide) n_p1 n_p2 (fun (h304 : Own.dz p2 ≤ Own.dz p1) => ?_) (fun (h304 : ¬ (Own.dz p2 ≤ Own.dz p1)) => ?_)
    · refine Own.iconst X45 (v := 0) at_312 rfl ?_
      exact J304_59 _ (Own.bo_f (fun q => q h304))
    · refine Own.iconst X45 (v := 1) at_308 rfl ?_
      refine Own.goto_ X45 (pc' := 313) at_309 (by decide) ?_
      exact J304_59 _ (Own.bo_t (h304))
  intro z313_59 e_z313_59
  subst e_z313_59
  refine Own.lload X45 at_313 rfl ?_
  refine Own.lload X45 at_315 rfl ?_
  suffices J317_60 : ∀ (z326_60 : Int32), z326_60 = Own.bo (¬ (yy.toInt ≤ xx.toInt)) → Own.Go p e below s n0 (fun v _ => v = some (.int 1)) 16 128 (T45.setTop (mkF m 326 #[.val (.int i0), .val (.int i1), .val (.int i2), .val (.int i3), .val (.int i4), .val (.int i5), .val (.int r1), .val (.int rr1), .val (.int r2), .val (.int rr2), .val (.int rel), .val (.int ot), .val (.ref o51), .val (.ref o75), .val (.double p1), .second, .val (.double p2), .second, .val (.long n1), .second, .val (.long q1), .second, .val (.long n2), .second, .val (.long q2), .second, .val (.long xx), .second, .val (.long yy), .second, .val (.int (Own.bo (((Own.dz p1 = Own.dz 0) ↔ (n1.toInt = (0 : Int))) ∧ (((Own.dz p1 = Own.dz 4607182418800017408) ↔ (¬ (r1.toInt ≤ (0 : Int)) ∧ (rr1.toInt = r1.toInt))) ∧ (¬ (Own.dz p2 < Own.dz 0) ∧ ((Own.dz p2 ≤ Own.dz 4607182418800017408) ∧ (¬ (Own.dz p1 < Own.dz 0) ∧ ((Own.dz p1 ≤ Own.dz 4607182418800017408) ∧ (¬ (r1.toInt = (0 : Int)) ∨ (Own.dz p1 = Own.dz 0))))))))))] [.int z326_60, .int (Own.bo (¬ (Own.dz p2 ≤ Own.dz p1)))])) by
    refine Own.lcmpF X45 (pc' := 325) at_317 at_318 (by decide) (fun (h317 : yy.toInt ≤ xx.toInt) => ?_) (fun (h317 : ¬ (yy.toInt ≤ xx.toInt)) => ?_)
    · refine Own.iconst X45 (v := 0) at_325 rfl ?_
      exact J317_60 _ (Own.bo_f (fun q => q h317))
    · refine Own.iconst X45 (v := 1) at_321 rfl ?_
      refine Own.goto_ X45 (pc' := 326) at_322 (by decide) ?_
      exact J317_60 _ (Own.bo_t (h317))
  intro z326_60 e_z326_60
  subst e_z326_60
  suffices J326_61 : ∀ (z332_61 : Int32), z332_61 = Own.bo (((¬ (Own.dz p2 ≤ Own.dz p1)) ↔ (¬ (yy.toInt ≤ xx.toInt))) ∧ (((Own.dz p1 = Own.dz 0) ↔ (n1.toInt = (0 : Int))) ∧ (((Own.dz p1 = Own.dz 4607182418800017408) ↔ (¬ (r1.toInt ≤ (0 : Int)) ∧ (rr1.toInt = r1.toInt))) ∧ (¬ (Own.dz p2 < Own.dz 0) ∧ ((Own.dz p2 ≤ Own.dz 4607182418800017408) ∧ (¬ (Own.dz p1 < Own.dz 0) ∧ ((Own.dz p1 ≤ Own.dz 4607182418800017408) ∧ (¬ (r1.toInt = (0 : Int)) ∨ (Own.dz p1 = Own.dz 0))))))))) → Own.Go p e below s n0 (fun v _ => v = some (.int 1)) 16 128 (T45.setTop (mkF m 332 #[.val (.int i0), .val (.int i1), .val (.int i2), .val (.int i3), .val (.int i4), .val (.int i5), .val (.int r1), .val (.int rr1), .val (.int r2), .val (.int rr2), .val (.int rel), .val (.int ot), .val (.ref o51), .val (.ref o75), .val (.double p1), .second, .val (.double p2), .second, .val (.long n1), .second, .val (.long q1), .second, .val (.long n2), .second, .val (.long q2), .second, .val (.long xx), .second, .val (.long yy), .second, .val (.int z332_61)] [])) by
    refine Own.icmpeqB (P := ¬ (Own.dz p2 ≤ Own.dz p1)) (P' := ¬ (yy.toInt ≤ xx.toInt)) X45 (pc' := 332) at_326 (by decide) (fun (h326 : (¬ (Own.dz p2 ≤ Own.dz p1)) ↔ (¬ (yy.toInt ≤ xx.toInt))) => ?_) (fun (h326 : ¬ ((¬ (Own.dz p2 ≤ Own.dz p1)) ↔ (¬ (yy.toInt ≤ xx.toInt)))) => ?_)
    · exact J326_61 _ (Own.bo_c ((Iff.rfl).trans (Own.iff_and h326)))
    · refine Own.iconst X45 (v := 0) at_329 rfl ?_
      refine Own.istore X45 at_330 (l' := #[.val (.int i0), .val (.int i1), .val (.int i2), .val (.int i3), .val (.int i4), .val (.int i5), .val (.int r1), .val (.int rr1), .val (.int r2), .val (.int rr2), .val (.int rel), .val (.int ot), .val (.ref o51), .val (.ref o75), .val (.double p1), .second, .val (.double p2), .second, .val (.long n1), .second, .val (.long q1), .second, .val (.long n2), .second, .val (.long q2), .second, .val (.long xx), .second, .val (.long yy), .second, .val (.int (0 : Int32))]) rfl ?_
      exact J326_61 _ (Own.bo_f (fun q => h326 q.1))
  intro z332_61 e_z332_61
  subst e_z332_61
  refine Own.dload X45 at_332 rfl ?_
  refine Own.dload X45 at_334 rfl ?_
  suffices J336_62 : ∀ (z345_62 : Int32), z345_62 = Own.bo (Own.dz p1 = Own.dz p2) → Own.Go p e below s n0 (fun v _ => v = some (.int 1)) 16 128 (T45.setTop (mkF m 345 #[.val (.int i0), .val (.int i1), .val (.int i2), .val (.int i3), .val (.int i4), .val (.int i5), .val (.int r1), .val (.int rr1), .val (.int r2), .val (.int rr2), .val (.int rel), .val (.int ot), .val (.ref o51), .val (.ref o75), .val (.double p1), .second, .val (.double p2), .second, .val (.long n1), .second, .val (.long q1), .second, .val (.long n2), .second, .val (.long q2), .second, .val (.long xx), .second, .val (.long yy), .second, .val (.int (Own.bo (((¬ (Own.dz p2 ≤ Own.dz p1)) ↔ (¬ (yy.toInt ≤ xx.toInt))) ∧ (((Own.dz p1 = Own.dz 0) ↔ (n1.toInt = (0 : Int))) ∧ (((Own.dz p1 = Own.dz 4607182418800017408) ↔ (¬ (r1.toInt ≤ (0 : Int)) ∧ (rr1.toInt = r1.toInt))) ∧ (¬ (Own.dz p2 < Own.dz 0) ∧ ((Own.dz p2 ≤ Own.dz 4607182418800017408) ∧ (¬ (Own.dz p1 < Own.dz 0) ∧ ((Own.dz p1 ≤ Own.dz 4607182418800017408) ∧ (¬ (r1.toInt = (0 : Int)) ∨ (Own.dz p1 = Own.dz 0)))))))))))] [.int z345_62])) by
    refine Own.dcmpF X45 (pc' := 344) at_336 at_337 (by decide) n_p1 n_p2 (fun (h336 : ¬ (Own.dz p1 = Own.dz p2)) => ?_) (fun h336' => ?_)
    · refine Own.iconst X45 (v := 0) at_344 rfl ?_
      exact J336_62 _ (Own.bo_f (h336))
    · have h336 : Own.dz p1 = Own.dz p2 := Classical.not_not.mp h336'
      refine Own.iconst X45 (v := 1) at_340 rfl ?_
      refine Own.goto_ X45 (pc' := 345) at_341 (by decide) ?_
      exact J336_62 _ (Own.bo_t (h336))
  intro z345_62 e_z345_62
  subst e_z345_62
  refine Own.lload X45 at_345 rfl ?_
  refine Own.lload X45 at_347 rfl ?_
  suffices J349_63 : ∀ (z358_63 : Int32), z358_63 = Own.bo (xx.toInt = yy.toInt) → Own.Go p e below s n0 (fun v _ => v = some (.int 1)) 16 128 (T45.setTop (mkF m 358 #[.val (.int i0), .val (.int i1), .val (.int i2), .val (.int i3), .val (.int i4), .val (.int i5), .val (.int r1), .val (.int rr1), .val (.int r2), .val (.int rr2), .val (.int rel), .val (.int ot), .val (.ref o51), .val (.ref o75), .val (.double p1), .second, .val (.double p2), .second, .val (.long n1), .second, .val (.long q1), .second, .val (.long n2), .second, .val (.long q2), .second, .val (.long xx), .second, .val (.long yy), .second, .val (.int (Own.bo (((¬ (Own.dz p2 ≤ Own.dz p1)) ↔ (¬ (yy.toInt ≤ xx.toInt))) ∧ (((Own.dz p1 = Own.dz 0) ↔ (n1.toInt = (0 : Int))) ∧ (((Own.dz p1 = Own.dz 4607182418800017408) ↔ (¬ (r1.toInt ≤ (0 : Int)) ∧ (rr1.toInt = r1.toInt))) ∧ (¬ (Own.dz p2 < Own.dz 0) ∧ ((Own.dz p2 ≤ Own.dz 4607182418800017408) ∧ (¬ (Own.dz p1 < Own.dz 0) ∧ ((Own.dz p1 ≤ Own.dz 4607182418800017408) ∧ (¬ (r1.toInt = (0 : Int)) ∨ (Own.dz p1 = Own.dz 0)))))))))))] [.int z358_63, .int (Own.bo (Own.dz p1 = Own.dz p2))])) by
    refine Own.lcmpF X45 (pc' := 357) at_349 at_350 (by decide) (fun (h349 : ¬ (xx.toInt = yy.toInt)) => ?_) (fun h349' => ?_)
    · refine Own.iconst X45 (v := 0) at_357 rfl ?_
      exact J349_63 _ (Own.bo_f (h349))
    · have h349 : xx.toInt = yy.toInt := Classical.not_not.mp h349'
      refine Own.iconst X45 (v := 1) at_353 rfl ?_
      refine Own.goto_ X45 (pc' := 358) at_354 (by decide) ?_
      exact J349_63 _ (Own.bo_t (h349))
  intro z358_63 e_z358_63
  subst e_z358_63
  suffices J358_64 : ∀ (z364_64 : Int32), z364_64 = Own.bo (((Own.dz p1 = Own.dz p2) ↔ (xx.toInt = yy.toInt)) ∧ (((¬ (Own.dz p2 ≤ Own.dz p1)) ↔ (¬ (yy.toInt ≤ xx.toInt))) ∧ (((Own.dz p1 = Own.dz 0) ↔ (n1.toInt = (0 : Int))) ∧ (((Own.dz p1 = Own.dz 4607182418800017408) ↔ (¬ (r1.toInt ≤ (0 : Int)) ∧ (rr1.toInt = r1.toInt))) ∧ (¬ (Own.dz p2 < Own.dz 0) ∧ ((Own.dz p2 ≤ Own.dz 4607182418800017408) ∧ (¬ (Own.dz p1 < Own.dz 0) ∧ ((Own.dz p1 ≤ Own.dz 4607182418800017408) ∧ (¬ (r1.toInt = (0 : Int)) ∨ (Own.dz p1 = Own.dz 0)))))))))) → Own.Go p e below s n0 (fun v _ => v = some (.int 1)) 16 128 (T45.setTop (mkF m 364 #[.val (.int i0), .val (.int i1), .val (.int i2), .val (.int i3), .val (.int i4), .val (.int i5), .val (.int r1), .val (.int rr1), .val (.int r2), .val (.int rr2), .val (.int rel), .val (.int ot), .val (.ref o51), .val (.ref o75), .val (.double p1), .second, .val (.double p2), .second, .val (.long n1), .second, .val (.long q1), .second, .val (.long n2), .second, .val (.long q2), .second, .val (.long xx), .second, .val (.long yy), .second, .val (.int z364_64)] [])) by
    refine Own.icmpeqB (P := Own.dz p1 = Own.dz p2) (P' := xx.toInt = yy.toInt) X45 (pc' := 364) at_358 (by decide) (fun (h358 : (Own.dz p1 = Own.dz p2) ↔ (xx.toInt = yy.toInt)) => ?_) (fun (h358 : ¬ ((Own.dz p1 = Own.dz p2) ↔ (xx.toInt = yy.toInt))) => ?_)
    · exact J358_64 _ (Own.bo_c ((Iff.rfl).trans (Own.iff_and h358)))
    · refine Own.iconst X45 (v := 0) at_361 rfl ?_
      refine Own.istore X45 at_362 (l' := #[.val (.int i0), .val (.int i1), .val (.int i2), .val (.int i3), .val (.int i4), .val (.int i5), .val (.int r1), .val (.int rr1), .val (.int r2), .val (.int rr2), .val (.int rel), .val (.int ot), .val (.ref o51), .val (.ref o75), .val (.double p1), .second, .val (.double p2), .second, .val (.long n1), .second, .val (.long q1), .second, .val (.long n2), .second, .val (.long q2), .second, .val (.long xx), .second, .val (.long yy), .second, .val (.int (0 : Int32))]) rfl ?_
      exact J358_64 _ (Own.bo_f (fun q => h358 q.1))
  intro z364_64 e_z364_64
  subst e_z364_64
  refine Own.iload X45 at_364 rfl ?_
  exact Own.retB X45 at_366 (Own.bo_and _) (congrArg (fun z => some (Value.int z)) (Own.bo_t (by rw [z0, z1]; omega)).symm) (by decide) (by decide)
set_option maxRecDepth 65536 in
set_option maxHeartbeats 40000000 in
theorem comes_1 {Post : Tables → Env → Array Value → State → Outcome → State → Prop} (hpost : ∀ tb e args s v u, (limb_1_1.after args s (.returned v) u = true ∧ limb_1_2.after args s (.returned v) u = true ∧ True) → FrameEnd s (.returned v) u (Jvm.fieldLocs frame_1_writes args s ++ Jvm.arrayLocs frame_1_arrays args s ++ Jvm.staticLocs frame_1_statics s) 16 128 → Post tb e args s (.returned v) u) :
    ArmFor flags0 classFile x code maxLocals ret World_1 tables_1 room_1 Calls_1 rest_1 Pre_1 Post := by
  intro l hfl _ _ p e ha hc hk s m args below hf hA hF happ hP
  obtain ⟨hcalls, hrest, hpre⟩ := hP
  obtain ⟨-, -, -, hnamed, -, -, -, hat⟩ := (Spec.applies_iff hf).mp happ
  obtain ⟨hg, hn⟩ := and_e (Cond.before_iff.mp (show (Jvm.Cond.and given_1 narrow_1).before args s = true from hpre))
  obtain ⟨g0, gs1⟩ := and_e hg
  obtain ⟨g1, gs2⟩ := and_e gs1
  obtain ⟨g2, gs3⟩ := and_e gs2
  obtain ⟨g3, gs4⟩ := and_e gs3
  obtain ⟨g4, gs5⟩ := and_e gs4
  obtain ⟨g5, gs6⟩ := and_e gs5
  have g6 := gs6
  obtain ⟨w0, w1, w2, w3, w4, w5, rfl⟩ : ∃ w0 w1 w2 w3 w4 w5 : Value, args = #[w0, w1, w2, w3, w4, w5] := by
    have hs : args.size = 6 := by simpa [Cond.value, given_1] using g0
    obtain ⟨L⟩ := args
    match L, hs with
    | [w0, w1, w2, w3, w4, w5], _ => exact ⟨w0, w1, w2, w3, w4, w5, rfl⟩
  have hw := fun d (hd : d ∈ tables_1) => atoms_spec (ws := Jvm.Cond.code x code maxLocals ret :: tables_1) hat d (List.mem_cons_of_mem _ hd)
  obtain ⟨i0, ei0⟩ := is_v g1
  obtain rfl : w0 = (.int i0) := Option.some.inj ei0
  obtain ⟨i1, ei1⟩ := is_v g2
  obtain rfl : w1 = (.int i1) := Option.some.inj ei1
  obtain ⟨i2, ei2⟩ := is_v g3
  obtain rfl : w2 = (.int i2) := Option.some.inj ei2
  obtain ⟨i3, ei3⟩ := is_v g4
  obtain rfl : w3 = (.int i3) := Option.some.inj ei3
  obtain ⟨i4, ei4⟩ := is_v g5
  obtain rfl : w4 = (.int i4) := Option.some.inj ei4
  obtain ⟨i5, ei5⟩ := is_v g6
  obtain rfl : w5 = (.int i5) := Option.some.inj ei5
  obtain ⟨n, o, h1, h2, h3, v, L, rfl, ⟨hQ, N⟩, hq⟩ := rm0 l s _ hw i0 i1 i2 i3 i4 i5 s.heap s.heap.size (Nat.le_refl _)  p e ha hc hk s m _ below hf ((Spec.applies_iff_loose hf).mp happ).1 ⟨rfl, State.Warmed39.refl s, rfl⟩ trivial
  obtain rfl := hQ
  refine ⟨n, _, h1, h2, h3, hpost _ _ _ _ _ _ ⟨Cond.after_iff.mpr rfl, Cond.after_iff.mpr (eq_i res_at (Term.int_eval (1)) rfl), trivial⟩ ⟨hq.1, hq.2.1, (hq.2.2.sift fun y hy => Or.inr (N y hy)).mono (by decide) (by decide)⟩⟩
theorem main_1_1 : Claimed_1_1 := comes_1 fun _ _ _ _ _ _ h hF => ⟨h.1, hF⟩
theorem main_1_2 : Claimed_1_2 := comes_1 fun _ _ _ _ _ _ h hF => ⟨h.2.1, hF⟩

end Jvm.Pilot.@@N@@
namespace Jvm.Pilot.@@N@@
open Jvm Jvm.ClassFile Sem Op Lib Jvm.Free Jvm.Stand Jvm.Pilot.@@N@@.Jvm.D
/-! MADE BY PROGRAM (witnessworld.py) out of the Statement's table words and the real class files: 10 classes; the members and pool entries that the words name. The judged class is class 1, her method 1. -/
namespace start1
open Jvm.ClassFile
def u (s : String) : CpInfo := .utf8 (stringToUtf16 s)
/-- a pool by its gaps: so many unusable entries, then the entry; so many at the end -/
def gap : Nat → List CpInfo → List CpInfo
  | 0, r => r
  | n + 1, r => .unusable :: gap n r
def poolList (es : List (Nat × CpInfo)) (last : Nat) : List CpInfo := es.foldr (fun e r => gap e.1 (e.2 :: r)) (gap last [])
def pool (es : List (Nat × CpInfo)) (last : Nat) : Array CpInfo := ⟨poolList es last⟩
def fileOf (pool : Array CpInfo) (this : Nat) (attrs : Array Attribute := #[]) (ms : Array MethodInfo := #[]) (fl : Nat := 33) (sup : Nat := 0) (ifs : Array Nat := #[]) (fds : Array FieldInfo := #[]) : ClassFile where
  minorVersion := 0
  majorVersion := 65
  constantPool := pool
  accessFlags := fl
  thisClass := this
  superClass := sup
  interfaces := ifs
  fields := fds
  methods := ms
  attributes := attrs
def plain (name : String) (sup : Option ClassId) : Class where
  name := name
  kind := .ordinary
  loader := none
  accessFlags := 33
  super := sup
  interfaces := #[]
  cf := none
  fields := #[]
  methods := #[]
  instanceTypes := #[]
  staticTypes := #[]
  resolved := #[]
  callSites := []
  init := .initialized
  statics := none
  mirror := none

def pool0 : Array CpInfo := pool [(5, u "<init>"), (0, u "()V"), (1, .class_ 10), (1, u "java/lang/Object")] 113

def k0c0 : Code := { maxStack := 0, maxLocals := 1, code := object_method_1_code, exceptionTable := #[], attributes := #[] }
def k0m0 : Method := { name := "<init>", desc := "()V", sig := { parameters := [], returnType := none }, accessFlags := 1, code := some k0c0 }
/-- java/lang/Object -/
def k0 : Class := { plain "java/lang/Object" none with
  accessFlags := 33
  interfaces := #[]
  cf := some (fileOf pool0 8 #[] #[{ accessFlags := 1, nameIndex := 5, descriptorIndex := 6, attributes := #[] }] 33 0 #[] #[])
  fields := #[]
  methods := #[k0m0]
  instanceTypes := #[]
  staticTypes := #[]
  resolved := Array.replicate 124 none
  statics := none }

def pool1 : Array CpInfo := pool [(2, .class_ 4), (1, u "java/lang/Object"), (0, u "<init>"), (0, u "()V"), (0, .integer 65535), (0, .integer 2147483647), (0, .class_ 10), (0, u "com/example/sift_shelves/siftshelves/cli/Measure$Tally"), (0, .methodref 9 12), (0, .nameAndType 5 13), (0, u "(IIIIIDI)V"), (0, .methodref 9 15), (0, .nameAndType 16 17), (0, u "setPrecision"), (0, u "()D"), (0, .class_ 19), (0, u "com/example/sift_shelves/siftshelves/cli/TallySetPrecisionPinLaw"), (2, u "law"), (0, u "(IIIIII)Z")] 7

def k1m0 : Method := { name := "<init>", desc := "()V", sig := { parameters := [], returnType := none }, accessFlags := 2, code := none }
def k1c1 : Code := { maxStack := 10, maxLocals := 31, code := code, exceptionTable := #[], attributes := #[] }
def k1m1 : Method := { name := "law", desc := "(IIIIII)Z", sig := { parameters := [.int, .int, .int, .int, .int, .int], returnType := some .boolean }, accessFlags := 9, code := some k1c1 }
/-- com/example/sift_shelves/siftshelves/cli/TallySetPrecisionPinLaw -/
def k1 : Class := { plain "com/example/sift_shelves/siftshelves/cli/TallySetPrecisionPinLaw" (some 0) with
  accessFlags := 49
  interfaces := #[]
  cf := some (fileOf pool1 18 #[] #[{ accessFlags := 2, nameIndex := 5, descriptorIndex := 6, attributes := #[] }, { accessFlags := 9, nameIndex := 22, descriptorIndex := 23, attributes := #[] }] 49 2 #[] #[])
  fields := #[]
  methods := #[k1m0, k1m1]
  instanceTypes := #[]
  staticTypes := #[]
  resolved := Array.replicate 31 none
  statics := none }

def pool2 : Array CpInfo := pool [(1, .methodref 2 3), (0, .class_ 4), (0, .nameAndType 5 6), (0, u "java/lang/Object"), (0, u "<init>"), (0, u "()V"), (0, .class_ 8), (0, u "java/lang/Record")] 13

def k2c0 : Code := { maxStack := 1, maxLocals := 1, code := jdk_30_method_1_code, exceptionTable := #[], attributes := #[] }
def k2m0 : Method := { name := "<init>", desc := "()V", sig := { parameters := [], returnType := none }, accessFlags := 4, code := some k2c0 }
/-- java/lang/Record -/
def k2 : Class := { plain "java/lang/Record" (some 0) with
  accessFlags := 1057
  interfaces := #[]
  cf := some (fileOf pool2 7 #[] #[{ accessFlags := 4, nameIndex := 5, descriptorIndex := 6, attributes := #[] }] 1057 2 #[] #[])
  fields := #[]
  methods := #[k2m0]
  instanceTypes := #[]
  staticTypes := #[]
  resolved := Array.replicate 22 none
  statics := none }

def pool3 : Array CpInfo := pool [(1, .methodref 2 3), (0, .class_ 4), (0, .nameAndType 5 6), (0, u "java/lang/Record"), (0, u "<init>"), (0, u "()V"), (0, .fieldref 8 9), (0, .class_ 10), (0, .nameAndType 11 12), (0, u "com/example/sift_shelves/siftshelves/cli/Measure$Tally"), (0, u "retrieved"), (0, u "I"), (0, .fieldref 8 14), (0, .nameAndType 15 12), (0, u "relevant"), (0, .fieldref 8 17), (0, .nameAndType 18 12), (0, u "relevantRetrieved"), (0, .fieldref 8 20), (0, .nameAndType 21 12), (0, u "relevantInFirstR"), (0, .fieldref 8 23), (0, .nameAndType 24 12), (0, u "relevantInFirst10"), (0, .fieldref 8 26), (0, .nameAndType 27 28), (0, u "precisionSum"), (0, u "D"), (0, .fieldref 8 30), (0, .nameAndType 31 12), (0, u "firstRelevantRank"), (25, u "(IIIIIDI)V"), (2, u "setPrecision"), (0, u "()D"), (17, u "CUTOFF"), (17, .class_ 98), (0, u "com/example/sift_shelves/siftshelves/cli/Measure")] 25

def k3c0 : Code := { maxStack := 3, maxLocals := 9, code := prog_12_method_1_code, exceptionTable := #[], attributes := #[] }
def k3m0 : Method := { name := "<init>", desc := "(IIIIIDI)V", sig := { parameters := [.int, .int, .int, .int, .int, .double, .int], returnType := none }, accessFlags := 0, code := some k3c0 }
def k3c1 : Code := { maxStack := 4, maxLocals := 1, code := prog_12_method_3_code, exceptionTable := #[], attributes := #[] }
def k3m1 : Method := { name := "setPrecision", desc := "()D", sig := { parameters := [], returnType := some .double }, accessFlags := 0, code := some k3c1 }
/-- com/example/sift_shelves/siftshelves/cli/Measure$Tally -/
def k3 : Class := { plain "com/example/sift_shelves/siftshelves/cli/Measure$Tally" (some 2) with
  accessFlags := 48
  interfaces := #[]
  cf := some (fileOf pool3 8 #[.nestHost 97] #[{ accessFlags := 0, nameIndex := 5, descriptorIndex := 57, attributes := #[] }, { accessFlags := 0, nameIndex := 60, descriptorIndex := 61, attributes := #[] }] 48 2 #[] #[{ accessFlags := 18, nameIndex := 11, descriptorIndex := 12, attributes := #[] }, { accessFlags := 18, nameIndex := 15, descriptorIndex := 12, attributes := #[] }, { accessFlags := 18, nameIndex := 18, descriptorIndex := 12, attributes := #[] }, { accessFlags := 18, nameIndex := 21, descriptorIndex := 12, attributes := #[] }, { accessFlags := 18, nameIndex := 24, descriptorIndex := 12, attributes := #[] }, { accessFlags := 18, nameIndex := 27, descriptorIndex := 28, attributes := #[] }, { accessFlags := 18, nameIndex := 31, descriptorIndex := 12, attributes := #[] }, { accessFlags := 24, nameIndex := 79, descriptorIndex := 12, attributes := #[] }])
  fields := #[{ name := "retrieved", type := .int, accessFlags := 18, slot := 0, constantValue := 0 }, { name := "relevant", type := .int, accessFlags := 18, slot := 1, constantValue := 0 }, { name := "relevantRetrieved", type := .int, accessFlags := 18, slot := 2, constantValue := 0 }, { name := "relevantInFirstR", type := .int, accessFlags := 18, slot := 3, constantValue := 0 }, { name := "relevantInFirst10", type := .int, accessFlags := 18, slot := 4, constantValue := 0 }, { name := "precisionSum", type := .double, accessFlags := 18, slot := 5, constantValue := 0 }, { name := "firstRelevantRank", type := .int, accessFlags := 18, slot := 6, constantValue := 0 }, { name := "CUTOFF", type := .int, accessFlags := 24, slot := 0, constantValue := 0 }]
  methods := #[k3m0, k3m1]
  instanceTypes := #[.int, .int, .int, .int, .int, .double, .int]
  staticTypes := #[.int]
  resolved := Array.replicate 124 none
  statics := none }

def pool4 : Array CpInfo := pool [(1, u "java/lang/Cloneable"), (0, .class_ 1), (0, u "java/lang/Object"), (0, .class_ 3)] 3

/-- java/lang/Cloneable -/
def k4 : Class := { plain "java/lang/Cloneable" (some 0) with
  accessFlags := 1537
  interfaces := #[]
  cf := some (fileOf pool4 2 #[] #[] 1537 4 #[] #[])
  fields := #[]
  methods := #[]
  instanceTypes := #[]
  staticTypes := #[]
  resolved := Array.replicate 8 none
  statics := none }

def pool5 : Array CpInfo := pool [(1, u "java/io/Serializable"), (0, .class_ 1), (0, u "java/lang/Object"), (0, .class_ 3)] 3

/-- java/io/Serializable -/
def k5 : Class := { plain "java/io/Serializable" (some 0) with
  accessFlags := 1537
  interfaces := #[]
  cf := some (fileOf pool5 2 #[] #[] 1537 4 #[] #[])
  fields := #[]
  methods := #[]
  instanceTypes := #[]
  staticTypes := #[]
  resolved := Array.replicate 8 none
  statics := none }

/-- the primitive byte -/
def k6 : Class := { plain "byte" none with kind := .primitive 'B', accessFlags := 0x411 }
/-- [B -/
def k7 : Class := { plain "[B" (some 0) with kind := .array 6 .byte, interfaces := #[4, 5], accessFlags := 1041 }

/-- the primitive int -/
def k8 : Class := { plain "int" none with kind := .primitive 'I', accessFlags := 0x411 }
/-- [I -/
def k9 : Class := { plain "[I" (some 0) with kind := .array 8 .int, interfaces := #[4, 5], accessFlags := 1041 }

def heap : Heap := #[]
def classes : Array Class := #[k0, k1, k2, k3, k4, k5, k6, k7, k8, k9]
def interned : List (Array UInt16 × Addr) := []
def slotsUsed : Nat := 0
def theMethod : MethodId := ⟨1, 1⟩
def args0 : Array Value := #[.int 5, .int 7, .int 0, .int 3, .int 2, .int 9]
def aboutOver (below : List Frame) : State where
  vm := { classes := classes, interned := interned.toArray }
  heap := heap
  slotsUsed := slotsUsed
  threads := #[{ frames := .invoking theMethod args0 :: below }]
def below0 : List Frame := [.native { method := ⟨0, 0⟩, args := #[] }]
def about1 : State := aboutOver below0
def p0 : Program := .bare "" "" ""
def e0 : Env := launch0.env 0 0 0
theorem w_frames : about1.frames = Frame.invoking theMethod args0 :: below0 := rfl
set_option maxRecDepth 65536 in
theorem w_args : argsFit about1.vm theMethod args0 = true := by decide +kernel
set_option maxRecDepth 65536 in
theorem w_heap : heapFits about1 = true := by decide +kernel
set_option maxRecDepth 65536 in
theorem w_runnable : about1.curStatus? = some .runnable := by decide +kernel
set_option maxRecDepth 65536 in
theorem w_alone : about1.alone = true := by decide +kernel
set_option maxRecDepth 65536 in
theorem w_named : about1.methodNamed? x = some theMethod := by decide +kernel
set_option maxRecDepth 65536 in
theorem w_hears : about1.hears theMethod below0 = true := by decide +kernel
set_option maxRecDepth 65536 in
theorem w_ripe : about1.ripe theMethod args0 below0 = true := by decide +kernel
theorem w_running : about1.status = .running := rfl
set_option maxRecDepth 65536 in
theorem w_room : about1.hasRoom e0.platform room_1 = true :=
  launch0.hasRoom_least _ room_1 (by decide +kernel) (by decide +kernel) (by decide +kernel) (by decide +kernel) (by decide +kernel) (by decide +kernel)
theorem allAtoms_all (ts : List Jvm.Cond) (a : Array Jvm.Value) (st : Jvm.State) : (allAtoms ts).before a st = ts.all (fun c => c.before a st) := by
  induction ts with
  | nil => rfl
  | cons c t ih =>
    show (Jvm.Cond.and c (allAtoms t)).before a st = _
    rw [Jvm.Cond.before_and, ih, List.all_cons]
def words1 : List Jvm.Cond := Jvm.Cond.code x code maxLocals ret :: tables_1
/-- a 'code' word, met by the world's own term for the bytes: nothing is compared byte by byte -/
theorem code_word {y : MethodName} {bytes : ByteArray} {mx : Nat} {rt : Option FieldType} {a : Array Value} {s : State} {m : MethodId} {meth : Method} {c : Code} (h1 : s.methodNamed? y = some m) (h2 : s.vm.method? m = some meth) (h3 : meth.code = some c) (h4 : c.code = bytes)
    (h5 : (c.maxLocals == mx && c.exceptionTable.isEmpty && decide (c.maxStack ≤ mostOperands) && decide (meth.sig.returnType = rt) && !meth.locks && decide (parseMethodDescriptor y.desc = some meth.sig)) = true) : (Jvm.Cond.code y bytes mx rt).before a s = true := by
  simp only [Bool.and_eq_true, beq_iff_eq, Bool.not_eq_true', decide_eq_true_eq] at h5
  obtain ⟨⟨⟨⟨⟨g1, g2⟩, g3⟩, g4⟩, g5⟩, g6⟩ := h5
  simp [Cond.before, Cond.holds, Cond.value, h1, h2, h3, h4, g1, g2, g3, g4, g5, g6]
def isCode : Jvm.Cond → Bool
  | .code _ _ _ _ => true
  | _ => false
theorem all_split {L : List Jvm.Cond} {P : Jvm.Cond → Bool} (h1 : L.all (fun c => isCode c || P c) = true) (h2 : ∀ c ∈ L.filter isCode, P c = true) : L.all P = true := by
  refine List.all_eq_true.mpr fun c hc => ?_
  have h := List.all_eq_true.mp h1 c hc
  rcases Bool.eq_false_or_eq_true (isCode c) with hi | hi
  · exact h2 c (List.mem_filter.mpr ⟨hc, hi⟩)
  · simpa [hi] using h
set_option maxRecDepth 65536 in
theorem w_c0 : (Jvm.Cond.code x code maxLocals ret).before args0 about1 = true := code_word (m := ⟨1, 1⟩) (meth := k1m1) (c := k1c1) (by decide +kernel) rfl rfl rfl (by decide +kernel)
set_option maxRecDepth 65536 in
theorem w_c1 : (Jvm.Cond.code ({ cls := "com/example/sift_shelves/siftshelves/cli/Measure$Tally", name := "<init>", desc := "(IIIIIDI)V" } : Jvm.MethodName) prog_12_method_1_code (9 : Nat) (Option.none : Option Jvm.ClassFile.FieldType)).before args0 about1 = true := code_word (m := ⟨3, 0⟩) (meth := k3m0) (c := k3c0) (by decide +kernel) rfl rfl rfl (by decide +kernel)
set_option maxRecDepth 65536 in
theorem w_c2 : (Jvm.Cond.code ({ cls := "java/lang/Record", name := "<init>", desc := "()V" } : Jvm.MethodName) jdk_30_method_1_code (1 : Nat) (Option.none : Option Jvm.ClassFile.FieldType)).before args0 about1 = true := code_word (m := ⟨2, 0⟩) (meth := k2m0) (c := k2c0) (by decide +kernel) rfl rfl rfl (by decide +kernel)
set_option maxRecDepth 65536 in
theorem w_c3 : (Jvm.Cond.code ({ cls := "java/lang/Object", name := "<init>", desc := "()V" } : Jvm.MethodName) object_method_1_code (1 : Nat) (Option.none : Option Jvm.ClassFile.FieldType)).before args0 about1 = true := code_word (m := ⟨0, 0⟩) (meth := k0m0) (c := k0c0) (by decide +kernel) rfl rfl rfl (by decide +kernel)
set_option maxRecDepth 65536 in
theorem w_c4 : (Jvm.Cond.code ({ cls := "com/example/sift_shelves/siftshelves/cli/Measure$Tally", name := "setPrecision", desc := "()D" } : Jvm.MethodName) prog_12_method_3_code (1 : Nat) (Option.some Jvm.ClassFile.FieldType.double)).before args0 about1 = true := code_word (m := ⟨3, 1⟩) (meth := k3m1) (c := k3c1) (by decide +kernel) rfl rfl rfl (by decide +kernel)
def codes1 : List Jvm.Cond := [Jvm.Cond.code x code maxLocals ret, Jvm.Cond.code ({ cls := "com/example/sift_shelves/siftshelves/cli/Measure$Tally", name := "<init>", desc := "(IIIIIDI)V" } : Jvm.MethodName) prog_12_method_1_code (9 : Nat) (Option.none : Option Jvm.ClassFile.FieldType), Jvm.Cond.code ({ cls := "java/lang/Record", name := "<init>", desc := "()V" } : Jvm.MethodName) jdk_30_method_1_code (1 : Nat) (Option.none : Option Jvm.ClassFile.FieldType), Jvm.Cond.code ({ cls := "java/lang/Object", name := "<init>", desc := "()V" } : Jvm.MethodName) object_method_1_code (1 : Nat) (Option.none : Option Jvm.ClassFile.FieldType), Jvm.Cond.code ({ cls := "com/example/sift_shelves/siftshelves/cli/Measure$Tally", name := "setPrecision", desc := "()D" } : Jvm.MethodName) prog_12_method_3_code (1 : Nat) (Option.some Jvm.ClassFile.FieldType.double)]
set_option maxRecDepth 65536 in
theorem codes_eq : words1.filter isCode = codes1 := rfl
theorem w_codes : ∀ c ∈ words1.filter isCode, c.before args0 about1 = true := by
  rw [codes_eq]
  intro c hc
  simp only [codes1, List.mem_cons, List.not_mem_nil, or_false] at hc
  rcases hc with rfl | rfl | rfl | rfl | rfl
  · exact w_c0
  · exact w_c1
  · exact w_c2
  · exact w_c3
  · exact w_c4
set_option maxRecDepth 65536 in
theorem w_t1 : (words1.take 24).all (fun c => isCode c || c.before args0 about1) = true := by decide +kernel
set_option maxRecDepth 65536 in
theorem w_t2 : (words1.drop 24).all (fun c => isCode c || c.before args0 about1) = true := by decide +kernel
theorem w_tables : (allAtoms (Jvm.Cond.code x code maxLocals ret :: tables_1)).before args0 about1 = true := by
  rw [allAtoms_all]
  show words1.all (fun c => c.before args0 about1) = true
  refine all_split ?_ w_codes
  rw [← List.take_append_drop 24 words1, List.all_append, w_t1, w_t2]
  rfl
set_option maxRecDepth 65536 in
theorem w_case : (Jvm.Cond.and given_1 narrow_1).before args0 about1 = true := by decide +kernel
theorem w_applies : (headSpec (Jvm.Cond.code x code maxLocals ret :: tables_1) room_1).applies x e0.platform about1 = true :=
  (Spec.applies_iff w_frames).mpr ⟨w_running, w_runnable, w_alone, w_named, w_hears, w_ripe, w_room, w_tables⟩
theorem atStart : AtStart classFile x code maxLocals ret World_1 tables_1 room_1 Calls_1 rest_1 Pre_1 launch0 p0 e0 about1 theMethod args0 below0 :=
  ⟨lists_1, trivial, launch0.admits_env _ _ _, launch0.least_env, fairChoices_fair.cas, fairChoices_fair.clock, w_frames, w_args, w_heap, w_applies, trivial, trivial, w_case⟩
end start1
theorem witness_1 : WitnessClaimed_1 := ⟨start1.p0, start1.e0, start1.about1, start1.theMethod, start1.args0, start1.below0, start1.atStart⟩
end Jvm.Pilot.@@N@@
