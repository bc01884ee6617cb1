import JvmDerived
import JvmDerived.Pilot.@@N@@Statement
import JvmDerived.Pilot.@@N@@Code
set_option linter.unusedVariables false
set_option linter.unusedSimpArgs false
namespace Jvm.OG
open Sem ClassFile Op Lib Jvm.Stand Jvm.Free Jvm.LawKit Jvm.RoadKit
/-- from U the run comes to the method's return, with Q of what it returns, the heap there and the places written -/
def Go (tb : Tables) (e : Env) (below : List Frame) (Q : Option Value → Heap → List Loc → Prop) (kc ks : Nat) (s U : State) : Prop :=
  ∃ s₂ o, Steps tb e below U s₂ ∧ s₂.status = .running ∧ Ended s₂ below o ∧ ∃ v L, o = .returned v ∧ Q v s₂.heap L ∧ FrameEnd s o s₂ L kc ks
theorem Go.step {tb : Tables} {e : Env} {below : List Frame} {Q : Option Value → Heap → List Loc → Prop} {kc ks : Nat} {s U U' : State} (st : ∀ t, Steps tb e below U' t → Steps tb e below U t) (k : Go tb e below Q kc ks s U') : Go tb e below Q kc ks s U := by
  obtain ⟨s₂, o, h1, r⟩ := k
  exact ⟨s₂, o, st _ h1, r⟩
theorem Go.via {tb : Tables} {e : Env} {below : List Frame} {Q : Option Value → Heap → List Loc → Prop} {kc ks : Nat} {s U U' : State} (st : Steps tb e below U U') (k : Go tb e below Q kc ks s U') : Go tb e below Q kc ks s U := by
  obtain ⟨s₂, o, h1, r⟩ := k
  exact ⟨s₂, o, st.trans h1, r⟩
theorem Go.cast {tb : Tables} {e : Env} {below : List Frame} {Q : Option Value → Heap → List Loc → Prop} {kc ks : Nat} {s T : State} {g g' : JFrame} (q : g = g') (k : Go tb e below Q kc ks s (T.setTop g')) : Go tb e below Q kc ks s (T.setTop g) := q ▸ k
section Steps1
variable {p : Program} {l : Launch} {e : Env} {R : Room} {s : State} {m : MethodId} {args : Array Value} {below : List Frame} {meth : Method} {c : Code} {T : State} {locs : List Loc} {cells slots : Nat} {Q : Option Value → Heap → List Loc → Prop} {kc ks : Nat} {code : ByteArray} {pc pc' : Nat} {Ls Ls' : Array Slot} {st : List Value}
theorem iloadN (X : Stand p l e R s m args below meth c T locs cells slots) (hx : p.tables.exec = Jvm.exec) (hby : c.code = code) {k : Fin 4} {v : Int32} (hd : decode code pc = .ok (.iload_n k, 1)) (hl : Ls[k.val]? = some (.val (.int v))) (hp : pc + 1 = pc')
    (K : Go p.tables e below Q kc ks s (T.setTop (mkF m pc' Ls (.int v :: st)))) : Go p.tables e below Q kc ks s (T.setTop (mkF m pc Ls st)) := by
  subst hp
  exact Go.step (fun _ hr => XS.iloadN X.here hx rfl (hb hby hd) hl hr) K
theorem lloadN (X : Stand p l e R s m args below meth c T locs cells slots) (hx : p.tables.exec = Jvm.exec) (hby : c.code = code) {k : Fin 4} {v : Int64} (hd : decode code pc = .ok (.lload_n k, 1)) (hl : Ls[k.val]? = some (.val (.long v))) (hp : pc + 1 = pc')
    (K : Go p.tables e below Q kc ks s (T.setTop (mkF m pc' Ls (.long v :: st)))) : Go p.tables e below Q kc ks s (T.setTop (mkF m pc Ls st)) := by
  subst hp
  exact Go.step (fun _ hr => XS.lloadN X.here hx rfl (hb hby hd) hl hr) K
theorem aloadN (X : Stand p l e R s m args below meth c T locs cells slots) (hx : p.tables.exec = Jvm.exec) (hby : c.code = code) {k : Fin 4} {v : Value} (hd : decode code pc = .ok (.aload_n k, 1)) (hl : Ls[k.val]? = some (.val v)) (hv : v.isRef = true) (hp : pc + 1 = pc')
    (K : Go p.tables e below Q kc ks s (T.setTop (mkF m pc' Ls (v :: st)))) : Go p.tables e below Q kc ks s (T.setTop (mkF m pc Ls st)) := by
  subst hp
  exact Go.step (fun _ hr => XS.aloadN X.here hx rfl (hb hby hd) hl hv hr) K
theorem iload (X : Stand p l e R s m args below meth c T locs cells slots) (hx : p.tables.exec = Jvm.exec) (hby : c.code = code) {k : Nat} {v : Int32} (hd : decode code pc = .ok (.iload k, 2)) (hl : Ls[k]? = some (.val (.int v))) (hp : pc + 2 = pc')
    (K : Go p.tables e below Q kc ks s (T.setTop (mkF m pc' Ls (.int v :: st)))) : Go p.tables e below Q kc ks s (T.setTop (mkF m pc Ls st)) := by
  subst hp
  exact Go.step (fun _ hr => XS.iload X.here hx rfl (hb hby hd) hl hr) K
theorem lload (X : Stand p l e R s m args below meth c T locs cells slots) (hx : p.tables.exec = Jvm.exec) (hby : c.code = code) {k : Nat} {v : Int64} (hd : decode code pc = .ok (.lload k, 2)) (hl : Ls[k]? = some (.val (.long v))) (hp : pc + 2 = pc')
    (K : Go p.tables e below Q kc ks s (T.setTop (mkF m pc' Ls (.long v :: st)))) : Go p.tables e below Q kc ks s (T.setTop (mkF m pc Ls st)) := by
  subst hp
  exact Go.step (fun _ hr => XS.lload X.here hx rfl (hb hby hd) hl hr) K
theorem aload (X : Stand p l e R s m args below meth c T locs cells slots) (hx : p.tables.exec = Jvm.exec) (hby : c.code = code) {k : Nat} {v : Value} (hd : decode code pc = .ok (.aload k, 2)) (hl : Ls[k]? = some (.val v)) (hv : v.isRef = true) (hp : pc + 2 = pc')
    (K : Go p.tables e below Q kc ks s (T.setTop (mkF m pc' Ls (v :: st)))) : Go p.tables e below Q kc ks s (T.setTop (mkF m pc Ls st)) := by
  subst hp
  exact Go.step (fun _ hr => XS.aload X.here hx rfl (hb hby hd) hl hv hr) K
theorem istoreN (X : Stand p l e R s m args below meth c T locs cells slots) (hx : p.tables.exec = Jvm.exec) (hby : c.code = code) {k : Fin 4} {v : Int32} (hd : decode code pc = .ok (.istore_n k, 1)) (hl : storeLocals Ls k.val (.int v) = some Ls') (hp : pc + 1 = pc')
    (K : Go p.tables e below Q kc ks s (T.setTop (mkF m pc' Ls' st))) : Go p.tables e below Q kc ks s (T.setTop (mkF m pc Ls (.int v :: st))) := by
  subst hp
  exact Go.step (fun _ hr => XS.istoreN X.here hx rfl (hb hby hd) rfl hl hr) K
theorem lstoreN (X : Stand p l e R s m args below meth c T locs cells slots) (hx : p.tables.exec = Jvm.exec) (hby : c.code = code) {k : Fin 4} {v : Int64} (hd : decode code pc = .ok (.lstore_n k, 1)) (hl : storeLocals Ls k.val (.long v) = some Ls') (hp : pc + 1 = pc')
    (K : Go p.tables e below Q kc ks s (T.setTop (mkF m pc' Ls' st))) : Go p.tables e below Q kc ks s (T.setTop (mkF m pc Ls (.long v :: st))) := by
  subst hp
  exact Go.step (fun _ hr => XS.lstoreN X.here hx rfl (hb hby hd) rfl hl hr) K
theorem astoreN (X : Stand p l e R s m args below meth c T locs cells slots) (hx : p.tables.exec = Jvm.exec) (hby : c.code = code) {k : Fin 4} {v : Value} (hd : decode code pc = .ok (.astore_n k, 1)) (hv : v.isRef = true) (hl : storeLocals Ls k.val v = some Ls') (hp : pc + 1 = pc')
    (K : Go p.tables e below Q kc ks s (T.setTop (mkF m pc' Ls' st))) : Go p.tables e below Q kc ks s (T.setTop (mkF m pc Ls (v :: st))) := by
  subst hp
  exact Go.step (fun _ hr => XS.astoreN X.here hx rfl (hb hby hd) rfl hv hl hr) K
theorem istore (X : Stand p l e R s m args below meth c T locs cells slots) (hx : p.tables.exec = Jvm.exec) (hby : c.code = code) {k : Nat} {v : Int32} (hd : decode code pc = .ok (.istore k, 2)) (hl : storeLocals Ls k (.int v) = some Ls') (hp : pc + 2 = pc')
    (K : Go p.tables e below Q kc ks s (T.setTop (mkF m pc' Ls' st))) : Go p.tables e below Q kc ks s (T.setTop (mkF m pc Ls (.int v :: st))) := by
  subst hp
  exact Go.step (fun _ hr => XS.istore X.here hx rfl (hb hby hd) rfl hl hr) K
theorem lstore (X : Stand p l e R s m args below meth c T locs cells slots) (hx : p.tables.exec = Jvm.exec) (hby : c.code = code) {k : Nat} {v : Int64} (hd : decode code pc = .ok (.lstore k, 2)) (hl : storeLocals Ls k (.long v) = some Ls') (hp : pc + 2 = pc')
    (K : Go p.tables e below Q kc ks s (T.setTop (mkF m pc' Ls' st))) : Go p.tables e below Q kc ks s (T.setTop (mkF m pc Ls (.long v :: st))) := by
  subst hp
  exact Go.step (fun _ hr => XS.lstore X.here hx rfl (hb hby hd) rfl hl hr) K
theorem astore (X : Stand p l e R s m args below meth c T locs cells slots) (hx : p.tables.exec = Jvm.exec) (hby : c.code = code) {k : Nat} {v : Value} (hd : decode code pc = .ok (.astore k, 2)) (hv : v.isRef = true) (hl : storeLocals Ls k v = some Ls') (hp : pc + 2 = pc')
    (K : Go p.tables e below Q kc ks s (T.setTop (mkF m pc' Ls' st))) : Go p.tables e below Q kc ks s (T.setTop (mkF m pc Ls (v :: st))) := by
  subst hp
  exact Go.step (fun _ hr => XS.astore X.here hx rfl (hb hby hd) rfl hv hl hr) K
theorem iconst (X : Stand p l e R s m args below meth c T locs cells slots) (hx : p.tables.exec = Jvm.exec) (hby : c.code = code) {i : Int} {v : Int32} (hd : decode code pc = .ok (.iconst i, 1)) (hv : Int32.ofInt i = v) (hp : pc + 1 = pc')
    (K : Go p.tables e below Q kc ks s (T.setTop (mkF m pc' Ls (.int v :: st)))) : Go p.tables e below Q kc ks s (T.setTop (mkF m pc Ls st)) := by
  subst hp
  subst hv
  exact Go.step (fun _ hr => XS.iconst X.here hx rfl (hb hby hd)  hr) K
theorem bipush (X : Stand p l e R s m args below meth c T locs cells slots) (hx : p.tables.exec = Jvm.exec) (hby : c.code = code) {i : Int} {v : Int32} (hd : decode code pc = .ok (.bipush i, 2)) (hv : (Int8.ofInt i).toInt32 = v) (hp : pc + 2 = pc')
    (K : Go p.tables e below Q kc ks s (T.setTop (mkF m pc' Ls (.int v :: st)))) : Go p.tables e below Q kc ks s (T.setTop (mkF m pc Ls st)) := by
  subst hp
  subst hv
  exact Go.step (fun _ hr => XS.bipush X.here hx rfl (hb hby hd)  hr) K
theorem sipush (X : Stand p l e R s m args below meth c T locs cells slots) (hx : p.tables.exec = Jvm.exec) (hby : c.code = code) {i : Int} {v : Int32} (hd : decode code pc = .ok (.sipush i, 3)) (hv : (Int16.ofInt i).toInt32 = v) (hp : pc + 3 = pc')
    (K : Go p.tables e below Q kc ks s (T.setTop (mkF m pc' Ls (.int v :: st)))) : Go p.tables e below Q kc ks s (T.setTop (mkF m pc Ls st)) := by
  subst hp
  subst hv
  exact Go.step (fun _ hr => XS.sipush X.here hx rfl (hb hby hd)  hr) K
theorem lconst (X : Stand p l e R s m args below meth c T locs cells slots) (hx : p.tables.exec = Jvm.exec) (hby : c.code = code) {i : Fin 2} {v : Int64} (hd : decode code pc = .ok (.lconst i, 1)) (hv : Int64.ofNat i = v) (hp : pc + 1 = pc')
    (K : Go p.tables e below Q kc ks s (T.setTop (mkF m pc' Ls (.long v :: st)))) : Go p.tables e below Q kc ks s (T.setTop (mkF m pc Ls st)) := by
  subst hp
  subst hv
  exact Go.step (fun _ hr => XS.lconst X.here hx rfl (hb hby hd)  hr) K
theorem aconstNull (X : Stand p l e R s m args below meth c T locs cells slots) (hx : p.tables.exec = Jvm.exec) (hby : c.code = code) (hd : decode code pc = .ok (.aconst_null, 1)) (hp : pc + 1 = pc')
    (K : Go p.tables e below Q kc ks s (T.setTop (mkF m pc' Ls (.null :: st)))) : Go p.tables e below Q kc ks s (T.setTop (mkF m pc Ls st)) := by
  subst hp
  exact Go.step (fun _ hr => XS.aconstNull X.here hx rfl (hb hby hd)  hr) K
theorem iadd (X : Stand p l e R s m args below meth c T locs cells slots) (hx : p.tables.exec = Jvm.exec) (hby : c.code = code) {x y : Int32} (hd : decode code pc = .ok (.iadd, 1)) (hp : pc + 1 = pc')
    (K : Go p.tables e below Q kc ks s (T.setTop (mkF m pc' Ls (.int (x + y) :: st)))) : Go p.tables e below Q kc ks s (T.setTop (mkF m pc Ls (.int y :: .int x :: st))) := by
  subst hp
  exact Go.step (fun _ hr => XS.iadd X.here hx rfl (hb hby hd) rfl hr) K
theorem isub (X : Stand p l e R s m args below meth c T locs cells slots) (hx : p.tables.exec = Jvm.exec) (hby : c.code = code) {x y : Int32} (hd : decode code pc = .ok (.isub, 1)) (hp : pc + 1 = pc')
    (K : Go p.tables e below Q kc ks s (T.setTop (mkF m pc' Ls (.int (x - y) :: st)))) : Go p.tables e below Q kc ks s (T.setTop (mkF m pc Ls (.int y :: .int x :: st))) := by
  subst hp
  exact Go.step (fun _ hr => XS.isub X.here hx rfl (hb hby hd) rfl hr) K
theorem imul (X : Stand p l e R s m args below meth c T locs cells slots) (hx : p.tables.exec = Jvm.exec) (hby : c.code = code) {x y : Int32} (hd : decode code pc = .ok (.imul, 1)) (hp : pc + 1 = pc')
    (K : Go p.tables e below Q kc ks s (T.setTop (mkF m pc' Ls (.int (x * y) :: st)))) : Go p.tables e below Q kc ks s (T.setTop (mkF m pc Ls (.int y :: .int x :: st))) := by
  subst hp
  exact Go.step (fun _ hr => XS.imul X.here hx rfl (hb hby hd) rfl hr) K
theorem iand (X : Stand p l e R s m args below meth c T locs cells slots) (hx : p.tables.exec = Jvm.exec) (hby : c.code = code) {x y : Int32} (hd : decode code pc = .ok (.iand, 1)) (hp : pc + 1 = pc')
    (K : Go p.tables e below Q kc ks s (T.setTop (mkF m pc' Ls (.int (x &&& y) :: st)))) : Go p.tables e below Q kc ks s (T.setTop (mkF m pc Ls (.int y :: .int x :: st))) := by
  subst hp
  exact Go.step (fun _ hr => XS.iand X.here hx rfl (hb hby hd) rfl hr) K
theorem ior (X : Stand p l e R s m args below meth c T locs cells slots) (hx : p.tables.exec = Jvm.exec) (hby : c.code = code) {x y : Int32} (hd : decode code pc = .ok (.ior, 1)) (hp : pc + 1 = pc')
    (K : Go p.tables e below Q kc ks s (T.setTop (mkF m pc' Ls (.int (x ||| y) :: st)))) : Go p.tables e below Q kc ks s (T.setTop (mkF m pc Ls (.int y :: .int x :: st))) := by
  subst hp
  exact Go.step (fun _ hr => XS.ior X.here hx rfl (hb hby hd) rfl hr) K
theorem ixor (X : Stand p l e R s m args below meth c T locs cells slots) (hx : p.tables.exec = Jvm.exec) (hby : c.code = code) {x y : Int32} (hd : decode code pc = .ok (.ixor, 1)) (hp : pc + 1 = pc')
    (K : Go p.tables e below Q kc ks s (T.setTop (mkF m pc' Ls (.int (x ^^^ y) :: st)))) : Go p.tables e below Q kc ks s (T.setTop (mkF m pc Ls (.int y :: .int x :: st))) := by
  subst hp
  exact Go.step (fun _ hr => XS.ixor X.here hx rfl (hb hby hd) rfl hr) K
theorem ishl (X : Stand p l e R s m args below meth c T locs cells slots) (hx : p.tables.exec = Jvm.exec) (hby : c.code = code) {x y : Int32} (hd : decode code pc = .ok (.ishl, 1)) (hp : pc + 1 = pc')
    (K : Go p.tables e below Q kc ks s (T.setTop (mkF m pc' Ls (.int (x <<< (y &&& 31)) :: st)))) : Go p.tables e below Q kc ks s (T.setTop (mkF m pc Ls (.int y :: .int x :: st))) := by
  subst hp
  exact Go.step (fun _ hr => XS.ishl X.here hx rfl (hb hby hd) rfl hr) K
theorem ishr (X : Stand p l e R s m args below meth c T locs cells slots) (hx : p.tables.exec = Jvm.exec) (hby : c.code = code) {x y : Int32} (hd : decode code pc = .ok (.ishr, 1)) (hp : pc + 1 = pc')
    (K : Go p.tables e below Q kc ks s (T.setTop (mkF m pc' Ls (.int (x >>> (y &&& 31)) :: st)))) : Go p.tables e below Q kc ks s (T.setTop (mkF m pc Ls (.int y :: .int x :: st))) := by
  subst hp
  exact Go.step (fun _ hr => XS.ishr X.here hx rfl (hb hby hd) rfl hr) K
theorem iushr (X : Stand p l e R s m args below meth c T locs cells slots) (hx : p.tables.exec = Jvm.exec) (hby : c.code = code) {x y : Int32} (hd : decode code pc = .ok (.iushr, 1)) (hp : pc + 1 = pc')
    (K : Go p.tables e below Q kc ks s (T.setTop (mkF m pc' Ls (.int ((x.toUInt32 >>> (y &&& 31).toUInt32).toInt32) :: st)))) : Go p.tables e below Q kc ks s (T.setTop (mkF m pc Ls (.int y :: .int x :: st))) := by
  subst hp
  exact Go.step (fun _ hr => XS.iushr X.here hx rfl (hb hby hd) rfl hr) K
theorem idiv (X : Stand p l e R s m args below meth c T locs cells slots) (hx : p.tables.exec = Jvm.exec) (hby : c.code = code) {x y : Int32} (hd : decode code pc = .ok (.idiv, 1)) (hy : y ≠ 0) (hp : pc + 1 = pc')
    (K : Go p.tables e below Q kc ks s (T.setTop (mkF m pc' Ls (.int (x / y) :: st)))) : Go p.tables e below Q kc ks s (T.setTop (mkF m pc Ls (.int y :: .int x :: st))) := by
  subst hp
  exact Go.step (fun _ hr => XS.idiv X.here hx rfl (hb hby hd) rfl hy hr) K
theorem ladd (X : Stand p l e R s m args below meth c T locs cells slots) (hx : p.tables.exec = Jvm.exec) (hby : c.code = code) {x y : Int64} (hd : decode code pc = .ok (.ladd, 1)) (hp : pc + 1 = pc')
    (K : Go p.tables e below Q kc ks s (T.setTop (mkF m pc' Ls (.long (x + y) :: st)))) : Go p.tables e below Q kc ks s (T.setTop (mkF m pc Ls (.long y :: .long x :: st))) := by
  subst hp
  exact Go.step (fun _ hr => XS.ladd X.here hx rfl (hb hby hd) rfl hr) K
theorem lsub (X : Stand p l e R s m args below meth c T locs cells slots) (hx : p.tables.exec = Jvm.exec) (hby : c.code = code) {x y : Int64} (hd : decode code pc = .ok (.lsub, 1)) (hp : pc + 1 = pc')
    (K : Go p.tables e below Q kc ks s (T.setTop (mkF m pc' Ls (.long (x - y) :: st)))) : Go p.tables e below Q kc ks s (T.setTop (mkF m pc Ls (.long y :: .long x :: st))) := by
  subst hp
  exact Go.step (fun _ hr => XS.lsub X.here hx rfl (hb hby hd) rfl hr) K
theorem lmul (X : Stand p l e R s m args below meth c T locs cells slots) (hx : p.tables.exec = Jvm.exec) (hby : c.code = code) {x y : Int64} (hd : decode code pc = .ok (.lmul, 1)) (hp : pc + 1 = pc')
    (K : Go p.tables e below Q kc ks s (T.setTop (mkF m pc' Ls (.long (x * y) :: st)))) : Go p.tables e below Q kc ks s (T.setTop (mkF m pc Ls (.long y :: .long x :: st))) := by
  subst hp
  exact Go.step (fun _ hr => XS.lmul X.here hx rfl (hb hby hd) rfl hr) K
theorem land (X : Stand p l e R s m args below meth c T locs cells slots) (hx : p.tables.exec = Jvm.exec) (hby : c.code = code) {x y : Int64} (hd : decode code pc = .ok (.land, 1)) (hp : pc + 1 = pc')
    (K : Go p.tables e below Q kc ks s (T.setTop (mkF m pc' Ls (.long (x &&& y) :: st)))) : Go p.tables e below Q kc ks s (T.setTop (mkF m pc Ls (.long y :: .long x :: st))) := by
  subst hp
  exact Go.step (fun _ hr => XS.land X.here hx rfl (hb hby hd) rfl hr) K
theorem lor (X : Stand p l e R s m args below meth c T locs cells slots) (hx : p.tables.exec = Jvm.exec) (hby : c.code = code) {x y : Int64} (hd : decode code pc = .ok (.lor, 1)) (hp : pc + 1 = pc')
    (K : Go p.tables e below Q kc ks s (T.setTop (mkF m pc' Ls (.long (x ||| y) :: st)))) : Go p.tables e below Q kc ks s (T.setTop (mkF m pc Ls (.long y :: .long x :: st))) := by
  subst hp
  exact Go.step (fun _ hr => XS.lor X.here hx rfl (hb hby hd) rfl hr) K
theorem lxor (X : Stand p l e R s m args below meth c T locs cells slots) (hx : p.tables.exec = Jvm.exec) (hby : c.code = code) {x y : Int64} (hd : decode code pc = .ok (.lxor, 1)) (hp : pc + 1 = pc')
    (K : Go p.tables e below Q kc ks s (T.setTop (mkF m pc' Ls (.long (x ^^^ y) :: st)))) : Go p.tables e below Q kc ks s (T.setTop (mkF m pc Ls (.long y :: .long x :: st))) := by
  subst hp
  exact Go.step (fun _ hr => XS.lxor X.here hx rfl (hb hby hd) rfl hr) K
theorem ldiv (X : Stand p l e R s m args below meth c T locs cells slots) (hx : p.tables.exec = Jvm.exec) (hby : c.code = code) {x y : Int64} (hd : decode code pc = .ok (.ldiv, 1)) (hy : y ≠ 0) (hp : pc + 1 = pc')
    (K : Go p.tables e below Q kc ks s (T.setTop (mkF m pc' Ls (.long (x / y) :: st)))) : Go p.tables e below Q kc ks s (T.setTop (mkF m pc Ls (.long y :: .long x :: st))) := by
  subst hp
  exact Go.step (fun _ hr => XS.ldiv X.here hx rfl (hb hby hd) rfl hy hr) K
theorem lcmp (X : Stand p l e R s m args below meth c T locs cells slots) (hx : p.tables.exec = Jvm.exec) (hby : c.code = code) {x y : Int64} (hd : decode code pc = .ok (.lcmp, 1)) (hp : pc + 1 = pc')
    (K : Go p.tables e below Q kc ks s (T.setTop (mkF m pc' Ls (.int (lcmpW x y) :: st)))) : Go p.tables e below Q kc ks s (T.setTop (mkF m pc Ls (.long y :: .long x :: st))) := by
  subst hp
  exact Go.step (fun _ hr => XS.lcmp X.here hx rfl (hb hby hd) rfl hr) K
theorem ineg (X : Stand p l e R s m args below meth c T locs cells slots) (hx : p.tables.exec = Jvm.exec) (hby : c.code = code) {x : Int32} (hd : decode code pc = .ok (.ineg, 1)) (hp : pc + 1 = pc')
    (K : Go p.tables e below Q kc ks s (T.setTop (mkF m pc' Ls (.int (-x) :: st)))) : Go p.tables e below Q kc ks s (T.setTop (mkF m pc Ls (.int x :: st))) := by
  subst hp
  exact Go.step (fun _ hr => XS.ineg X.here hx rfl (hb hby hd) rfl hr) K
theorem lneg (X : Stand p l e R s m args below meth c T locs cells slots) (hx : p.tables.exec = Jvm.exec) (hby : c.code = code) {x : Int64} (hd : decode code pc = .ok (.lneg, 1)) (hp : pc + 1 = pc')
    (K : Go p.tables e below Q kc ks s (T.setTop (mkF m pc' Ls (.long (-x) :: st)))) : Go p.tables e below Q kc ks s (T.setTop (mkF m pc Ls (.long x :: st))) := by
  subst hp
  exact Go.step (fun _ hr => XS.lneg X.here hx rfl (hb hby hd) rfl hr) K
theorem i2l (X : Stand p l e R s m args below meth c T locs cells slots) (hx : p.tables.exec = Jvm.exec) (hby : c.code = code) {x : Int32} (hd : decode code pc = .ok (.i2l, 1)) (hp : pc + 1 = pc')
    (K : Go p.tables e below Q kc ks s (T.setTop (mkF m pc' Ls (.long x.toInt64 :: st)))) : Go p.tables e below Q kc ks s (T.setTop (mkF m pc Ls (.int x :: st))) := by
  subst hp
  exact Go.step (fun _ hr => XS.i2l X.here hx rfl (hb hby hd) rfl hr) K
theorem l2i (X : Stand p l e R s m args below meth c T locs cells slots) (hx : p.tables.exec = Jvm.exec) (hby : c.code = code) {x : Int64} (hd : decode code pc = .ok (.l2i, 1)) (hp : pc + 1 = pc')
    (K : Go p.tables e below Q kc ks s (T.setTop (mkF m pc' Ls (.int x.toInt32 :: st)))) : Go p.tables e below Q kc ks s (T.setTop (mkF m pc Ls (.long x :: st))) := by
  subst hp
  exact Go.step (fun _ hr => XS.l2i X.here hx rfl (hb hby hd) rfl hr) K
theorem i2c (X : Stand p l e R s m args below meth c T locs cells slots) (hx : p.tables.exec = Jvm.exec) (hby : c.code = code) {x : Int32} (hd : decode code pc = .ok (.i2c, 1)) (hp : pc + 1 = pc')
    (K : Go p.tables e below Q kc ks s (T.setTop (mkF m pc' Ls (.int x.toUInt32.toUInt16.toUInt32.toInt32 :: st)))) : Go p.tables e below Q kc ks s (T.setTop (mkF m pc Ls (.int x :: st))) := by
  subst hp
  exact Go.step (fun _ hr => XS.i2c X.here hx rfl (hb hby hd) rfl hr) K
theorem i2b (X : Stand p l e R s m args below meth c T locs cells slots) (hx : p.tables.exec = Jvm.exec) (hby : c.code = code) {x : Int32} (hd : decode code pc = .ok (.i2b, 1)) (hp : pc + 1 = pc')
    (K : Go p.tables e below Q kc ks s (T.setTop (mkF m pc' Ls (.int x.toInt8.toInt32 :: st)))) : Go p.tables e below Q kc ks s (T.setTop (mkF m pc Ls (.int x :: st))) := by
  subst hp
  exact Go.step (fun _ hr => XS.i2b X.here hx rfl (hb hby hd) rfl hr) K
theorem dup (X : Stand p l e R s m args below meth c T locs cells slots) (hx : p.tables.exec = Jvm.exec) (hby : c.code = code) {x : Value} (hd : decode code pc = .ok (.dup, 1)) (hc : x.category = 1) (hp : pc + 1 = pc')
    (K : Go p.tables e below Q kc ks s (T.setTop (mkF m pc' Ls (x :: x :: st)))) : Go p.tables e below Q kc ks s (T.setTop (mkF m pc Ls (x :: st))) := by
  subst hp
  exact Go.step (fun _ hr => XS.dup X.here hx rfl (hb hby hd) rfl hc hr) K
theorem pop (X : Stand p l e R s m args below meth c T locs cells slots) (hx : p.tables.exec = Jvm.exec) (hby : c.code = code) {x : Value} (hd : decode code pc = .ok (.pop, 1)) (hc : x.category = 1) (hp : pc + 1 = pc')
    (K : Go p.tables e below Q kc ks s (T.setTop (mkF m pc' Ls st))) : Go p.tables e below Q kc ks s (T.setTop (mkF m pc Ls (x :: st))) := by
  subst hp
  exact Go.step (fun _ hr => XS.pop X.here hx rfl (hb hby hd) rfl hc hr) K
theorem dupX1 (X : Stand p l e R s m args below meth c T locs cells slots) (hx : p.tables.exec = Jvm.exec) (hby : c.code = code) {x y : Value} (hd : decode code pc = .ok (.dup_x1, 1)) (hc : x.category = 1) (hc' : y.category = 1) (hp : pc + 1 = pc')
    (K : Go p.tables e below Q kc ks s (T.setTop (mkF m pc' Ls (x :: y :: x :: st)))) : Go p.tables e below Q kc ks s (T.setTop (mkF m pc Ls (x :: y :: st))) := by
  subst hp
  exact Go.step (fun _ hr => XS.dupX1 X.here hx rfl (hb hby hd) rfl hc hc' hr) K
theorem iinc (X : Stand p l e R s m args below meth c T locs cells slots) (hx : p.tables.exec = Jvm.exec) (hby : c.code = code) {k : Nat} {cst : Int} {x : Int32} (hd : decode code pc = .ok (.iinc k cst, 3)) (hl : Ls[k]? = some (.val (.int x))) (hl' : storeLocals Ls k (.int (x + Int32.ofInt cst)) = some Ls') (hp : pc + 3 = pc')
    (K : Go p.tables e below Q kc ks s (T.setTop (mkF m pc' Ls' st))) : Go p.tables e below Q kc ks s (T.setTop (mkF m pc Ls st)) := by
  subst hp
  exact Go.step (fun _ hr => XS.iinc X.here hx rfl (hb hby hd) hl hl' hr) K
theorem irem (X : Stand p l e R s m args below meth c T locs cells slots) (hx : p.tables.exec = Jvm.exec) (hby : c.code = code) {x y : Int32} (hd : decode code pc = .ok (.irem, 1)) (hy : y ≠ 0) (hp : pc + 1 = pc')
    (K : Go p.tables e below Q kc ks s (T.setTop (mkF m pc' Ls (.int (x % y) :: st)))) : Go p.tables e below Q kc ks s (T.setTop (mkF m pc Ls (.int y :: .int x :: st))) := by
  subst hp
  exact Go.step (fun _ hr => Jvm.RoadKit.iremM (g := mkF m pc Ls (.int y :: .int x :: st)) X hx rfl (hb hby hd) rfl hy hr) K
theorem goto (X : Stand p l e R s m args below meth c T locs cells slots) (hx : p.tables.exec = Jvm.exec) (hby : c.code = code) {o : Int} (hd : decode code pc = .ok (.goto o, 3)) (ho : 0 ≤ (pc : Int) + o) (hp : ((pc : Int) + o).toNat = pc')
    (K : Go p.tables e below Q kc ks s (T.setTop (mkF m pc' Ls st))) : Go p.tables e below Q kc ks s (T.setTop (mkF m pc Ls st)) :=
  Go.step (fun _ hr => XS.goto X.here hx rfl (pc0 := pc) (pc' := pc') rfl (hb hby hd)  ho hp hr) K
theorem ifYes (X : Stand p l e R s m args below meth c T locs cells slots) (hx : p.tables.exec = Jvm.exec) (hby : c.code = code) {cd : ClassFile.Cond} {x : Int32} {o : Int} (hd : decode code pc = .ok (.ifCond cd o, 3)) (hc : if_icmp.holds cd x 0 = true) (ho : 0 ≤ (pc : Int) + o) (hp : ((pc : Int) + o).toNat = pc')
    (K : Go p.tables e below Q kc ks s (T.setTop (mkF m pc' Ls st))) : Go p.tables e below Q kc ks s (T.setTop (mkF m pc Ls (.int x :: st))) :=
  Go.step (fun _ hr => XS.ifYes X.here hx rfl (pc0 := pc) (pc' := pc') rfl (hb hby hd) rfl ((if0 _ _).trans hc) ho hp hr) K
theorem ifNo (X : Stand p l e R s m args below meth c T locs cells slots) (hx : p.tables.exec = Jvm.exec) (hby : c.code = code) {cd : ClassFile.Cond} {x : Int32} {o : Int} (hd : decode code pc = .ok (.ifCond cd o, 3)) (hc : if_icmp.holds cd x 0 = false) (hp : pc + 3 = pc')
    (K : Go p.tables e below Q kc ks s (T.setTop (mkF m pc' Ls st))) : Go p.tables e below Q kc ks s (T.setTop (mkF m pc Ls (.int x :: st))) := by
  subst hp
  exact Go.step (fun _ hr => XS.ifNo X.here hx rfl (hb hby hd) rfl ((if0 _ _).trans hc) hr) K
theorem icmpYes (X : Stand p l e R s m args below meth c T locs cells slots) (hx : p.tables.exec = Jvm.exec) (hby : c.code = code) {cd : ClassFile.Cond} {x y : Int32} {o : Int} (hd : decode code pc = .ok (.if_icmp cd o, 3)) (hc : if_icmp.holds cd x y = true) (ho : 0 ≤ (pc : Int) + o) (hp : ((pc : Int) + o).toNat = pc')
    (K : Go p.tables e below Q kc ks s (T.setTop (mkF m pc' Ls st))) : Go p.tables e below Q kc ks s (T.setTop (mkF m pc Ls (.int y :: .int x :: st))) :=
  Go.step (fun _ hr => XS.icmpYes X.here hx rfl (pc0 := pc) (pc' := pc') rfl (hb hby hd) rfl hc ho hp hr) K
theorem icmpNo (X : Stand p l e R s m args below meth c T locs cells slots) (hx : p.tables.exec = Jvm.exec) (hby : c.code = code) {cd : ClassFile.Cond} {x y : Int32} {o : Int} (hd : decode code pc = .ok (.if_icmp cd o, 3)) (hc : if_icmp.holds cd x y = false) (hp : pc + 3 = pc')
    (K : Go p.tables e below Q kc ks s (T.setTop (mkF m pc' Ls st))) : Go p.tables e below Q kc ks s (T.setTop (mkF m pc Ls (.int y :: .int x :: st))) := by
  subst hp
  exact Go.step (fun _ hr => XS.icmpNo X.here hx rfl (hb hby hd) rfl hc hr) K
theorem ifnullYes (X : Stand p l e R s m args below meth c T locs cells slots) (hx : p.tables.exec = Jvm.exec) (hby : c.code = code) {o : Int} (hd : decode code pc = .ok (.ifnull o, 3)) (ho : 0 ≤ (pc : Int) + o) (hp : ((pc : Int) + o).toNat = pc')
    (K : Go p.tables e below Q kc ks s (T.setTop (mkF m pc' Ls st))) : Go p.tables e below Q kc ks s (T.setTop (mkF m pc Ls (.null :: st))) :=
  Go.step (fun _ hr => XS.ifnullYes X.here hx rfl (pc0 := pc) (pc' := pc') rfl (hb hby hd) rfl ho hp hr) K
theorem ifnullNo (X : Stand p l e R s m args below meth c T locs cells slots) (hx : p.tables.exec = Jvm.exec) (hby : c.code = code) {b : Addr} {o : Int} (hd : decode code pc = .ok (.ifnull o, 3)) (hp : pc + 3 = pc')
    (K : Go p.tables e below Q kc ks s (T.setTop (mkF m pc' Ls st))) : Go p.tables e below Q kc ks s (T.setTop (mkF m pc Ls (.ref b :: st))) := by
  subst hp
  exact Go.step (fun _ hr => XS.ifnullNo X.here hx rfl (hb hby hd) rfl hr) K
theorem ifnonnullYes (X : Stand p l e R s m args below meth c T locs cells slots) (hx : p.tables.exec = Jvm.exec) (hby : c.code = code) {b : Addr} {o : Int} (hd : decode code pc = .ok (.ifnonnull o, 3)) (ho : 0 ≤ (pc : Int) + o) (hp : ((pc : Int) + o).toNat = pc')
    (K : Go p.tables e below Q kc ks s (T.setTop (mkF m pc' Ls st))) : Go p.tables e below Q kc ks s (T.setTop (mkF m pc Ls (.ref b :: st))) :=
  Go.step (fun _ hr => XS.ifnonnullYes X.here hx rfl (pc0 := pc) (pc' := pc') rfl (hb hby hd) rfl ho hp hr) K
theorem ifnonnullNo (X : Stand p l e R s m args below meth c T locs cells slots) (hx : p.tables.exec = Jvm.exec) (hby : c.code = code) {o : Int} (hd : decode code pc = .ok (.ifnonnull o, 3)) (hp : pc + 3 = pc')
    (K : Go p.tables e below Q kc ks s (T.setTop (mkF m pc' Ls st))) : Go p.tables e below Q kc ks s (T.setTop (mkF m pc Ls (.null :: st))) := by
  subst hp
  exact Go.step (fun _ hr => XS.ifnonnullNo X.here hx rfl (hb hby hd) rfl hr) K
theorem acmp (X : Stand p l e R s m args below meth c T locs cells slots) (hx : p.tables.exec = Jvm.exec) (hby : c.code = code) {cd : ACond} {x y : Value} {o : Int} {same : Bool} (hd : decode code pc = .ok (.if_acmp cd o, 3)) (h1 : x.isRef = true) (h2 : y.isRef = true) (hq : decide (x = y) = same) (ho : 0 ≤ (pc : Int) + o) (hp : pc' = if acV cd same = true then ((pc : Int) + o).toNat else pc + 3)
    (K : Go p.tables e below Q kc ks s (T.setTop (mkF m pc' Ls st))) : Go p.tables e below Q kc ks s (T.setTop (mkF m pc Ls (y :: x :: st))) :=
  Go.step (fun _ hr => Jvm.RoadKit.acmp (g := mkF m pc Ls (y :: x :: st)) X hx rfl h1 h2 (pc0 := pc) (pc' := pc') (same := same) rfl (hb hby hd) rfl hq ho hp hr) K
theorem retZ (X : Stand p l e R s m args below meth c T locs cells slots) (hx : p.tables.exec = Jvm.exec) (hby : c.code = code) {t : FieldType} {z : Int32} (hret : meth.sig.returnType = some t) (ht : t = .boolean ∨ t = .byte ∨ t = .char ∨ t = .short) (hd : decode code pc = .ok (.ireturn, 1)) (hlk : meth.locks = false) (hkc : cells ≤ kc) (hks : slots ≤ ks) (hQ : Q (some (.int (nar t z))) T.heap locs) : Go p.tables e below Q kc ks s (T.setTop (mkF m pc Ls (.int z :: st))) := by
  obtain ⟨fs, hr, hrun, hended, hW, hsame⟩ := X.leave (v := some (.int (nar t z))) (fun h => by rw [hret] at h; cases h) hlk
  exact ⟨_, _, retN X hx hret ht (hb hby hd) hr, hrun, hended, _, _, rfl, hQ, ⟨_, rfl⟩, hW, hsame.mono hkc hks⟩
theorem retI (X : Stand p l e R s m args below meth c T locs cells slots) (hx : p.tables.exec = Jvm.exec) (hby : c.code = code) {z : Int32} (hret : meth.sig.returnType = some .int) (hd : decode code pc = .ok (.ireturn, 1)) (hlk : meth.locks = false) (hkc : cells ≤ kc) (hks : slots ≤ ks) (hQ : Q (some (.int z)) T.heap locs) : Go p.tables e below Q kc ks s (T.setTop (mkF m pc Ls (.int z :: st))) := by
  obtain ⟨fs, hr, hrun, hended, hW, hsame⟩ := X.leave (v := some (.int z)) (fun h => by rw [hret] at h; cases h) hlk
  exact ⟨_, _, Jvm.RoadKit.retOut X hx hret rfl (Or.inl ⟨rfl, Or.inl rfl, z, rfl⟩) (hb hby hd) hr, hrun, hended, _, _, rfl, hQ, ⟨_, rfl⟩, hW, hsame.mono hkc hks⟩
theorem retA (X : Stand p l e R s m args below meth c T locs cells slots) (hx : p.tables.exec = Jvm.exec) (hby : c.code = code) {t : FieldType} {w : Value} (hret : meth.sig.returnType = some t) (ht : t.isReference = true) (hw : w.isRef = true) (hn : narrow t w = w) (hd : decode code pc = .ok (.areturn, 1)) (hlk : meth.locks = false) (hkc : cells ≤ kc) (hks : slots ≤ ks) (hQ : Q (some w) T.heap locs) : Go p.tables e below Q kc ks s (T.setTop (mkF m pc Ls (w :: st))) := by
  obtain ⟨fs, hr, hrun, hended, hW, hsame⟩ := X.leave (v := some w) (fun h => by rw [hret] at h; cases h) hlk
  exact ⟨_, _, Jvm.RoadKit.retOut X hx hret hn (Or.inr (Or.inr (Or.inr (Or.inr ⟨rfl, ht, hw⟩)))) (hb hby hd) hr, hrun, hended, _, _, rfl, hQ, ⟨_, rfl⟩, hW, hsame.mono hkc hks⟩
theorem retV (X : Stand p l e R s m args below meth c T locs cells slots) (hx : p.tables.exec = Jvm.exec) (hby : c.code = code) (hret : meth.sig.returnType = none) (hd : decode code pc = .ok (.return_, 1)) (hlk : meth.locks = false) (hkc : cells ≤ kc) (hks : slots ≤ ks) (hQ : Q none T.heap locs) : Go p.tables e below Q kc ks s (T.setTop (mkF m pc Ls [])) := by
  obtain ⟨fs, hr, hrun, hended, hW, hsame⟩ := X.leave (v := none) (fun _ => rfl) hlk
  exact ⟨_, _, X.returnOut hx hret (hb hby hd) hr, hrun, hended, _, _, rfl, hQ, ⟨_, rfl⟩, hW, hsame.mono hkc hks⟩
end Steps1
section Words1
variable {args : Array Value} {first s : State} {o : Option Outcome} {idx : List Nat} {t : Term} {k : Int32}
theorem eqI_v (h : (Jvm.Cond.eq t (.int k)).value args first o s idx = some true) : t.eval args first o idx s = some (.int k) := by
  simp only [Jvm.Cond.value, Term.eval] at h
  cases ht : t.eval args first o idx s with
  | none => simp [ht] at h
  | some x => cases x <;> simp [ht] at h ⊢; exact h
end Words1
end Jvm.OG
namespace Jvm.OG
open Sem ClassFile Op Lib Jvm.Stand Jvm.Free Jvm.LawKit Jvm.RoadKit
section Laws2
variable {p : Program} {l : Launch} {e : Env} {R : Room} {s : State} {m : MethodId} {args : Array Value} {below : List Frame} {meth : Method} {c : Code} {T : State} {locs : List Loc} {cells slots : Nat} {Q : Option Value → Heap → List Loc → Prop} {kc ks : Nat} {code : ByteArray} {pc pc' : Nat} {Ls Ls' : Array Slot} {st : List Value} {Z : State} {a0 : Array Value} {h : Heap}
theorem gS (X : Stand p l e R s m args below meth c T locs cells slots) (hx : p.tables.exec = Jvm.exec) (hZ : Z.Warmed39 s.vm) (hby : c.code = code) {own : String} {index : Nat} (hown : s.vm.findClass own = some m.cls) {R0 O n d : String} (w : (Cond.fieldLink own index R0 n d).before a0 Z = true) (via : Via Z R0 O n d) (eT : T.heap = h) {v : Value} (F : Sta Z h O n d v) (hd : decode code pc = .ok (.getstatic index, 3)) (hp : pc + 3 = pc')
    (K : ∀ T', Stand p l e R s m args below meth c T' locs cells slots → T'.heap = h → Go p.tables e below Q kc ks s (T'.setTop (mkF m pc' Ls (v :: st)))) : Go p.tables e below Q kc ks s (T.setTop (mkF m pc Ls st)) := by
  subst hp
  obtain ⟨T', X', e', st'⟩ := getS2 X hx hZ hown (host := "") (Or.inl w) via eT F (g := mkF m pc Ls st) rfl (hb hby hd)
  exact Go.step st' (K T' X' e')
theorem gF (X : Stand p l e R s m args below meth c T locs cells slots) (hx : p.tables.exec = Jvm.exec) (hZ : Z.Warmed39 s.vm) (hby : c.code = code) {own : String} {index : Nat} (hown : s.vm.findClass own = some m.cls) {R0 O n d : String} (w : (Cond.fieldLink own index R0 n d).before a0 Z = true) (via : Via Z R0 O n d) (eT : T.heap = h) {a : Addr} {v : Value} (F : Fld Z h a O n d v) (hd : decode code pc = .ok (.getfield index, 3)) (hp : pc + 3 = pc')
    (K : ∀ T', Stand p l e R s m args below meth c T' locs cells slots → T'.heap = h → Go p.tables e below Q kc ks s (T'.setTop (mkF m pc' Ls (v :: st)))) : Go p.tables e below Q kc ks s (T.setTop (mkF m pc Ls (.ref a :: st))) := by
  subst hp
  obtain ⟨T', X', e', st'⟩ := getF X hx hZ hown (host := "") (Or.inl w) via eT F (g := mkF m pc Ls (.ref a :: st)) rfl rfl (hb hby hd)
  exact Go.step st' (K T' X' e')
theorem gSN (X : Stand p l e R s m args below meth c T locs cells slots) (hx : p.tables.exec = Jvm.exec) (hZ : Z.Warmed39 s.vm) (hby : c.code = code) {own : String} {index : Nat} (hown : s.vm.findClass own = some m.cls) {R0 O n d host : String} (w : (Cond.fieldLinkNest own index R0 n d host).before a0 Z = true) (via : Via Z R0 O n d) (eT : T.heap = h) {v : Value} (F : Sta Z h O n d v) (hd : decode code pc = .ok (.getstatic index, 3)) (hp : pc + 3 = pc')
    (K : ∀ T', Stand p l e R s m args below meth c T' locs cells slots → T'.heap = h → Go p.tables e below Q kc ks s (T'.setTop (mkF m pc' Ls (v :: st)))) : Go p.tables e below Q kc ks s (T.setTop (mkF m pc Ls st)) := by
  subst hp
  obtain ⟨T', X', e', st'⟩ := getS2 X hx hZ hown (Or.inr w) via eT F (g := mkF m pc Ls st) rfl (hb hby hd)
  exact Go.step st' (K T' X' e')
theorem gFN (X : Stand p l e R s m args below meth c T locs cells slots) (hx : p.tables.exec = Jvm.exec) (hZ : Z.Warmed39 s.vm) (hby : c.code = code) {own : String} {index : Nat} (hown : s.vm.findClass own = some m.cls) {R0 O n d host : String} (w : (Cond.fieldLinkNest own index R0 n d host).before a0 Z = true) (via : Via Z R0 O n d) (eT : T.heap = h) {a : Addr} {v : Value} (F : Fld Z h a O n d v) (hd : decode code pc = .ok (.getfield index, 3)) (hp : pc + 3 = pc')
    (K : ∀ T', Stand p l e R s m args below meth c T' locs cells slots → T'.heap = h → Go p.tables e below Q kc ks s (T'.setTop (mkF m pc' Ls (v :: st)))) : Go p.tables e below Q kc ks s (T.setTop (mkF m pc Ls (.ref a :: st))) := by
  subst hp
  obtain ⟨T', X', e', st'⟩ := getF X hx hZ hown (Or.inr w) via eT F (g := mkF m pc Ls (.ref a :: st)) rfl rfl (hb hby hd)
  exact Go.step st' (K T' X' e')
theorem pF (X : Stand p l e R s m args below meth c T locs cells slots) (hx : p.tables.exec = Jvm.exec) (hZ : Z.Warmed39 s.vm) (hby : c.code = code) {own : String} {index : Nat} (hown : s.vm.findClass own = some m.cls) {R0 O n d : String} (w : (Cond.fieldLink own index R0 n d).before a0 Z = true) (via : Via Z R0 O n d) (eT : T.heap = h) {C : String} {kk : Nat} {ty : FieldType} {a : Addr} {v old : Value} (F : Fld Z h a O n d old) (E : Exa Z h a C) (L : (Cond.lays C O n d).before a0 Z = true ∨ ((Cond.laysFinal C O n d).before a0 Z = true ∧ own = O ∧ meth.name = "<init>")) (wi : (Cond.instantiable C kk).before a0 Z = true) (hty : parseFieldDescriptor d = some ty) (hn : narrow ty v = v) (hf : fits ty v = true) (hd : decode code pc = .ok (.putfield index, 3)) (hp : pc + 3 = pc')
    (K : ∀ T' h', Stand p l e R s m args below meth c T' (locs ++ [⟨a, Jvm.RoadKit.slotOf Z O n d⟩]) cells slots → T'.heap = h' → Wr h h' a (Jvm.RoadKit.slotOf Z O n d) v → Go p.tables e below Q kc ks s (T'.setTop (mkF m pc' Ls st))) : Go p.tables e below Q kc ks s (T.setTop (mkF m pc Ls (v :: .ref a :: st))) := by
  subst hp
  obtain ⟨T', h', X', e', W', st'⟩ := putF X hx hZ hown (host := "") (Or.inl w) via eT F E L wi hty hn hf (g := mkF m pc Ls (v :: .ref a :: st)) rfl rfl (hb hby hd)
  exact Go.step st' (K T' h' X' e' W')
theorem pFN (X : Stand p l e R s m args below meth c T locs cells slots) (hx : p.tables.exec = Jvm.exec) (hZ : Z.Warmed39 s.vm) (hby : c.code = code) {own : String} {index : Nat} (hown : s.vm.findClass own = some m.cls) {R0 O n d : String} (w : (Cond.fieldLink own index R0 n d).before a0 Z = true) (via : Via Z R0 O n d) (eT : T.heap = h) {C : String} {kk : Nat} {ty : FieldType} {a : Addr} {v v' old : Value} (F : Fld Z h a O n d old) (E : Exa Z h a C) (L : (Cond.lays C O n d).before a0 Z = true ∨ ((Cond.laysFinal C O n d).before a0 Z = true ∧ own = O ∧ meth.name = "<init>")) (wi : (Cond.instantiable C kk).before a0 Z = true) (hty : parseFieldDescriptor d = some ty) (hn : narrow ty v = v') (hf : fits ty v' = true) (hd : decode code pc = .ok (.putfield index, 3)) (hp : pc + 3 = pc')
    (K : ∀ T' h', Stand p l e R s m args below meth c T' (locs ++ [⟨a, Jvm.RoadKit.slotOf Z O n d⟩]) cells slots → T'.heap = h' → Wr h h' a (Jvm.RoadKit.slotOf Z O n d) v' → Go p.tables e below Q kc ks s (T'.setTop (mkF m pc' Ls st))) : Go p.tables e below Q kc ks s (T.setTop (mkF m pc Ls (v :: .ref a :: st))) := by
  subst hp
  obtain ⟨T', h', X', e', W', st'⟩ := putFN X hx hZ hown w via eT F E L wi hty hn hf (g := mkF m pc Ls (v :: .ref a :: st)) rfl rfl (hb hby hd)
  exact Go.step st' (K T' h' X' e' W')
theorem nO (X : Stand p l e R s m args below meth c T locs cells slots) (hx : p.tables.exec = Jvm.exec) (hZ : Z.Warmed39 s.vm) (hby : c.code = code) {own : String} {index : Nat} (hown : s.vm.findClass own = some m.cls) {C : String} {n : Nat} (w : (Cond.classLink own index C).before a0 Z = true) (wi : (Cond.instantiable C n).before a0 Z = true) (wz : (Cond.initialized C).before a0 Z = true) (eT : T.heap = h) (hd : decode code pc = .ok (.new index, 3)) (hc : cells + 1 ≤ R.cells) (hl : slots + n ≤ R.slots) (hp : pc + 3 = pc')
    (K : ∀ T' h' b, b = h.size → Stand p l e R s m args below meth c T' locs (cells + 1) (slots + n) → T'.heap = h' → Ext h h' → Exa Z h' b C → (∀ {O nm d : String} {ty : FieldType}, Laid Z a0 C O nm d → parseFieldDescriptor d = some ty → Fld Z h' b O nm d (defaultValue ty)) → Go p.tables e below Q kc ks s (T'.setTop (mkF m pc' Ls (.ref b :: st)))) : Go p.tables e below Q kc ks s (T.setTop (mkF m pc Ls st)) := by
  subst hp
  obtain ⟨T', h', X', e', E', A', D', -, st'⟩ := newO X hx hZ hown w wi wz eT (g := mkF m pc Ls st) rfl (hb hby hd) hc hl
  exact Go.step st' (K T' h' _ rfl X' e' E' A' D')
theorem iO (X : Stand p l e R s m args below meth c T locs cells slots) (hx : p.tables.exec = Jvm.exec) (hZ : Z.Warmed39 s.vm) (hby : c.code = code) {own : String} {index : Nat} (hown : s.vm.findClass own = some m.cls) (hsz : Ls.size = c.maxLocals) (w1 : (Cond.methodLink own index Lib.objectInit).before a0 Z = true) (w2 : (Cond.instanceMethod Lib.objectInit).before a0 Z = true) (w3 : (Cond.code Lib.objectInit ⟨#[0xb1]⟩ 1 none).before a0 Z = true) (eT : T.heap = h) {a : Addr} {W : Nat} (hW : (st.map fun v => v.category).sum = W) (hf : 1 ≤ R.frames) (hl : W + 12 ≤ R.locals) (hd : decode code pc = .ok (.invokespecial index, 3)) (hp : pc + 3 = pc')
    (K : ∀ T', Stand p l e R s m args below meth c T' locs cells slots → T'.heap = h → Go p.tables e below Q kc ks s (T'.setTop (mkF m pc' Ls st))) : Go p.tables e below Q kc ks s (T.setTop (mkF m pc Ls (.ref a :: st))) := by
  subst hp hW
  obtain ⟨T', X', e', st'⟩ := initO X hx hZ hown w1 w2 w3 eT (g := mkF m pc Ls (.ref a :: st)) rfl hsz rfl (hb hby hd) hf (W := (st.map fun v => v.category).sum) (by show 2 * 0 + _ ≤ _; omega) hl
  exact Go.step st' (K T' X' e')
theorem ldcI (X : Stand p l e R s m args below meth c T locs cells slots) (hx : p.tables.exec = Jvm.exec) (hZ : Z.Warmed39 s.vm) (hby : c.code = code) {own : String} {index : Nat} (hown : s.vm.findClass own = some m.cls) {v : Int32} (w : (Cond.constant own index v).before a0 Z = true) (hd : decode code pc = .ok (.ldc index, 2)) (hp : pc + 2 = pc') (K : Go p.tables e below Q kc ks s (T.setTop (mkF m pc' Ls (.int v :: st)))) : Go p.tables e below Q kc ks s (T.setTop (mkF m pc Ls st)) := by
  subst hp
  exact Go.step (fun _ hr => Jvm.Stand.ldcI (g := mkF m pc Ls st) X hx hown (mv hZ w) rfl (hb hby hd) hr) K
theorem ldcWI (X : Stand p l e R s m args below meth c T locs cells slots) (hx : p.tables.exec = Jvm.exec) (hZ : Z.Warmed39 s.vm) (hby : c.code = code) {own : String} {index : Nat} (hown : s.vm.findClass own = some m.cls) {v : Int32} (w : (Cond.constant own index v).before a0 Z = true) (hd : decode code pc = .ok (.ldc_w index, 3)) (hp : pc + 3 = pc') (K : Go p.tables e below Q kc ks s (T.setTop (mkF m pc' Ls (.int v :: st)))) : Go p.tables e below Q kc ks s (T.setTop (mkF m pc Ls st)) := by
  subst hp
  exact Go.step (fun _ hr => Jvm.Stand.ldcWI (g := mkF m pc Ls st) X hx hown (mv hZ w) rfl (hb hby hd) hr) K
theorem ldc2J (X : Stand p l e R s m args below meth c T locs cells slots) (hx : p.tables.exec = Jvm.exec) (hZ : Z.Warmed39 s.vm) (hby : c.code = code) {own : String} {index : Nat} (hown : s.vm.findClass own = some m.cls) {v : Int64} (w : (Cond.constantLong own index v).before a0 Z = true) (hd : decode code pc = .ok (.ldc2_w index, 3)) (hp : pc + 3 = pc') (K : Go p.tables e below Q kc ks s (T.setTop (mkF m pc' Ls (.long v :: st)))) : Go p.tables e below Q kc ks s (T.setTop (mkF m pc Ls st)) := by
  subst hp
  exact Go.step (fun _ hr => Jvm.Stand.ldc2J (g := mkF m pc Ls st) X hx hown (mv hZ w) rfl (hb hby hd) hr) K
theorem cY (X : Stand p l e R s m args below meth c T locs cells slots) (hx : p.tables.exec = Jvm.exec) (hZ : Z.Warmed39 s.vm) (hby : c.code = code) {own : String} {index : Nat} (hown : s.vm.findClass own = some m.cls) {K0 : String} (w : (Cond.classLink own index K0).before a0 Z = true) (eT : T.heap = h) {a : Addr} (F : Jvm.RoadKit.Ins Z h a K0 true) (hd : decode code pc = .ok (.checkcast index, 3)) (hp : pc + 3 = pc')
    (K : ∀ T', Stand p l e R s m args below meth c T' locs cells slots → T'.heap = h → Go p.tables e below Q kc ks s (T'.setTop (mkF m pc' Ls (.ref a :: st)))) : Go p.tables e below Q kc ks s (T.setTop (mkF m pc Ls (.ref a :: st))) := by
  subst hp
  obtain ⟨T', X', e', st'⟩ := castY X hx hZ hown w eT F (g := mkF m pc Ls (.ref a :: st)) rfl rfl (hb hby hd)
  exact Go.step st' (K T' X' e')
theorem iY (X : Stand p l e R s m args below meth c T locs cells slots) (hx : p.tables.exec = Jvm.exec) (hZ : Z.Warmed39 s.vm) (hby : c.code = code) {own : String} {index : Nat} (hown : s.vm.findClass own = some m.cls) {K0 : String} (w : (Cond.classLink own index K0).before a0 Z = true) (eT : T.heap = h) {a : Addr} (F : Jvm.RoadKit.Ins Z h a K0 true) (hd : decode code pc = .ok (.instanceof index, 3)) (hp : pc + 3 = pc')
    (K : ∀ T', Stand p l e R s m args below meth c T' locs cells slots → T'.heap = h → Go p.tables e below Q kc ks s (T'.setTop (mkF m pc' Ls (.int 1 :: st)))) : Go p.tables e below Q kc ks s (T.setTop (mkF m pc Ls (.ref a :: st))) := by
  subst hp
  obtain ⟨T', X', e', st'⟩ := instY X hx hZ hown w eT F (g := mkF m pc Ls (.ref a :: st)) rfl rfl (hb hby hd)
  exact Go.step st' (K T' X' e')
theorem nR (X : Stand p l e R s m args below meth c T locs cells slots) (hx : p.tables.exec = Jvm.exec) (hZ : Z.Warmed39 s.vm) (hby : c.code = code) {own : String} {index : Nat} (hown : s.vm.findClass own = some m.cls) {C : String} (w1 : (Cond.classLink own index C).before a0 Z = true) (w2 : (Cond.arrayOver (.object C)).before a0 Z = true) (eT : T.heap = h) {n : Int32} (hn : ¬ n < 0) {cap : Nat} (hcap : n.toNatClampNeg ≤ cap) (hb' : cap * 8 ≤ 536870912) (hc : cells + 1 ≤ R.cells) (hl : slots + cap ≤ R.slots) (hd : decode code pc = .ok (.anewarray index, 3)) (hp : pc + 3 = pc')
    (K : ∀ T' h' cA b, b = h.size → Stand p l e R s m args below meth c T' locs (cells + 1) (slots + cap) → T'.heap = h' → Ext h h' → Arv Z h' b cA (.object C) n [] .null → Ovr Z cA C → Go p.tables e below Q kc ks s (T'.setTop (mkF m pc' Ls (.ref b :: st)))) : Go p.tables e below Q kc ks s (T.setTop (mkF m pc Ls (.int n :: st))) := by
  subst hp
  obtain ⟨T', h', cA, X', e', E', A', O', st'⟩ := newR X hx hZ hown w1 w2 eT (g := mkF m pc Ls (.int n :: st)) rfl (hb hby hd) rfl hn hcap hb' hc hl
  exact Go.step st' (K T' h' cA _ rfl X' e' E' (Arv.new A' hn) O')
theorem nP (X : Stand p l e R s m args below meth c T locs cells slots) (hx : p.tables.exec = Jvm.exec) (hZ : Z.Warmed39 s.vm) (hby : c.code = code) {aty : ArrayType} (w : (Cond.arrayClass (newarray.typeOf aty)).before a0 Z = true) (eT : T.heap = h) {n : Int32} (hn : ¬ n < 0) {cap : Nat} (hcap : n.toNatClampNeg ≤ cap) (hb' : cap * 8 ≤ 536870912) (hc : cells + 1 ≤ R.cells) (hl : slots + cap ≤ R.slots) (hd : decode code pc = .ok (.newarray aty, 2)) (hp : pc + 2 = pc')
    (K : ∀ T' h' cA b, b = h.size → Stand p l e R s m args below meth c T' locs (cells + 1) (slots + cap) → T'.heap = h' → Ext h h' → Arv Z h' b cA (newarray.typeOf aty) n [] (defaultValue (newarray.typeOf aty)) → Go p.tables e below Q kc ks s (T'.setTop (mkF m pc' Ls (.ref b :: st)))) : Go p.tables e below Q kc ks s (T.setTop (mkF m pc Ls (.int n :: st))) := by
  subst hp
  obtain ⟨T', h', cA, X', e', E', A', st'⟩ := newP X hx hZ w eT (g := mkF m pc Ls (.int n :: st)) rfl (hb hby hd) rfl hn hcap hb' hc hl
  exact Go.step st' (K T' h' cA _ rfl X' e' E' (Arv.new A' hn))
theorem sC (X : Stand p l e R s m args below meth c T locs cells slots) (hx : p.tables.exec = Jvm.exec) (hZ : Z.Warmed39 s.vm) (hby : c.code = code) (eT : T.heap = h) {a : Addr} {k : ClassId} {z : Int32} {vs : List Value} {dv : Value} (A : Arv Z h a k .char z vs dv) {j x : Int32} (i : Nat) (hj : ¬ j < 0 ∧ j < z) (hi : j.toNatClampNeg = i) (hil : i < vs.length) (hd : decode code pc = .ok (.castore, 1)) (hp : pc + 1 = pc')
    (K : ∀ T' h', Stand p l e R s m args below meth c T' (locs ++ [⟨a, j.toNatClampNeg⟩]) cells slots → T'.heap = h' → Wr h h' a j.toNatClampNeg (.int (nar .char x)) → Arv Z h' a k .char z (vs.set i (.int (nar .char x))) dv → Go p.tables e below Q kc ks s (T'.setTop (mkF m pc' Ls st))) : Go p.tables e below Q kc ks s (T.setTop (mkF m pc Ls (.int x :: .int j :: .ref a :: st))) := by
  subst hp
  obtain ⟨cl, A1, q1, S1, N1, H1, G1⟩ := A
  obtain ⟨T', h', X', e', W', st'⟩ := stC X hx hZ eT A1 (inb_of S1 hj) (g := mkF m pc Ls (.int x :: .int j :: .ref a :: st)) rfl rfl (hb hby hd)
  exact Go.step st' (K T' h' X' e' W' (Arv.set A1 q1 S1 N1 H1 G1 (fits_nar_char x) W' i hi hil))
theorem sB (X : Stand p l e R s m args below meth c T locs cells slots) (hx : p.tables.exec = Jvm.exec) (hZ : Z.Warmed39 s.vm) (hby : c.code = code) (eT : T.heap = h) {a : Addr} {k : ClassId} {z : Int32} {vs : List Value} {dv : Value} (A : Arv Z h a k .byte z vs dv) {j x : Int32} (i : Nat) (hj : ¬ j < 0 ∧ j < z) (hi : j.toNatClampNeg = i) (hil : i < vs.length) (hd : decode code pc = .ok (.bastore, 1)) (hp : pc + 1 = pc')
    (K : ∀ T' h', Stand p l e R s m args below meth c T' (locs ++ [⟨a, j.toNatClampNeg⟩]) cells slots → T'.heap = h' → Wr h h' a j.toNatClampNeg (.int (nar .byte x)) → Arv Z h' a k .byte z (vs.set i (.int (nar .byte x))) dv → Go p.tables e below Q kc ks s (T'.setTop (mkF m pc' Ls st))) : Go p.tables e below Q kc ks s (T.setTop (mkF m pc Ls (.int x :: .int j :: .ref a :: st))) := by
  subst hp
  obtain ⟨cl, A1, q1, S1, N1, H1, G1⟩ := A
  obtain ⟨T', h', X', e', W', st'⟩ := stB X hx hZ eT A1 (inb_of S1 hj) (g := mkF m pc Ls (.int x :: .int j :: .ref a :: st)) rfl rfl (hb hby hd)
  exact Go.step st' (K T' h' X' e' W' (Arv.set A1 q1 S1 N1 H1 G1 (fits_nar_byte x) W' i hi hil))
theorem sI (X : Stand p l e R s m args below meth c T locs cells slots) (hx : p.tables.exec = Jvm.exec) (hZ : Z.Warmed39 s.vm) (hby : c.code = code) (eT : T.heap = h) {a : Addr} {k : ClassId} {z : Int32} {vs : List Value} {dv : Value} (A : Arv Z h a k .int z vs dv) {j x : Int32} (i : Nat) (hj : ¬ j < 0 ∧ j < z) (hi : j.toNatClampNeg = i) (hil : i < vs.length) (hd : decode code pc = .ok (.iastore, 1)) (hp : pc + 1 = pc')
    (K : ∀ T' h', Stand p l e R s m args below meth c T' (locs ++ [⟨a, j.toNatClampNeg⟩]) cells slots → T'.heap = h' → Wr h h' a j.toNatClampNeg (.int x) → Arv Z h' a k .int z (vs.set i (.int x)) dv → Go p.tables e below Q kc ks s (T'.setTop (mkF m pc' Ls st))) : Go p.tables e below Q kc ks s (T.setTop (mkF m pc Ls (.int x :: .int j :: .ref a :: st))) := by
  subst hp
  obtain ⟨cl, A1, q1, S1, N1, H1, G1⟩ := A
  obtain ⟨T', h', X', e', W', st'⟩ := stI X hx hZ eT A1 (inb_of S1 hj) (g := mkF m pc Ls (.int x :: .int j :: .ref a :: st)) rfl rfl (hb hby hd)
  exact Go.step st' (K T' h' X' e' W' (Arv.set A1 q1 S1 N1 H1 G1 (rfl) W' i hi hil))
theorem sR (X : Stand p l e R s m args below meth c T locs cells slots) (hx : p.tables.exec = Jvm.exec) (hZ : Z.Warmed39 s.vm) (hby : c.code = code) (eT : T.heap = h) {a : Addr} {C : String} {k : ClassId} {z : Int32} {vs : List Value} {dv : Value} (A : Arv Z h a k (.object C) z vs dv) {j : Int32} {v : Value} (hv : fits (.object C) v = true) (i : Nat) (hj : ¬ j < 0 ∧ j < z) (hi : j.toNatClampNeg = i) (hil : i < vs.length) (F : ∀ cl, Arr Z h a cl (.object C) → cl.cls = k → Sto Z h a v) (hd : decode code pc = .ok (.aastore, 1)) (hp : pc + 1 = pc')
    (K : ∀ T' h', Stand p l e R s m args below meth c T' (locs ++ [⟨a, j.toNatClampNeg⟩]) cells slots → T'.heap = h' → Wr h h' a j.toNatClampNeg v → Arv Z h' a k (.object C) z (vs.set i v) dv → Go p.tables e below Q kc ks s (T'.setTop (mkF m pc' Ls st))) : Go p.tables e below Q kc ks s (T.setTop (mkF m pc Ls (v :: .int j :: .ref a :: st))) := by
  subst hp
  obtain ⟨cl, A1, q1, S1, N1, H1, G1⟩ := A
  obtain ⟨T', h', X', e', W', st'⟩ := stR X hx hZ eT A1 (inb_of S1 hj) rfl (F cl A1 q1) (g := mkF m pc Ls (v :: .int j :: .ref a :: st)) rfl rfl (hb hby hd)
  exact Go.step st' (K T' h' X' e' W' (Arv.set A1 q1 S1 N1 H1 G1 hv W' i hi hil))
theorem lR (X : Stand p l e R s m args below meth c T locs cells slots) (hx : p.tables.exec = Jvm.exec) (hZ : Z.Warmed39 s.vm) (hby : c.code = code) {ty : FieldType} (hty : ty.isReference = true) (eT : T.heap = h) {a : Addr} {k : ClassId} {z : Int32} {vs : List Value} {dv : Value} (A : Arv Z h a k ty z vs dv) {j : Int32} {v : Value} (hj : ¬ j < 0 ∧ j < z) (hv : vs.getD j.toNatClampNeg dv = v) (hd : decode code pc = .ok (.aaload, 1)) (hp : pc + 1 = pc')
    (K : Go p.tables e below Q kc ks s (T.setTop (mkF m pc' Ls (v :: st)))) : Go p.tables e below Q kc ks s (T.setTop (mkF m pc Ls (.int j :: .ref a :: st))) := by
  subst hp
  obtain ⟨cl, A1, q1, S1, N1, H1, G1⟩ := A
  exact Go.step (fun t hr => X.aaload hx (j := j) (v := v) (by rw [eT]; exact A1.1) (State.isArrayOf_alike hZ.alike A1.2.1) hty A1.2.2 (inb_of S1 hj) (Has.at H1 (inb_of S1 hj) hv) (g := mkF m pc Ls (.int j :: .ref a :: st)) rfl rfl (hb hby hd) t hr) K
theorem lC (X : Stand p l e R s m args below meth c T locs cells slots) (hx : p.tables.exec = Jvm.exec) (hZ : Z.Warmed39 s.vm) (hby : c.code = code) (eT : T.heap = h) {a : Addr} {k : ClassId} {z : Int32} {vs : List Value} {dv : Value} (A : Arv Z h a k .char z vs dv) {j : Int32} {v : Int32} (hj : ¬ j < 0 ∧ j < z) (hv : vs.getD j.toNatClampNeg dv = (.int v)) (hd : decode code pc = .ok (.caload, 1)) (hp : pc + 1 = pc')
    (K : Go p.tables e below Q kc ks s (T.setTop (mkF m pc' Ls ((.int v) :: st)))) : Go p.tables e below Q kc ks s (T.setTop (mkF m pc Ls (.int j :: .ref a :: st))) := by
  subst hp
  obtain ⟨cl, A1, q1, S1, N1, H1, G1⟩ := A
  exact Go.step (fun t hr => X.caload hx (j := j) (v := (.int v)) (by rw [eT]; exact A1.1) (State.isArrayOf_alike hZ.alike A1.2.1) A1.2.2 (inb_of S1 hj) (Has.at H1 (inb_of S1 hj) hv) (g := mkF m pc Ls (.int j :: .ref a :: st)) rfl rfl (hb hby hd) t hr) K
theorem lB (X : Stand p l e R s m args below meth c T locs cells slots) (hx : p.tables.exec = Jvm.exec) (hZ : Z.Warmed39 s.vm) (hby : c.code = code) (eT : T.heap = h) {a : Addr} {k : ClassId} {z : Int32} {vs : List Value} {dv : Value} (A : Arv Z h a k .byte z vs dv) {j : Int32} {v : Int32} (hj : ¬ j < 0 ∧ j < z) (hv : vs.getD j.toNatClampNeg dv = (.int v)) (hd : decode code pc = .ok (.baload, 1)) (hp : pc + 1 = pc')
    (K : Go p.tables e below Q kc ks s (T.setTop (mkF m pc' Ls ((.int v) :: st)))) : Go p.tables e below Q kc ks s (T.setTop (mkF m pc Ls (.int j :: .ref a :: st))) := by
  subst hp
  obtain ⟨cl, A1, q1, S1, N1, H1, G1⟩ := A
  exact Go.step (fun t hr => X.baloadBytes hx (j := j) (v := (.int v)) (by rw [eT]; exact A1.1) (State.isArrayOf_alike hZ.alike A1.2.1) A1.2.2 (inb_of S1 hj) (Has.at H1 (inb_of S1 hj) hv) (g := mkF m pc Ls (.int j :: .ref a :: st)) rfl rfl (hb hby hd) t hr) K
theorem lI (X : Stand p l e R s m args below meth c T locs cells slots) (hx : p.tables.exec = Jvm.exec) (hZ : Z.Warmed39 s.vm) (hby : c.code = code) (eT : T.heap = h) {a : Addr} {k : ClassId} {z : Int32} {vs : List Value} {dv : Value} (A : Arv Z h a k .int z vs dv) {j : Int32} {v : Int32} (hj : ¬ j < 0 ∧ j < z) (hv : vs.getD j.toNatClampNeg dv = (.int v)) (hd : decode code pc = .ok (.iaload, 1)) (hp : pc + 1 = pc')
    (K : Go p.tables e below Q kc ks s (T.setTop (mkF m pc' Ls ((.int v) :: st)))) : Go p.tables e below Q kc ks s (T.setTop (mkF m pc Ls (.int j :: .ref a :: st))) := by
  subst hp
  obtain ⟨cl, A1, q1, S1, N1, H1, G1⟩ := A
  exact Go.step (fun t hr => X.iaload hx (j := j) (v := (.int v)) (by rw [eT]; exact A1.1) (State.isArrayOf_alike hZ.alike A1.2.1) A1.2.2 (inb_of S1 hj) (Has.at H1 (inb_of S1 hj) hv) (g := mkF m pc Ls (.int j :: .ref a :: st)) rfl rfl (hb hby hd) t hr) K
theorem aL (X : Stand p l e R s m args below meth c T locs cells slots) (hx : p.tables.exec = Jvm.exec) (hZ : Z.Warmed39 s.vm) (hby : c.code = code) (eT : T.heap = h) {a : Addr} {ty : FieldType} {k : ClassId} {z : Int32} {vs : List Value} {dv : Value} (A : Arv Z h a k ty z vs dv) (hd : decode code pc = .ok (.arraylength, 1)) (hp : pc + 1 = pc')
    (K : Go p.tables e below Q kc ks s (T.setTop (mkF m pc' Ls (.int z :: st)))) : Go p.tables e below Q kc ks s (T.setTop (mkF m pc Ls (.ref a :: st))) := by
  subst hp
  obtain ⟨cl, A1, q1, S1, N1, H1, G1⟩ := A
  refine Go.step (fun t hr => X.arraylength hx (by rw [eT]; exact A1.1) (State.isArrayOf_alike hZ.alike A1.2.1) (g := mkF m pc Ls (.ref a :: st)) rfl rfl (hb hby hd) t hr) ?_
  rw [len_of S1 N1]
  exact K
theorem cV (X : Stand p l e R s m args below meth c T locs cells slots) (hx : p.tables.exec = Jvm.exec) (hZ : Z.Warmed39 s.vm) (hby : c.code = code) (hsz : Ls.size = c.maxLocals) {own : String} {index : Nat} (hown : s.vm.findClass own = some m.cls) {C : String} {y z : MethodName} {bytes : ByteArray} {maxL : Nat} {ret : Option FieldType} {rm : Room} {as' : Array Value} {Qc : Option Value → Heap → List Loc → Prop} (wl : (Cond.methodLink own index y).before a0 Z = true) (wd : (Cond.declares y).before a0 Z = true) (hnf : NotFace s y) (ws : (Cond.selects C y z).before a0 Z = true) (wi : (Cond.instanceMethod z).before a0 Z = true) (wc : (Cond.code z bytes maxL ret).before a0 Z = true) (wz : (Cond.initialized z.cls).before a0 Z = true) (hy : y.cls ≠ "java/lang/invoke/MethodHandle" ∧ y.cls ≠ "java/lang/invoke/VarHandle") (hM : MetFree l z (head1 [Cond.code z bytes maxL ret] rm) (fun a U => a = as' ∧ Z.Warmed39 U.vm ∧ U.heap = h) (fun _ _ _ _ _ => True) (fun _ U o U' => ∃ v L, o = .returned v ∧ Qc v U'.heap L ∧ FrameEnd U o U' L rm.cells rm.slots)) {b : Addr} (E : Exa Z h b C) (eT : T.heap = h) {argsL stk : List Value} {ps : List FieldType} {r : Option FieldType} (hpd : parseMethodDescriptor y.desc = some ⟨ps, r⟩) (hpl : argsL.length = ps.length) (has : as' = (Value.ref b :: argsL).toArray) (hstk : stk = argsL.reverse ++ .ref b :: st) {W : Nat} (hW : (st.map fun v => v.category).sum = W) (hf : rm.frames + 1 ≤ R.frames) (hl : W + (maxL + 11) + rm.locals ≤ R.locals) (hcl : cells + rm.cells ≤ R.cells) (hsl : slots + rm.slots ≤ R.slots) (hd : decode code pc = .ok (.invokevirtual index, 3)) (hp : pc + 3 = pc')
    (K : ∀ T' L v, Stand p l e R s m args below meth c T' (locs ++ L) (cells + rm.cells) (slots + rm.slots) → Qc v T'.heap L → Go p.tables e below Q kc ks s (T'.setTop (mkF m pc' Ls (v.toList ++ st)))) : Go p.tables e below Q kc ks s (T.setTop (mkF m pc Ls stk)) := by
  subst hp has hstk hW
  obtain ⟨cq, kq, qa, qb, qc⟩ := isOf hZ eT E
  obtain ⟨_, _, ⟨T1, L1, k1, n1⟩, -, X1, ⟨Lc1, hQ1, l1, y1, z1⟩, st1⟩ := X.virtualBack hx (y := y) (z := z) hown (mvT hZ wl) (mvT hZ wd) hnf (mvT hZ ws) (mvT hZ wi) hy (backOf (W := (st.map fun v => v.category).sum) hM hZ wc wz hf hl) qa qc (g := mkF m pc Ls (argsL.reverse ++ .ref b :: st)) rfl hsz (Steps.refl _) (argsL := argsL) (rest := st) (lenOf hpd hpl) rfl (by show 2 * 0 + _ ≤ _; omega) (hb hby hd) (fun _ _ => ⟨rfl, eT, hcl, hsl⟩)
  dsimp only [Pt.U, Pt.locs, Pt.cells, Pt.slots] at X1 l1 y1 z1 st1 hQ1
  subst l1 y1 z1
  exact Go.via st1 (K _ _ _ X1 hQ1)
theorem cI (X : Stand p l e R s m args below meth c T locs cells slots) (hx : p.tables.exec = Jvm.exec) (hZ : Z.Warmed39 s.vm) (hby : c.code = code) (hsz : Ls.size = c.maxLocals) {own : String} {index : Nat} (hown : s.vm.findClass own = some m.cls) {C : String} {count : Nat} {xi y : MethodName} {bytes : ByteArray} {maxL : Nat} {ret : Option FieldType} {rm : Room} {as' : Array Value} {Qc : Option Value → Heap → List Loc → Prop} (wl : (Cond.methodLink own index xi).before a0 Z = true) (wd : (Cond.declares xi).before a0 Z = true) (wf : (Cond.interfaceMethod xi.cls xi.cls xi.name xi.desc).before a0 Z = true) (hwf : ((Cond.interfaceMethod xi.cls xi.cls xi.name xi.desc).onTables && (Cond.interfaceMethod xi.cls xi.cls xi.name xi.desc).keepsFace) = true) (ws : (Cond.selects C xi y).before a0 Z = true) (wi : (Cond.instanceMethod y).before a0 Z = true) (wp : (Cond.publicMethod y).before a0 Z = true) (wu : (Cond.unhidden C xi.name xi.desc).before a0 Z = true) (wct : (Cond.castable C xi.cls).before a0 Z = true) (wc : (Cond.code y bytes maxL ret).before a0 Z = true) (wz : (Cond.initialized y.cls).before a0 Z = true) (hy : xi.cls ≠ "java/lang/invoke/MethodHandle" ∧ xi.cls ≠ "java/lang/invoke/VarHandle") (hM : MetFree l y (head1 [Cond.code y bytes maxL ret] rm) (fun a U => a = as' ∧ Z.Warmed39 U.vm ∧ U.heap = h) (fun _ _ _ _ _ => True) (fun _ U o U' => ∃ v L, o = .returned v ∧ Qc v U'.heap L ∧ FrameEnd U o U' L rm.cells rm.slots)) {b : Addr} (E : Exa Z h b C) (eT : T.heap = h) {argsL stk : List Value} {ps : List FieldType} {r : Option FieldType} (hpd : parseMethodDescriptor xi.desc = some ⟨ps, r⟩) (hpl : argsL.length = ps.length) (has : as' = (Value.ref b :: argsL).toArray) (hstk : stk = argsL.reverse ++ .ref b :: st) {W : Nat} (hW : (st.map fun v => v.category).sum = W) (hf : rm.frames + 1 ≤ R.frames) (hl : W + (maxL + 11) + rm.locals ≤ R.locals) (hcl : cells + rm.cells ≤ R.cells) (hsl : slots + rm.slots ≤ R.slots) (hd : decode code pc = .ok (.invokeinterface index count, 5)) (hp : pc + 5 = pc')
    (K : ∀ T' L v, Stand p l e R s m args below meth c T' (locs ++ L) (cells + rm.cells) (slots + rm.slots) → Qc v T'.heap L → Go p.tables e below Q kc ks s (T'.setTop (mkF m pc' Ls (v.toList ++ st)))) : Go p.tables e below Q kc ks s (T.setTop (mkF m pc Ls stk)) := by
  subst hp has hstk hW
  obtain ⟨cq, kq, qa, qb, qc⟩ := isOf hZ eT E
  obtain ⟨_, _, ⟨T1, L1, k1, n1⟩, -, X1, ⟨Lc1, hQ1, l1, y1, z1⟩, st1⟩ := X.interfaceBack hx (xi := xi) (y := y) hown (mvT hZ wl) (mvT hZ wd) (mvT hZ wf hwf) (mvT hZ ws) (mvT hZ wi) (mvT hZ wp) (mvT hZ wu) (mvT hZ wct) hy (backOf (W := (st.map fun v => v.category).sum) hM hZ wc wz hf hl) qa qb qc (g := mkF m pc Ls (argsL.reverse ++ .ref b :: st)) rfl hsz (Steps.refl _) (argsL := argsL) (rest := st) (lenOf hpd hpl) rfl (by show 2 * 0 + _ ≤ _; omega) (hb hby hd) (fun _ _ => ⟨rfl, eT, hcl, hsl⟩)
  dsimp only [Pt.U, Pt.locs, Pt.cells, Pt.slots] at X1 l1 y1 z1 st1 hQ1
  subst l1 y1 z1
  exact Go.via st1 (K _ _ _ X1 hQ1)
theorem cS (X : Stand p l e R s m args below meth c T locs cells slots) (hx : p.tables.exec = Jvm.exec) (hZ : Z.Warmed39 s.vm) (hby : c.code = code) (hsz : Ls.size = c.maxLocals) {own : String} {index : Nat} (hown : s.vm.findClass own = some m.cls) {y : MethodName} {bytes : ByteArray} {maxL : Nat} {ret : Option FieldType} {rm : Room} {as' : Array Value} {Qc : Option Value → Heap → List Loc → Prop} (wl : (Cond.methodLink own index y).before a0 Z = true) (wst : (Cond.static y).before a0 Z = true) (wc : (Cond.code y bytes maxL ret).before a0 Z = true) (wz : (Cond.initialized y.cls).before a0 Z = true) (hy : y.cls ≠ "java/lang/invoke/MethodHandle" ∧ y.cls ≠ "java/lang/invoke/VarHandle") (hM : MetFree l y (head1 [Cond.code y bytes maxL ret] rm) (fun a U => a = as' ∧ Z.Warmed39 U.vm ∧ U.heap = h) (fun _ _ _ _ _ => True) (fun _ U o U' => ∃ v L, o = .returned v ∧ Qc v U'.heap L ∧ FrameEnd U o U' L rm.cells rm.slots)) (eT : T.heap = h) {argsL stk : List Value} {ps : List FieldType} {r : Option FieldType} (hpd : parseMethodDescriptor y.desc = some ⟨ps, r⟩) (hpl : argsL.length = ps.length) (has : as' = (argsL).toArray) (hstk : stk = argsL.reverse ++ st) {W : Nat} (hW : (st.map fun v => v.category).sum = W) (hf : rm.frames + 1 ≤ R.frames) (hl : W + (maxL + 11) + rm.locals ≤ R.locals) (hcl : cells + rm.cells ≤ R.cells) (hsl : slots + rm.slots ≤ R.slots) (hd : decode code pc = .ok (.invokestatic index, 3)) (hp : pc + 3 = pc')
    (K : ∀ T' L v, Stand p l e R s m args below meth c T' (locs ++ L) (cells + rm.cells) (slots + rm.slots) → Qc v T'.heap L → Go p.tables e below Q kc ks s (T'.setTop (mkF m pc' Ls (v.toList ++ st)))) : Go p.tables e below Q kc ks s (T.setTop (mkF m pc Ls stk)) := by
  subst hp has hstk hW
  obtain ⟨_, _, ⟨T1, L1, k1, n1⟩, -, X1, ⟨Lc1, hQ1, l1, y1, z1⟩, st1⟩ := Jvm.LawKit.callS X hx (y := y) hown (mvT hZ wl) (mvT hZ wst) (mvT hZ wz) (mvT hZ wc) hy (backOf (W := (st.map fun v => v.category).sum) hM hZ wc wz hf hl) (g := mkF m pc Ls (argsL.reverse ++ st)) rfl hsz (argsL := argsL) (rest := st) (lenOf hpd hpl) rfl (by show 2 * 0 + _ ≤ _; omega) (hb hby hd) (fun _ _ => ⟨rfl, eT, hcl, hsl⟩)
  dsimp only [Pt.U, Pt.locs, Pt.cells, Pt.slots] at X1 l1 y1 z1 st1 hQ1
  subst l1 y1 z1
  exact Go.step st1 (K _ _ _ X1 hQ1)
theorem cN (X : Stand p l e R s m args below meth c T locs cells slots) (hx : p.tables.exec = Jvm.exec) (hZ : Z.Warmed39 s.vm) (hby : c.code = code) (hsz : Ls.size = c.maxLocals) {own : String} {index : Nat} (hown : s.vm.findClass own = some m.cls) {y : MethodName} {bytes : ByteArray} {maxL : Nat} {ret : Option FieldType} {rm : Room} {as' : Array Value} {Qc : Option Value → Heap → List Loc → Prop} (hyi : y.name = "<init>") (hrn : ret = none) (wl : (Cond.methodLink own index y).before a0 Z = true) (wi : (Cond.instanceMethod y).before a0 Z = true) (wc : (Cond.code y bytes maxL ret).before a0 Z = true) (wz : (Cond.initialized y.cls).before a0 Z = true) (hy : y.cls ≠ "java/lang/invoke/MethodHandle" ∧ y.cls ≠ "java/lang/invoke/VarHandle") (hM : MetFree l y (head1 [Cond.code y bytes maxL ret] rm) (fun a U => a = as' ∧ Z.Warmed39 U.vm ∧ U.heap = h) (fun _ _ _ _ _ => True) (fun _ U o U' => ∃ v L, o = .returned v ∧ Qc v U'.heap L ∧ FrameEnd U o U' L rm.cells rm.slots)) {b : Addr} (eT : T.heap = h) {argsL stk : List Value} {ps : List FieldType} {r : Option FieldType} (hpd : parseMethodDescriptor y.desc = some ⟨ps, r⟩) (hpl : argsL.length = ps.length) (has : as' = (Value.ref b :: argsL).toArray) (hstk : stk = argsL.reverse ++ .ref b :: st) {W : Nat} (hW : (st.map fun v => v.category).sum = W) (hf : rm.frames + 1 ≤ R.frames) (hl : W + (maxL + 11) + rm.locals ≤ R.locals) (hcl : cells + rm.cells ≤ R.cells) (hsl : slots + rm.slots ≤ R.slots) (hd : decode code pc = .ok (.invokespecial index, 3)) (hp : pc + 3 = pc')
    (K : ∀ T' L v, Stand p l e R s m args below meth c T' (locs ++ L) (cells + rm.cells) (slots + rm.slots) → Qc v T'.heap L → Go p.tables e below Q kc ks s (T'.setTop (mkF m pc' Ls (v.toList ++ st)))) : Go p.tables e below Q kc ks s (T.setTop (mkF m pc Ls stk)) := by
  subst hp has hstk hW hrn
  obtain ⟨_, _, ⟨T1, L1, k1, n1⟩, -, X1, ⟨Lc1, hQ1, l1, y1, z1⟩, st1⟩ := X.specialBack hx (y := y) hyi hown (mvT hZ wl) (mvT hZ wi) (mvT hZ wc) hy (backOf (W := (st.map fun v => v.category).sum) hM hZ wc wz hf hl) (g := mkF m pc Ls (argsL.reverse ++ .ref b :: st)) rfl hsz (Steps.refl _) (a := b) (argsL := argsL) (rest := st) (lenOf hpd hpl) rfl (by show 2 * 0 + _ ≤ _; omega) (hb hby hd) (fun _ _ => ⟨rfl, eT, hcl, hsl⟩)
  dsimp only [Pt.U, Pt.locs, Pt.cells, Pt.slots] at X1 l1 y1 z1 st1 hQ1
  subst l1 y1 z1
  exact Go.via st1 (K _ _ _ X1 hQ1)
theorem cP (X : Stand p l e R s m args below meth c T locs cells slots) (hx : p.tables.exec = Jvm.exec) (hZ : Z.Warmed39 s.vm) (hby : c.code = code) (hsz : Ls.size = c.maxLocals) {own : String} {index : Nat} (hown : s.vm.findClass own = some m.cls) {C : String} {y : MethodName} {bytes : ByteArray} {maxL : Nat} {ret : Option FieldType} {rm : Room} {as' : Array Value} {Qc : Option Value → Heap → List Loc → Prop} (wl : (Cond.methodLink own index y).before a0 Z = true) (wi : (Cond.instanceMethod y).before a0 Z = true) (ws : (Cond.selects y.cls y y).before a0 Z = true) (wp : (Cond.privateMethod y).before a0 Z = true) (wc : (Cond.code y bytes maxL ret).before a0 Z = true) (wz : (Cond.initialized y.cls).before a0 Z = true) (hy : y.cls ≠ "java/lang/invoke/MethodHandle" ∧ y.cls ≠ "java/lang/invoke/VarHandle") (hM : MetFree l y (head1 [Cond.code y bytes maxL ret] rm) (fun a U => a = as' ∧ Z.Warmed39 U.vm ∧ U.heap = h) (fun _ _ _ _ _ => True) (fun _ U o U' => ∃ v L, o = .returned v ∧ Qc v U'.heap L ∧ FrameEnd U o U' L rm.cells rm.slots)) {b : Addr} (E : Exa Z h b C) (eT : T.heap = h) {argsL stk : List Value} {ps : List FieldType} {r : Option FieldType} (hpd : parseMethodDescriptor y.desc = some ⟨ps, r⟩) (hpl : argsL.length = ps.length) (has : as' = (Value.ref b :: argsL).toArray) (hstk : stk = argsL.reverse ++ .ref b :: st) {W : Nat} (hW : (st.map fun v => v.category).sum = W) (hf : rm.frames + 1 ≤ R.frames) (hl : W + (maxL + 11) + rm.locals ≤ R.locals) (hcl : cells + rm.cells ≤ R.cells) (hsl : slots + rm.slots ≤ R.slots) (hd : decode code pc = .ok (.invokevirtual index, 3)) (hp : pc + 3 = pc')
    (K : ∀ T' L v, Stand p l e R s m args below meth c T' (locs ++ L) (cells + rm.cells) (slots + rm.slots) → Qc v T'.heap L → Go p.tables e below Q kc ks s (T'.setTop (mkF m pc' Ls (v.toList ++ st)))) : Go p.tables e below Q kc ks s (T.setTop (mkF m pc Ls stk)) := by
  subst hp has hstk hW
  obtain ⟨cq, qa, qb⟩ := E.cell
  obtain ⟨_, _, ⟨T1, L1, k1, n1⟩, -, X1, ⟨Lc1, hQ1, l1, y1, z1⟩, st1⟩ := X.privateBack hx (y := y) hown (mvT hZ wl) (mvT hZ wi) (mvT hZ ws) (Cond.privateMethod_at (mvP hZ wp (args := #[]))) (mvT hZ wc) hy (backOf (W := (st.map fun v => v.category).sum) hM hZ wc wz hf hl) (g := mkF m pc Ls (argsL.reverse ++ .ref b :: st)) rfl hsz (Steps.refl _) (a := b) (by rw [eT]; exact qa) qb (argsL := argsL) (rest := st) (lenOf hpd hpl) rfl (by show 2 * 0 + _ ≤ _; omega) (hb hby hd) (fun _ _ => ⟨rfl, eT, hcl, hsl⟩)
  dsimp only [Pt.U, Pt.locs, Pt.cells, Pt.slots] at X1 l1 y1 z1 st1 hQ1
  subst l1 y1 z1
  exact Go.via st1 (K _ _ _ X1 hQ1)
theorem cU (X : Stand p l e R s m args below meth c T locs cells slots) (hx : p.tables.exec = Jvm.exec) (hZ : Z.Warmed39 s.vm) (hby : c.code = code) (hsz : Ls.size = c.maxLocals) {own : String} {index : Nat} (hown : s.vm.findClass own = some m.cls) {C : String} {y : MethodName} {bytes : ByteArray} {maxL : Nat} {ret : Option FieldType} {rm : Room} {as' : Array Value} {Qc : Option Value → Heap → List Loc → Prop} (wl : (Cond.methodLink own index y).before a0 Z = true) (wsm : (Cond.sameMethod y.cls y.cls y.name y.desc).before a0 Z = true) (wi : (Cond.instanceMethod y).before a0 Z = true) (wsc : (Cond.superclass own y.cls).before a0 Z = true) (hne : y.name ≠ "<init>") (wc : (Cond.code y bytes maxL ret).before a0 Z = true) (wz : (Cond.initialized y.cls).before a0 Z = true) (hM : MetFree l y (head1 [Cond.code y bytes maxL ret] rm) (fun a U => a = as' ∧ Z.Warmed39 U.vm ∧ U.heap = h) (fun _ _ _ _ _ => True) (fun _ U o U' => ∃ v L, o = .returned v ∧ Qc v U'.heap L ∧ FrameEnd U o U' L rm.cells rm.slots)) {b : Addr} (E : Exa Z h b C) (eT : T.heap = h) {argsL stk : List Value} {ps : List FieldType} {r : Option FieldType} (hpd : parseMethodDescriptor y.desc = some ⟨ps, r⟩) (hpl : argsL.length = ps.length) (has : as' = (Value.ref b :: argsL).toArray) (hstk : stk = argsL.reverse ++ .ref b :: st) {W : Nat} (hW : (st.map fun v => v.category).sum = W) (hf : rm.frames + 1 ≤ R.frames) (hl : W + (maxL + 11) + rm.locals ≤ R.locals) (hcl : cells + rm.cells ≤ R.cells) (hsl : slots + rm.slots ≤ R.slots) (hd : decode code pc = .ok (.invokespecial index, 3)) (hp : pc + 3 = pc')
    (K : ∀ T' L v, Stand p l e R s m args below meth c T' (locs ++ L) (cells + rm.cells) (slots + rm.slots) → Qc v T'.heap L → Go p.tables e below Q kc ks s (T'.setTop (mkF m pc' Ls (v.toList ++ st)))) : Go p.tables e below Q kc ks s (T.setTop (mkF m pc Ls stk)) := by
  subst hp has hstk hW
  obtain ⟨_, _, ⟨T1, L1, k1, n1⟩, -, X1, ⟨Lc1, hQ1, l1, y1, z1⟩, st1⟩ := superBack X hx hZ (y := y) hown wl wsm wi wsc hne (backOf (W := (st.map fun v => v.category).sum) hM hZ wc wz hf hl) eT (Ins.self E) (g := mkF m pc Ls (argsL.reverse ++ .ref b :: st)) rfl hsz wc (argsL := argsL) (rest := st) (lenOf hpd hpl) rfl (by show 2 * 0 + _ ≤ _; omega) (hb hby hd) (fun _ _ => ⟨rfl, eT, hcl, hsl⟩)
  dsimp only [Pt.U, Pt.locs, Pt.cells, Pt.slots] at X1 l1 y1 z1 st1 hQ1
  subst l1 y1 z1
  exact Go.via st1 (K _ _ _ X1 hQ1)
end Laws2
end Jvm.OG
namespace Jvm.Pilot.@@N@@
open Jvm Jvm.ClassFile Sem Op Lib Jvm.Free Jvm.Stand Jvm.LawKit Jvm.RoadKit Bundle Jvm.Pilot.@@N@@.Jvm.D
theorem own_pd_0 : parseMethodDescriptor "()V" = some ⟨[], none⟩ := by decide +kernel
theorem own_pd_1 : parseMethodDescriptor "(Lcom/example/tranchery/tranchery/rating/Agency;I)V" = some ⟨[(.object "com/example/tranchery/tranchery/rating/Agency"), .int], none⟩ := by decide +kernel
theorem own_pd_2 : parseMethodDescriptor "(Lcom/example/tranchery/tranchery/rating/Rating;)Z" = some ⟨[(.object "com/example/tranchery/tranchery/rating/Rating")], some .boolean⟩ := by decide +kernel
theorem own_d_recinit_0 : decode jdk_30_method_1_code 0 = .ok (.aload_n 0, 1) := by decide +kernel
theorem own_d_recinit_1 : decode jdk_30_method_1_code 1 = .ok (.invokespecial 1, 3) := by decide +kernel
theorem own_d_recinit_4 : decode jdk_30_method_1_code 4 = .ok (.return_, 1) := by decide +kernel
theorem own_pn_recinit : plainName "java/lang/Record" = true := by first | (simp [plainName, overriddenIn]; done) | decide +kernel
theorem own_ef_recinit (m : MethodId) (x0 : Addr)  : entryFrame m #[(.ref x0)] 1 = mkF m 0 #[.val (.ref x0)] [] := by first | (simp [entryFrame, mkF, argsToLocals, Value.category]; done) | rfl
def own_Q_recinit (Z : State) (a1 : Addr) (h0 : Heap) (n0 : Nat) (v : Option Value) (h : Heap) (L : List Loc) : Prop := v = none ∧ Fr n0 L ∧ h = h0
set_option maxRecDepth 65536 in
set_option maxHeartbeats 40000000 in
theorem own_rm_recinit (l : Launch) (Z : State) (a0 : Array Value) (hw : ∀ d ∈ tables_1, d.before a0 Z = true) (ws : List Jvm.Cond) (a1 : Addr) (h0 : Heap) (n0 : Nat) (Z0 : n0 ≤ h0.size) :
    MetFree l (⟨"java/lang/Record", "<init>", "()V"⟩ : MethodName) (head1 (Jvm.Cond.code (⟨"java/lang/Record", "<init>", "()V"⟩ : MethodName) jdk_30_method_1_code 1 none :: ws) ({ frames := 1, cells := 0, slots := 0, locals := 12 } : Room)) (fun a U => a = #[(.ref a1)] ∧ Z.Warmed39 U.vm ∧ U.heap = h0) (fun _ _ _ _ _ => True) (fun _ U o U' => ∃ v L, o = .returned v ∧ own_Q_recinit Z a1 h0 n0 v U'.heap L ∧ FrameEnd U o U' L ({ frames := 1, cells := 0, slots := 0, locals := 12 } : Room).cells ({ frames := 1, cells := 0, slots := 0, locals := 12 } : Room).slots) := by
  refine MetFree.of_bodySF (plainFor_of_name own_pn_recinit) hisR ?_
  intro p e s m args below meth c s₁ Bd hml0 hP hK
  obtain ⟨rfl, hZ, hh⟩ := hP
  have hx := Bd.exec
  have hby := Bd.bytes
  have hml : c.maxLocals = 1 := hml0
  have hown : s.vm.findClass "java/lang/Record" = some m.cls := findClass_of_methodNamed Bd.named
  have hnm := (name_of_methodNamed Bd.named Bd.method).1
  have X0 : Stand p l e ({ frames := 1, cells := 0, slots := 0, locals := 12 } : Room) s m #[(.ref a1)] below meth c s₁ [] 0 0 := Stand.of_body Bd
  have e0 : s₁.heap = h0 := by rw [← hh, Bd.state]; rfl
  have N0 := Fr.nil n0
  show OG.Go p.tables e below (own_Q_recinit Z a1 h0 n0) ({ frames := 1, cells := 0, slots := 0, locals := 12 } : Room).cells ({ frames := 1, cells := 0, slots := 0, locals := 12 } : Room).slots s (s₁.setTop (entryFrame m #[(.ref a1)] 1))
  refine OG.Go.cast (own_ef_recinit m a1) ?_
  refine OG.aloadN X0 hx hby own_d_recinit_0 rfl rfl rfl ?_
  refine OG.iO X0 hx hZ hby hown (by rw [hml]; rfl) (hw _ (List.mem_of_getElem? (i := 15) rfl)) (hw _ (List.mem_of_getElem? (i := 16) rfl)) (hw _ (List.mem_of_getElem? (i := 17) rfl)) e0 (W := 0) rfl (by decide) (by decide) own_d_recinit_1 rfl ?_
  intro T1 X1 e1
  refine OG.retV X1 hx hby Bd.returns own_d_recinit_4 Bd.notSynchronized (by decide) (by decide) ?_
  exact ⟨rfl, N0, e1⟩
theorem own_d_rinit_0 : decode prog_88_method_1_code 0 = .ok (.aload_n 0, 1) := by decide +kernel
theorem own_d_rinit_1 : decode prog_88_method_1_code 1 = .ok (.invokespecial 1, 3) := by decide +kernel
theorem own_d_rinit_4 : decode prog_88_method_1_code 4 = .ok (.aload_n 0, 1) := by decide +kernel
theorem own_d_rinit_5 : decode prog_88_method_1_code 5 = .ok (.aload_n 1, 1) := by decide +kernel
theorem own_d_rinit_6 : decode prog_88_method_1_code 6 = .ok (.putfield 7, 3) := by decide +kernel
theorem own_d_rinit_9 : decode prog_88_method_1_code 9 = .ok (.aload_n 0, 1) := by decide +kernel
theorem own_d_rinit_10 : decode prog_88_method_1_code 10 = .ok (.iload_n 2, 1) := by decide +kernel
theorem own_d_rinit_11 : decode prog_88_method_1_code 11 = .ok (.putfield 13, 3) := by decide +kernel
theorem own_d_rinit_14 : decode prog_88_method_1_code 14 = .ok (.return_, 1) := by decide +kernel
theorem own_pn_rinit : plainName "com/example/tranchery/tranchery/rating/Rating" = true := by first | (simp [plainName, overriddenIn]; done) | decide +kernel
theorem own_ef_rinit (m : MethodId) (x0 : Addr) (x1 : Addr) (x2 : Int32)  : entryFrame m #[(.ref x0), (.ref x1), (.int x2)] 3 = mkF m 0 #[.val (.ref x0), .val (.ref x1), .val (.int x2)] [] := by first | (simp [entryFrame, mkF, argsToLocals, Value.category]; done) | rfl
def own_Q_rinit (Z : State) (a1 : Addr) (a2 : Addr) (p3 : Int32) (h0 : Heap) (n0 : Nat) (v : Option Value) (h : Heap) (L : List Loc) : Prop := v = none ∧ Fr n0 L ∧ Keep h0 h [a1] ∧ Exa Z h a1 "com/example/tranchery/tranchery/rating/Rating" ∧ Fld Z h a1 "com/example/tranchery/tranchery/rating/Rating" "agency" "Lcom/example/tranchery/tranchery/rating/Agency;" (.ref a2) ∧ Fld Z h a1 "com/example/tranchery/tranchery/rating/Rating" "rank" "I" (.int p3)
set_option maxRecDepth 65536 in
set_option maxHeartbeats 40000000 in
theorem own_rm_rinit (l : Launch) (Z : State) (a0 : Array Value) (hw : ∀ d ∈ tables_1, d.before a0 Z = true) (ws : List Jvm.Cond) (a1 : Addr) (a2 : Addr) (p3 : Int32) (h0 : Heap) (n0 : Nat) (Z0 : n0 ≤ h0.size) (E1 : Exa Z h0 a1 "com/example/tranchery/tranchery/rating/Rating") (F1 : Fld Z h0 a1 "com/example/tranchery/tranchery/rating/Rating" "agency" "Lcom/example/tranchery/tranchery/rating/Agency;" .null) (F2 : Fld Z h0 a1 "com/example/tranchery/tranchery/rating/Rating" "rank" "I" (.int (0 : Int32))) (g1 : n0 ≤ a1) :
    MetFree l (⟨"com/example/tranchery/tranchery/rating/Rating", "<init>", "(Lcom/example/tranchery/tranchery/rating/Agency;I)V"⟩ : MethodName) (head1 (Jvm.Cond.code (⟨"com/example/tranchery/tranchery/rating/Rating", "<init>", "(Lcom/example/tranchery/tranchery/rating/Agency;I)V"⟩ : MethodName) prog_88_method_1_code 3 none :: ws) ({ frames := 2, cells := 0, slots := 0, locals := 24 } : Room)) (fun a U => a = #[(.ref a1), (.ref a2), (.int p3)] ∧ Z.Warmed39 U.vm ∧ U.heap = h0) (fun _ _ _ _ _ => True) (fun _ U o U' => ∃ v L, o = .returned v ∧ own_Q_rinit Z a1 a2 p3 h0 n0 v U'.heap L ∧ FrameEnd U o U' L ({ frames := 2, cells := 0, slots := 0, locals := 24 } : Room).cells ({ frames := 2, cells := 0, slots := 0, locals := 24 } : Room).slots) := by
  refine MetFree.of_bodySF (plainFor_of_name own_pn_rinit) hisR ?_
  intro p e s m args below meth c s₁ Bd hml0 hP hK
  obtain ⟨rfl, hZ, hh⟩ := hP
  have hx := Bd.exec
  have hby := Bd.bytes
  have hml : c.maxLocals = 3 := hml0
  have hown : s.vm.findClass "com/example/tranchery/tranchery/rating/Rating" = some m.cls := findClass_of_methodNamed Bd.named
  have hnm := (name_of_methodNamed Bd.named Bd.method).1
  have X0 : Stand p l e ({ frames := 2, cells := 0, slots := 0, locals := 24 } : Room) s m #[(.ref a1), (.ref a2), (.int p3)] below meth c s₁ [] 0 0 := Stand.of_body Bd
  have e0 : s₁.heap = h0 := by rw [← hh, Bd.state]; rfl
  have N0 := Fr.nil n0
  show OG.Go p.tables e below (own_Q_rinit Z a1 a2 p3 h0 n0) ({ frames := 2, cells := 0, slots := 0, locals := 24 } : Room).cells ({ frames := 2, cells := 0, slots := 0, locals := 24 } : Room).slots s (s₁.setTop (entryFrame m #[(.ref a1), (.ref a2), (.int p3)] 3))
  refine OG.Go.cast (own_ef_rinit m a1 a2 p3) ?_
  refine OG.aloadN X0 hx hby own_d_rinit_0 rfl rfl rfl ?_
  refine OG.cN X0 hx hZ hby (by rw [hml]; rfl) hown (y := (⟨"java/lang/Record", "<init>", "()V"⟩ : MethodName)) rfl rfl (hw _ (List.mem_of_getElem? (i := 10) rfl)) (hw _ (List.mem_of_getElem? (i := 11) rfl)) (hw _ (List.mem_of_getElem? (i := 14) rfl)) (hw _ (List.mem_of_getElem? (i := 13) rfl)) (by decide) (own_rm_recinit l Z a0 hw [] a1 h0 n0 Z0) e0 (argsL := []) (stk := [(.ref a1)]) (st := []) own_pd_0 rfl rfl rfl (W := 0) rfl (by decide) (by decide) (by decide) (by decide) own_d_rinit_1 rfl ?_
  intro T1 L1 v1 X1 q1
  obtain ⟨rfl, N1, e1⟩ := q1
  have M1 := Fr.app N0 N1
  show OG.Go _ _ _ _ _ _ _ (T1.setTop (mkF m 4 #[.val (.ref a1), .val (.ref a2), .val (.int p3)] []))
  refine OG.aloadN X1 hx hby own_d_rinit_4 rfl rfl rfl ?_
  refine OG.aloadN X1 hx hby own_d_rinit_5 rfl rfl rfl ?_
  refine OG.pF X1 hx hZ hby hown (hw _ (List.mem_of_getElem? (i := 18) rfl)) Via.refl e1 F1 E1 (Or.inr ⟨(hw _ (List.mem_of_getElem? (i := 19) rfl)), rfl, hnm⟩) (hw _ (List.mem_of_getElem? (i := 5) rfl)) (ty := (.object "com/example/tranchery/tranchery/rating/Agency")) (by decide) rfl rfl own_d_rinit_6 rfl ?_
  intro T2 h2 X2 e2 W2
  have f3 := Fld.same W2 F1
  have N4 := Fr.snoc X2 M1 g1
  refine OG.aloadN X2 hx hby own_d_rinit_9 rfl rfl rfl ?_
  refine OG.iloadN X2 hx hby own_d_rinit_10 rfl rfl ?_
  have f5 := (Fld.other W2 F2 (Or.inr (slot_ne (Or.inr (hw _ (List.mem_of_getElem? (i := 21) rfl))) (Or.inr (hw _ (List.mem_of_getElem? (i := 19) rfl))) (by decide) (t := .int) (t' := (.object "com/example/tranchery/tranchery/rating/Agency")) (by decide) (by decide))))
  have f6 := (Exa.wr W2 E1)
  refine OG.pF X2 hx hZ hby hown (hw _ (List.mem_of_getElem? (i := 20) rfl)) Via.refl e2 f5 f6 (Or.inr ⟨(hw _ (List.mem_of_getElem? (i := 21) rfl)), rfl, hnm⟩) (hw _ (List.mem_of_getElem? (i := 5) rfl)) (ty := .int) (by decide) rfl rfl own_d_rinit_11 rfl ?_
  intro T7 h7 X7 e7 W7
  have f8 := Fld.same W7 f5
  have N9 := Fr.snoc X7 N4 g1
  refine OG.retV X7 hx hby Bd.returns own_d_rinit_14 Bd.notSynchronized (by decide) (by decide) ?_
  have f10 := (Exa.wr W7 f6)
  have f11 := (Fld.other W7 f3 (Or.inr (slot_ne (Or.inr (hw _ (List.mem_of_getElem? (i := 19) rfl))) (Or.inr (hw _ (List.mem_of_getElem? (i := 21) rfl))) (by decide) (t := (.object "com/example/tranchery/tranchery/rating/Agency")) (t' := .int) (by decide) (by decide))))
  rw [e7]
  exact ⟨rfl, N9, (Keep.wr (Keep.wr (Keep.refl h0 [a1]) W2 (Or.inl (by simp))) W7 (Or.inl (by simp))), f10, f11, f8⟩
theorem own_d_meets_0 : decode prog_88_method_2_code 0 = .ok (.aload_n 0, 1) := by decide +kernel
theorem own_d_meets_1 : decode prog_88_method_2_code 1 = .ok (.getfield 13, 3) := by decide +kernel
theorem own_d_meets_4 : decode prog_88_method_2_code 4 = .ok (.aload_n 1, 1) := by decide +kernel
theorem own_d_meets_5 : decode prog_88_method_2_code 5 = .ok (.getfield 13, 3) := by decide +kernel
theorem own_d_meets_8 : decode prog_88_method_2_code 8 = .ok (.if_icmp .gt 7, 3) := by decide +kernel
theorem own_d_meets_11 : decode prog_88_method_2_code 11 = .ok (.iconst 1, 1) := by decide +kernel
theorem own_d_meets_12 : decode prog_88_method_2_code 12 = .ok (.goto 4, 3) := by decide +kernel
theorem own_d_meets_15 : decode prog_88_method_2_code 15 = .ok (.iconst 0, 1) := by decide +kernel
theorem own_d_meets_16 : decode prog_88_method_2_code 16 = .ok (.ireturn, 1) := by decide +kernel
theorem own_pn_meets : plainName "com/example/tranchery/tranchery/rating/Rating" = true := by first | (simp [plainName, overriddenIn]; done) | decide +kernel
theorem own_ef_meets (m : MethodId) (x0 : Addr) (x1 : Addr)  : entryFrame m #[(.ref x0), (.ref x1)] 2 = mkF m 0 #[.val (.ref x0), .val (.ref x1)] [] := by first | (simp [entryFrame, mkF, argsToLocals, Value.category]; done) | rfl
def own_Q_meets (Z : State) (a1 : Addr) (a2 : Addr) (p3 : Int32) (p4 : Int32) (r : Int32) (h0 : Heap) (n0 : Nat) (v : Option Value) (h : Heap) (L : List Loc) : Prop := v = some (.int r) ∧ Fr n0 L ∧ h = h0
set_option maxRecDepth 65536 in
set_option maxHeartbeats 40000000 in
theorem own_rm_meets (l : Launch) (Z : State) (a0 : Array Value) (hw : ∀ d ∈ tables_1, d.before a0 Z = true) (ws : List Jvm.Cond) (a1 : Addr) (a2 : Addr) (p3 : Int32) (p4 : Int32) (r : Int32) (h0 : Heap) (n0 : Nat) (Z0 : n0 ≤ h0.size) (F1 : Fld Z h0 a1 "com/example/tranchery/tranchery/rating/Rating" "rank" "I" (.int p3)) (F2 : Fld Z h0 a2 "com/example/tranchery/tranchery/rating/Rating" "rank" "I" (.int p4)) (hr : (if p4 < p3 then (0 : Int32) else 1) = r) :
    MetFree l (⟨"com/example/tranchery/tranchery/rating/Rating", "meets", "(Lcom/example/tranchery/tranchery/rating/Rating;)Z"⟩ : MethodName) (head1 (Jvm.Cond.code (⟨"com/example/tranchery/tranchery/rating/Rating", "meets", "(Lcom/example/tranchery/tranchery/rating/Rating;)Z"⟩ : MethodName) prog_88_method_2_code 2 (some .boolean) :: ws) ({ frames := 0, cells := 0, slots := 0, locals := 0 } : Room)) (fun a U => a = #[(.ref a1), (.ref a2)] ∧ Z.Warmed39 U.vm ∧ U.heap = h0) (fun _ _ _ _ _ => True) (fun _ U o U' => ∃ v L, o = .returned v ∧ own_Q_meets Z a1 a2 p3 p4 r h0 n0 v U'.heap L ∧ FrameEnd U o U' L ({ frames := 0, cells := 0, slots := 0, locals := 0 } : Room).cells ({ frames := 0, cells := 0, slots := 0, locals := 0 } : Room).slots) := by
  refine MetFree.of_bodySF (plainFor_of_name own_pn_meets) hisR ?_
  intro p e s m args below meth c s₁ Bd hml0 hP hK
  obtain ⟨rfl, hZ, hh⟩ := hP
  have hx := Bd.exec
  have hby := Bd.bytes
  have hml : c.maxLocals = 2 := hml0
  have hown : s.vm.findClass "com/example/tranchery/tranchery/rating/Rating" = some m.cls := findClass_of_methodNamed Bd.named
  have hnm := (name_of_methodNamed Bd.named Bd.method).1
  have X0 : Stand p l e ({ frames := 0, cells := 0, slots := 0, locals := 0 } : Room) s m #[(.ref a1), (.ref a2)] below meth c s₁ [] 0 0 := Stand.of_body Bd
  have e0 : s₁.heap = h0 := by rw [← hh, Bd.state]; rfl
  have N0 := Fr.nil n0
  show OG.Go p.tables e below (own_Q_meets Z a1 a2 p3 p4 r h0 n0) ({ frames := 0, cells := 0, slots := 0, locals := 0 } : Room).cells ({ frames := 0, cells := 0, slots := 0, locals := 0 } : Room).slots s (s₁.setTop (entryFrame m #[(.ref a1), (.ref a2)] 2))
  refine OG.Go.cast (own_ef_meets m a1 a2) ?_
  refine OG.aloadN X0 hx hby own_d_meets_0 rfl rfl rfl ?_
  refine OG.gF X0 hx hZ hby hown (hw _ (List.mem_of_getElem? (i := 20) rfl)) Via.refl e0 F1 own_d_meets_1 rfl ?_
  intro T1 X1 e1
  refine OG.aloadN X1 hx hby own_d_meets_4 rfl rfl rfl ?_
  refine OG.gF X1 hx hZ hby hown (hw _ (List.mem_of_getElem? (i := 20) rfl)) Via.refl e1 F2 own_d_meets_5 rfl ?_
  intro T2 X2 e2
  by_cases hc8_3 : p4 < p3
  · refine OG.icmpYes (pc' := 15) X2 hx hby own_d_meets_8 (tlt hc8_3).2.2.1 (by decide) (by decide) ?_
    refine OG.iconst (v := (0 : Int32)) X2 hx hby own_d_meets_15 (by decide) rfl ?_
    refine OG.retZ X2 hx hby Bd.returns (by simp) own_d_meets_16 Bd.notSynchronized (by decide) (by decide) ?_
    exact ⟨by subst hr; simp [nar, hc8_3], N0, e2⟩
  · refine OG.icmpNo X2 hx hby own_d_meets_8 (flt hc8_3).2.2.1 rfl ?_
    refine OG.iconst (v := (1 : Int32)) X2 hx hby own_d_meets_11 (by decide) rfl ?_
    refine OG.goto (pc' := 16) X2 hx hby own_d_meets_12 (by decide) (by decide) ?_
    refine OG.retZ X2 hx hby Bd.returns (by simp) own_d_meets_16 Bd.notSynchronized (by decide) (by decide) ?_
    exact ⟨by subst hr; simp [nar, hc8_3], N0, e2⟩
theorem own_pn_law : plainName "com/example/tranchery/tranchery/rating/RatingMeetsPinLaw" = true := by first | (simp [plainName, overriddenIn]; done) | decide +kernel
theorem own_ef_law (m : MethodId) (x0 : Int32) (x1 : Int32) (x2 : Int32) (x3 : Int32)  : entryFrame m #[(.int x0), (.int x1), (.int x2), (.int x3)] maxLocals = mkF m 0 #[.val (.int x0), .val (.int x1), .val (.int x2), .val (.int x3), .unset, .unset, .unset, .unset, .unset, .unset, .unset, .unset, .unset, .unset, .unset, .unset, .unset, .unset] [] := by first | (simp [entryFrame, mkF, argsToLocals, Value.category, maxLocals]; done) | rfl
def own_Q_law (Z : State) (p1 : Int32) (p2 : Int32) (p3 : Int32) (p4 : Int32) (w1 : Addr) (w2 : Addr) (h0 : Heap) (n0 : Nat) (v : Option Value) (h : Heap) (L : List Loc) : Prop := v = some (.int (1 : Int32)) ∧ Fr n0 L
set_option maxRecDepth 65536 in
set_option maxHeartbeats 40000000 in
theorem own_rm_law (l : Launch) (Z : State) (a0 : Array Value) (hw : ∀ d ∈ tables_1, d.before a0 Z = true) (ws : List Jvm.Cond) (p1 : Int32) (p2 : Int32) (p3 : Int32) (p4 : Int32) (w1 : Addr) (w2 : Addr) (h0 : Heap) (n0 : Nat) (Z0 : n0 ≤ h0.size) (S_MOODYS : Sta Z h0 "com/example/tranchery/tranchery/rating/Agency" "MOODYS" "Lcom/example/tranchery/tranchery/rating/Agency;" (.ref w1)) (S_S_AND_P : Sta Z h0 "com/example/tranchery/tranchery/rating/Agency" "S_AND_P" "Lcom/example/tranchery/tranchery/rating/Agency;" (.ref w2)) (E_MOODYS : Exa Z h0 w1 "com/example/tranchery/tranchery/rating/Agency") (E_S_AND_P : Exa Z h0 w2 "com/example/tranchery/tranchery/rating/Agency") :
    MetFree l x (head1 (Jvm.Cond.code x code maxLocals ret :: ws) room_1) (fun a U => a = #[(.int p1), (.int p2), (.int p3), (.int p4)] ∧ Z.Warmed39 U.vm ∧ U.heap = h0) (fun _ _ _ _ _ => True) (fun _ U o U' => ∃ v L, o = .returned v ∧ own_Q_law Z p1 p2 p3 p4 w1 w2 h0 n0 v U'.heap L ∧ FrameEnd U o U' L room_1.cells room_1.slots) := by
  refine MetFree.of_bodySF (plainFor_of_name own_pn_law) hisR ?_
  intro p e s m args below meth c s₁ Bd hml0 hP hK
  obtain ⟨rfl, hZ, hh⟩ := hP
  have hx := Bd.exec
  have hby := Bd.bytes
  have hml : c.maxLocals = 18 := hml0
  have hown : s.vm.findClass "com/example/tranchery/tranchery/rating/RatingMeetsPinLaw" = some m.cls := findClass_of_methodNamed Bd.named
  have hnm := (name_of_methodNamed Bd.named Bd.method).1
  have X0 : Stand p l e room_1 s m #[(.int p1), (.int p2), (.int p3), (.int p4)] below meth c s₁ [] 0 0 := Stand.of_body Bd
  have e0 : s₁.heap = h0 := by rw [← hh, Bd.state]; rfl
  have N0 := Fr.nil n0
  show OG.Go p.tables e below (own_Q_law Z p1 p2 p3 p4 w1 w2 h0 n0) room_1.cells room_1.slots s (s₁.setTop (entryFrame m #[(.int p1), (.int p2), (.int p3), (.int p4)] maxLocals))
  refine OG.Go.cast (own_ef_law m p1 p2 p3 p4) ?_
  refine OG.iloadN X0 hx hby at_0 rfl rfl ?_
  refine OG.iconst (v := (1 : Int32)) X0 hx hby at_1 (by decide) rfl ?_
  refine OG.iand X0 hx hby at_2 rfl ?_
  by_cases hc3_1 : (p1 &&& (1 : Int32)) = (0 : Int32)
  · refine OG.ifYes (pc' := 10) X0 hx hby at_3 (teq hc3_1).1 (by decide) (by decide) ?_
    refine OG.iconst (v := (0 : Int32)) X0 hx hby at_10 (by decide) rfl ?_
    refine OG.istore (Ls' := #[.val (.int p1), .val (.int p2), .val (.int p3), .val (.int p4), .val (.int (0 : Int32)), .unset, .unset, .unset, .unset, .unset, .unset, .unset, .unset, .unset, .unset, .unset, .unset, .unset]) X0 hx hby at_11 rfl rfl ?_
    refine OG.iload X0 hx hby at_13 rfl rfl ?_
    refine OG.ifYes (pc' := 24) X0 hx hby at_15 (teq (by decide)).1 (by decide) (by decide) ?_
    refine OG.gS X0 hx hZ hby hown (hw _ (List.mem_of_getElem? (i := 0) rfl)) Via.refl e0 S_S_AND_P at_24 rfl ?_
    intro T2 X2 e2
    refine OG.astore (Ls' := #[.val (.int p1), .val (.int p2), .val (.int p3), .val (.int p4), .val (.int (0 : Int32)), .val (.ref w2), .unset, .unset, .unset, .unset, .unset, .unset, .unset, .unset, .unset, .unset, .unset, .unset]) X2 hx hby at_27 rfl rfl rfl ?_
    refine OG.iload X2 hx hby at_29 rfl rfl ?_
    refine OG.ifYes (pc' := 39) X2 hx hby at_31 (teq (by decide)).1 (by decide) (by decide) ?_
    refine OG.bipush (v := (22 : Int32)) X2 hx hby at_39 (by decide) rfl ?_
    refine OG.istore (Ls' := #[.val (.int p1), .val (.int p2), .val (.int p3), .val (.int p4), .val (.int (0 : Int32)), .val (.ref w2), .val (.int (22 : Int32)), .unset, .unset, .unset, .unset, .unset, .unset, .unset, .unset, .unset, .unset, .unset]) X2 hx hby at_41 rfl rfl ?_
    refine OG.iloadN X2 hx hby at_43 rfl rfl ?_
    refine OG.ldcI (v := (2147483647 : Int32)) X2 hx hZ hby hown (hw _ (List.mem_of_getElem? (i := 3) rfl)) at_44 rfl ?_
    refine OG.iand X2 hx hby at_46 rfl ?_
    refine OG.iload X2 hx hby at_47 rfl rfl ?_
    refine OG.irem X2 hx hby at_49 (by decide) rfl ?_
    generalize ((p2 &&& (2147483647 : Int32)) % (22 : Int32)) = vA
    refine OG.istore (Ls' := #[.val (.int p1), .val (.int p2), .val (.int p3), .val (.int p4), .val (.int (0 : Int32)), .val (.ref w2), .val (.int (22 : Int32)), .val (.int vA), .unset, .unset, .unset, .unset, .unset, .unset, .unset, .unset, .unset, .unset]) X2 hx hby at_50 rfl rfl ?_
    refine OG.iloadN X2 hx hby at_52 rfl rfl ?_
    refine OG.ldcI (v := (2147483647 : Int32)) X2 hx hZ hby hown (hw _ (List.mem_of_getElem? (i := 3) rfl)) at_53 rfl ?_
    refine OG.iand X2 hx hby at_55 rfl ?_
    refine OG.iload X2 hx hby at_56 rfl rfl ?_
    refine OG.irem X2 hx hby at_58 (by decide) rfl ?_
    generalize ((p3 &&& (2147483647 : Int32)) % (22 : Int32)) = vB
    refine OG.istore (Ls' := #[.val (.int p1), .val (.int p2), .val (.int p3), .val (.int p4), .val (.int (0 : Int32)), .val (.ref w2), .val (.int (22 : Int32)), .val (.int vA), .val (.int vB), .unset, .unset, .unset, .unset, .unset, .unset, .unset, .unset, .unset]) X2 hx hby at_59 rfl rfl ?_
    refine OG.iloadN X2 hx hby at_61 rfl rfl ?_
    refine OG.ldcI (v := (2147483647 : Int32)) X2 hx hZ hby hown (hw _ (List.mem_of_getElem? (i := 3) rfl)) at_62 rfl ?_
    refine OG.iand X2 hx hby at_64 rfl ?_
    refine OG.iload X2 hx hby at_65 rfl rfl ?_
    refine OG.irem X2 hx hby at_67 (by decide) rfl ?_
    generalize ((p4 &&& (2147483647 : Int32)) % (22 : Int32)) = vC
    refine OG.istore (Ls' := #[.val (.int p1), .val (.int p2), .val (.int p3), .val (.int p4), .val (.int (0 : Int32)), .val (.ref w2), .val (.int (22 : Int32)), .val (.int vA), .val (.int vB), .val (.int vC), .unset, .unset, .unset, .unset, .unset, .unset, .unset, .unset]) X2 hx hby at_68 rfl rfl ?_
    refine OG.nO X2 hx hZ hby hown (hw _ (List.mem_of_getElem? (i := 4) rfl)) (hw _ (List.mem_of_getElem? (i := 5) rfl)) (hw _ (List.mem_of_getElem? (i := 6) rfl)) e2 at_70 (by decide) (by decide) rfl ?_
    intro T3 h3 b3 g3 X3 e3 E3 A3 D3
    have ne4 : w1 ≠ b3 := Nat.ne_of_lt (Nat.lt_of_lt_of_le (Exa.lt E_MOODYS) (Nat.le_of_eq g3.symm))
    have ne5 : w2 ≠ b3 := Nat.ne_of_lt (Nat.lt_of_lt_of_le (Exa.lt E_S_AND_P) (Nat.le_of_eq g3.symm))
    have gn6 : n0 ≤ b3 := Nat.le_trans Z0 (Nat.le_of_eq g3.symm)
    have sz7 : h0.size ≤ b3 := Nat.le_trans (Nat.le_refl _) (Nat.le_of_eq g3.symm)
    have f8 : Fld Z h3 b3 "com/example/tranchery/tranchery/rating/Rating" "agency" "Lcom/example/tranchery/tranchery/rating/Agency;" .null := D3 (Or.inr (hw _ (List.mem_of_getElem? (i := 19) rfl))) (ty := (.object "com/example/tranchery/tranchery/rating/Agency")) (by decide)
    have f9 : Fld Z h3 b3 "com/example/tranchery/tranchery/rating/Rating" "rank" "I" (.int (0 : Int32)) := D3 (Or.inr (hw _ (List.mem_of_getElem? (i := 21) rfl))) (ty := .int) (by decide)
    refine OG.dup X3 hx hby at_73 rfl rfl ?_
    refine OG.aload X3 hx hby at_74 rfl rfl rfl ?_
    refine OG.iload X3 hx hby at_76 rfl rfl ?_
    refine OG.cN X3 hx hZ hby (by rw [hml]; rfl) hown (y := (⟨"com/example/tranchery/tranchery/rating/Rating", "<init>", "(Lcom/example/tranchery/tranchery/rating/Agency;I)V"⟩ : MethodName)) rfl rfl (hw _ (List.mem_of_getElem? (i := 7) rfl)) (hw _ (List.mem_of_getElem? (i := 8) rfl)) (hw _ (List.mem_of_getElem? (i := 9) rfl)) (hw _ (List.mem_of_getElem? (i := 6) rfl)) (by decide) (own_rm_rinit l Z a0 hw [] b3 w2 vA h3 n0 (Nat.le_trans Z0 E3.1) A3 f8 f9 gn6) e3 (argsL := [(.ref w2), (.int vA)]) (stk := [(.int vA), (.ref w2), (.ref b3), (.ref b3)]) (st := [(.ref b3)]) own_pd_1 rfl rfl rfl (W := 1) rfl (by decide) (by decide) (by decide) (by decide) at_78 rfl ?_
    intro T10 L10 v10 X10 q10
    obtain ⟨rfl, N10, K10, Ea10, Fa10, Fb10⟩ := q10
    have M10 := Fr.app N0 N10
    show OG.Go _ _ _ _ _ _ _ (T10.setTop (mkF m 81 #[.val (.int p1), .val (.int p2), .val (.int p3), .val (.int p4), .val (.int (0 : Int32)), .val (.ref w2), .val (.int (22 : Int32)), .val (.int vA), .val (.int vB), .val (.int vC), .unset, .unset, .unset, .unset, .unset, .unset, .unset, .unset] [(.ref b3)]))
    refine OG.astore (Ls' := #[.val (.int p1), .val (.int p2), .val (.int p3), .val (.int p4), .val (.int (0 : Int32)), .val (.ref w2), .val (.int (22 : Int32)), .val (.int vA), .val (.int vB), .val (.int vC), .val (.ref b3), .unset, .unset, .unset, .unset, .unset, .unset, .unset]) X10 hx hby at_81 rfl rfl rfl ?_
    refine OG.nO X10 hx hZ hby hown (hw _ (List.mem_of_getElem? (i := 4) rfl)) (hw _ (List.mem_of_getElem? (i := 5) rfl)) (hw _ (List.mem_of_getElem? (i := 6) rfl)) rfl at_83 (by decide) (by decide) rfl ?_
    intro T11 h11 b11 g11 X11 e11 E11 A11 D11
    have f12 := (Exa.keep (Exa.ext E3 E_MOODYS) K10)
    have ne13 : w1 ≠ b11 := Nat.ne_of_lt (Nat.lt_of_lt_of_le (Exa.lt f12) (Nat.le_of_eq g11.symm))
    have f14 := (Exa.keep (Exa.ext E3 E_S_AND_P) K10)
    have ne15 : w2 ≠ b11 := Nat.ne_of_lt (Nat.lt_of_lt_of_le (Exa.lt f14) (Nat.le_of_eq g11.symm))
    have ne16 : b3 ≠ b11 := Nat.ne_of_lt (Nat.lt_of_lt_of_le (Exa.lt Ea10) (Nat.le_of_eq g11.symm))
    have gn17 : n0 ≤ b11 := Nat.le_trans (Nat.le_trans (Nat.le_trans Z0 E3.1) K10.1) (Nat.le_of_eq g11.symm)
    have sz18 : h0.size ≤ b11 := Nat.le_trans (Nat.le_trans (Nat.le_trans (Nat.le_refl _) E3.1) K10.1) (Nat.le_of_eq g11.symm)
    have f19 : Fld Z h11 b11 "com/example/tranchery/tranchery/rating/Rating" "agency" "Lcom/example/tranchery/tranchery/rating/Agency;" .null := D11 (Or.inr (hw _ (List.mem_of_getElem? (i := 19) rfl))) (ty := (.object "com/example/tranchery/tranchery/rating/Agency")) (by decide)
    have f20 : Fld Z h11 b11 "com/example/tranchery/tranchery/rating/Rating" "rank" "I" (.int (0 : Int32)) := D11 (Or.inr (hw _ (List.mem_of_getElem? (i := 21) rfl))) (ty := .int) (by decide)
    refine OG.dup X11 hx hby at_86 rfl rfl ?_
    refine OG.aload X11 hx hby at_87 rfl rfl rfl ?_
    refine OG.iload X11 hx hby at_89 rfl rfl ?_
    refine OG.cN X11 hx hZ hby (by rw [hml]; rfl) hown (y := (⟨"com/example/tranchery/tranchery/rating/Rating", "<init>", "(Lcom/example/tranchery/tranchery/rating/Agency;I)V"⟩ : MethodName)) rfl rfl (hw _ (List.mem_of_getElem? (i := 7) rfl)) (hw _ (List.mem_of_getElem? (i := 8) rfl)) (hw _ (List.mem_of_getElem? (i := 9) rfl)) (hw _ (List.mem_of_getElem? (i := 6) rfl)) (by decide) (own_rm_rinit l Z a0 hw [] b11 w2 vB h11 n0 (Nat.le_trans (Nat.le_trans (Nat.le_trans Z0 E3.1) K10.1) E11.1) A11 f19 f20 gn17) e11 (argsL := [(.ref w2), (.int vB)]) (stk := [(.int vB), (.ref w2), (.ref b11), (.ref b11)]) (st := [(.ref b11)]) own_pd_1 rfl rfl rfl (W := 1) rfl (by decide) (by decide) (by decide) (by decide) at_91 rfl ?_
    intro T21 L21 v21 X21 q21
    obtain ⟨rfl, N21, K21, Ea21, Fa21, Fb21⟩ := q21
    have M21 := Fr.app M10 N21
    show OG.Go _ _ _ _ _ _ _ (T21.setTop (mkF m 94 #[.val (.int p1), .val (.int p2), .val (.int p3), .val (.int p4), .val (.int (0 : Int32)), .val (.ref w2), .val (.int (22 : Int32)), .val (.int vA), .val (.int vB), .val (.int vC), .val (.ref b3), .unset, .unset, .unset, .unset, .unset, .unset, .unset] [(.ref b11)]))
    refine OG.astore (Ls' := #[.val (.int p1), .val (.int p2), .val (.int p3), .val (.int p4), .val (.int (0 : Int32)), .val (.ref w2), .val (.int (22 : Int32)), .val (.int vA), .val (.int vB), .val (.int vC), .val (.ref b3), .val (.ref b11), .unset, .unset, .unset, .unset, .unset, .unset]) X21 hx hby at_94 rfl rfl rfl ?_
    refine OG.nO X21 hx hZ hby hown (hw _ (List.mem_of_getElem? (i := 4) rfl)) (hw _ (List.mem_of_getElem? (i := 5) rfl)) (hw _ (List.mem_of_getElem? (i := 6) rfl)) rfl at_96 (by decide) (by decide) rfl ?_
    intro T22 h22 b22 g22 X22 e22 E22 A22 D22
    have f23 := (Exa.keep (Exa.ext E11 f12) K21)
    have ne24 : w1 ≠ b22 := Nat.ne_of_lt (Nat.lt_of_lt_of_le (Exa.lt f23) (Nat.le_of_eq g22.symm))
    have f25 := (Exa.keep (Exa.ext E11 f14) K21)
    have ne26 : w2 ≠ b22 := Nat.ne_of_lt (Nat.lt_of_lt_of_le (Exa.lt f25) (Nat.le_of_eq g22.symm))
    have f27 := (Exa.keep (Exa.ext E11 Ea10) K21)
    have ne28 : b3 ≠ b22 := Nat.ne_of_lt (Nat.lt_of_lt_of_le (Exa.lt f27) (Nat.le_of_eq g22.symm))
    have ne29 : b11 ≠ b22 := Nat.ne_of_lt (Nat.lt_of_lt_of_le (Exa.lt Ea21) (Nat.le_of_eq g22.symm))
    have gn30 : n0 ≤ b22 := Nat.le_trans (Nat.le_trans (Nat.le_trans (Nat.le_trans (Nat.le_trans Z0 E3.1) K10.1) E11.1) K21.1) (Nat.le_of_eq g22.symm)
    have sz31 : h0.size ≤ b22 := Nat.le_trans (Nat.le_trans (Nat.le_trans (Nat.le_trans (Nat.le_trans (Nat.le_refl _) E3.1) K10.1) E11.1) K21.1) (Nat.le_of_eq g22.symm)
    have f32 : Fld Z h22 b22 "com/example/tranchery/tranchery/rating/Rating" "agency" "Lcom/example/tranchery/tranchery/rating/Agency;" .null := D22 (Or.inr (hw _ (List.mem_of_getElem? (i := 19) rfl))) (ty := (.object "com/example/tranchery/tranchery/rating/Agency")) (by decide)
    have f33 : Fld Z h22 b22 "com/example/tranchery/tranchery/rating/Rating" "rank" "I" (.int (0 : Int32)) := D22 (Or.inr (hw _ (List.mem_of_getElem? (i := 21) rfl))) (ty := .int) (by decide)
    refine OG.dup X22 hx hby at_99 rfl rfl ?_
    refine OG.aload X22 hx hby at_100 rfl rfl rfl ?_
    refine OG.iload X22 hx hby at_102 rfl rfl ?_
    refine OG.cN X22 hx hZ hby (by rw [hml]; rfl) hown (y := (⟨"com/example/tranchery/tranchery/rating/Rating", "<init>", "(Lcom/example/tranchery/tranchery/rating/Agency;I)V"⟩ : MethodName)) rfl rfl (hw _ (List.mem_of_getElem? (i := 7) rfl)) (hw _ (List.mem_of_getElem? (i := 8) rfl)) (hw _ (List.mem_of_getElem? (i := 9) rfl)) (hw _ (List.mem_of_getElem? (i := 6) rfl)) (by decide) (own_rm_rinit l Z a0 hw [] b22 w2 vC h22 n0 (Nat.le_trans (Nat.le_trans (Nat.le_trans (Nat.le_trans (Nat.le_trans Z0 E3.1) K10.1) E11.1) K21.1) E22.1) A22 f32 f33 gn30) e22 (argsL := [(.ref w2), (.int vC)]) (stk := [(.int vC), (.ref w2), (.ref b22), (.ref b22)]) (st := [(.ref b22)]) own_pd_1 rfl rfl rfl (W := 1) rfl (by decide) (by decide) (by decide) (by decide) at_104 rfl ?_
    intro T34 L34 v34 X34 q34
    obtain ⟨rfl, N34, K34, Ea34, Fa34, Fb34⟩ := q34
    have M34 := Fr.app M21 N34
    show OG.Go _ _ _ _ _ _ _ (T34.setTop (mkF m 107 #[.val (.int p1), .val (.int p2), .val (.int p3), .val (.int p4), .val (.int (0 : Int32)), .val (.ref w2), .val (.int (22 : Int32)), .val (.int vA), .val (.int vB), .val (.int vC), .val (.ref b3), .val (.ref b11), .unset, .unset, .unset, .unset, .unset, .unset] [(.ref b22)]))
    refine OG.astore (Ls' := #[.val (.int p1), .val (.int p2), .val (.int p3), .val (.int p4), .val (.int (0 : Int32)), .val (.ref w2), .val (.int (22 : Int32)), .val (.int vA), .val (.int vB), .val (.int vC), .val (.ref b3), .val (.ref b11), .val (.ref b22), .unset, .unset, .unset, .unset, .unset]) X34 hx hby at_107 rfl rfl rfl ?_
    by_cases k1 : vB < vA
    · have k2 : ¬ vA < vB := Int32.not_lt.mpr (Int32.le_of_lt k1)
      have k0 : ¬ vA = vB := fun q => by subst q; exact Int32.lt_irrefl k1
      by_cases k3 : vC < vB
      · by_cases k4 : vC < vA
        · refine OG.aload X34 hx hby at_109 rfl rfl rfl ?_
          refine OG.aload X34 hx hby at_111 rfl rfl rfl ?_
          have f36 := (Fld.keep (Fld.ext E22 (Fld.keep (Fld.ext E11 Fb10) K21 (ninS ne16 nin0))) K34 (ninS ne28 nin0))
          have f37 := (Exa.keep (Exa.ext E22 f27) K34)
          refine OG.cV X34 hx hZ hby (by rw [hml]; rfl) hown (y := (⟨"com/example/tranchery/tranchery/rating/Rating", "meets", "(Lcom/example/tranchery/tranchery/rating/Rating;)Z"⟩ : MethodName)) (z := (⟨"com/example/tranchery/tranchery/rating/Rating", "meets", "(Lcom/example/tranchery/tranchery/rating/Rating;)Z"⟩ : MethodName)) (hw _ (List.mem_of_getElem? (i := 22) rfl)) (hw _ (List.mem_of_getElem? (i := 23) rfl)) (notFace_of_selects (args := #[]) (mvT hZ (hw _ (List.mem_of_getElem? (i := 25) rfl)))) (hw _ (List.mem_of_getElem? (i := 25) rfl)) (hw _ (List.mem_of_getElem? (i := 24) rfl)) (hw _ (List.mem_of_getElem? (i := 26) rfl)) (hw _ (List.mem_of_getElem? (i := 6) rfl)) (by decide) (own_rm_meets l Z a0 hw [] b3 b3 vA vA (1 : Int32) T34.heap n0 (Nat.le_trans (Nat.le_trans (Nat.le_trans (Nat.le_trans (Nat.le_trans (Nat.le_trans Z0 E3.1) K10.1) E11.1) K21.1) E22.1) K34.1) f36 f36 (by simp)) f37 rfl (argsL := [(.ref b3)]) (stk := [(.ref b3), (.ref b3)]) (st := []) own_pd_2 rfl rfl rfl (W := 0) rfl (by decide) (by decide) (by decide) (by decide) at_113 rfl ?_
          intro T35 L35 v35 X35 q35
          obtain ⟨rfl, N35, e35⟩ := q35
          have M35 := Fr.app M34 N35
          show OG.Go _ _ _ _ _ _ _ (T35.setTop (mkF m 116 #[.val (.int p1), .val (.int p2), .val (.int p3), .val (.int p4), .val (.int (0 : Int32)), .val (.ref w2), .val (.int (22 : Int32)), .val (.int vA), .val (.int vB), .val (.int vC), .val (.ref b3), .val (.ref b11), .val (.ref b22), .unset, .unset, .unset, .unset, .unset] [(.int (1 : Int32))]))
          refine OG.istore (Ls' := #[.val (.int p1), .val (.int p2), .val (.int p3), .val (.int p4), .val (.int (0 : Int32)), .val (.ref w2), .val (.int (22 : Int32)), .val (.int vA), .val (.int vB), .val (.int vC), .val (.ref b3), .val (.ref b11), .val (.ref b22), .val (.int (1 : Int32)), .unset, .unset, .unset, .unset]) X35 hx hby at_116 rfl rfl ?_
          refine OG.aload X35 hx hby at_118 rfl rfl rfl ?_
          refine OG.aload X35 hx hby at_120 rfl rfl rfl ?_
          have f39 := (Fld.keep (Fld.ext E22 Fb21) K34 (ninS ne29 nin0))
          refine OG.cV X35 hx hZ hby (by rw [hml]; rfl) hown (y := (⟨"com/example/tranchery/tranchery/rating/Rating", "meets", "(Lcom/example/tranchery/tranchery/rating/Rating;)Z"⟩ : MethodName)) (z := (⟨"com/example/tranchery/tranchery/rating/Rating", "meets", "(Lcom/example/tranchery/tranchery/rating/Rating;)Z"⟩ : MethodName)) (hw _ (List.mem_of_getElem? (i := 22) rfl)) (hw _ (List.mem_of_getElem? (i := 23) rfl)) (notFace_of_selects (args := #[]) (mvT hZ (hw _ (List.mem_of_getElem? (i := 25) rfl)))) (hw _ (List.mem_of_getElem? (i := 25) rfl)) (hw _ (List.mem_of_getElem? (i := 24) rfl)) (hw _ (List.mem_of_getElem? (i := 26) rfl)) (hw _ (List.mem_of_getElem? (i := 6) rfl)) (by decide) (own_rm_meets l Z a0 hw [] b3 b11 vA vB (0 : Int32) T34.heap n0 (Nat.le_trans (Nat.le_trans (Nat.le_trans (Nat.le_trans (Nat.le_trans (Nat.le_trans Z0 E3.1) K10.1) E11.1) K21.1) E22.1) K34.1) f36 f39 (by simp [k1])) f37 e35 (argsL := [(.ref b11)]) (stk := [(.ref b11), (.ref b3)]) (st := []) own_pd_2 rfl rfl rfl (W := 0) rfl (by decide) (by decide) (by decide) (by decide) at_122 rfl ?_
          intro T38 L38 v38 X38 q38
          obtain ⟨rfl, N38, e38⟩ := q38
          have M38 := Fr.app M35 N38
          show OG.Go _ _ _ _ _ _ _ (T38.setTop (mkF m 125 #[.val (.int p1), .val (.int p2), .val (.int p3), .val (.int p4), .val (.int (0 : Int32)), .val (.ref w2), .val (.int (22 : Int32)), .val (.int vA), .val (.int vB), .val (.int vC), .val (.ref b3), .val (.ref b11), .val (.ref b22), .val (.int (1 : Int32)), .unset, .unset, .unset, .unset] [(.int (0 : Int32))]))
          refine OG.istore (Ls' := #[.val (.int p1), .val (.int p2), .val (.int p3), .val (.int p4), .val (.int (0 : Int32)), .val (.ref w2), .val (.int (22 : Int32)), .val (.int vA), .val (.int vB), .val (.int vC), .val (.ref b3), .val (.ref b11), .val (.ref b22), .val (.int (1 : Int32)), .val (.int (0 : Int32)), .unset, .unset, .unset]) X38 hx hby at_125 rfl rfl ?_
          refine OG.aload X38 hx hby at_127 rfl rfl rfl ?_
          refine OG.aload X38 hx hby at_129 rfl rfl rfl ?_
          have f41 := (Exa.keep (Exa.ext E22 Ea21) K34)
          refine OG.cV X38 hx hZ hby (by rw [hml]; rfl) hown (y := (⟨"com/example/tranchery/tranchery/rating/Rating", "meets", "(Lcom/example/tranchery/tranchery/rating/Rating;)Z"⟩ : MethodName)) (z := (⟨"com/example/tranchery/tranchery/rating/Rating", "meets", "(Lcom/example/tranchery/tranchery/rating/Rating;)Z"⟩ : MethodName)) (hw _ (List.mem_of_getElem? (i := 22) rfl)) (hw _ (List.mem_of_getElem? (i := 23) rfl)) (notFace_of_selects (args := #[]) (mvT hZ (hw _ (List.mem_of_getElem? (i := 25) rfl)))) (hw _ (List.mem_of_getElem? (i := 25) rfl)) (hw _ (List.mem_of_getElem? (i := 24) rfl)) (hw _ (List.mem_of_getElem? (i := 26) rfl)) (hw _ (List.mem_of_getElem? (i := 6) rfl)) (by decide) (own_rm_meets l Z a0 hw [] b11 b3 vB vA (1 : Int32) T34.heap n0 (Nat.le_trans (Nat.le_trans (Nat.le_trans (Nat.le_trans (Nat.le_trans (Nat.le_trans Z0 E3.1) K10.1) E11.1) K21.1) E22.1) K34.1) f39 f36 (by simp [k2])) f41 e38 (argsL := [(.ref b3)]) (stk := [(.ref b3), (.ref b11)]) (st := []) own_pd_2 rfl rfl rfl (W := 0) rfl (by decide) (by decide) (by decide) (by decide) at_131 rfl ?_
          intro T40 L40 v40 X40 q40
          obtain ⟨rfl, N40, e40⟩ := q40
          have M40 := Fr.app M38 N40
          show OG.Go _ _ _ _ _ _ _ (T40.setTop (mkF m 134 #[.val (.int p1), .val (.int p2), .val (.int p3), .val (.int p4), .val (.int (0 : Int32)), .val (.ref w2), .val (.int (22 : Int32)), .val (.int vA), .val (.int vB), .val (.int vC), .val (.ref b3), .val (.ref b11), .val (.ref b22), .val (.int (1 : Int32)), .val (.int (0 : Int32)), .unset, .unset, .unset] [(.int (1 : Int32))]))
          refine OG.istore (Ls' := #[.val (.int p1), .val (.int p2), .val (.int p3), .val (.int p4), .val (.int (0 : Int32)), .val (.ref w2), .val (.int (22 : Int32)), .val (.int vA), .val (.int vB), .val (.int vC), .val (.ref b3), .val (.ref b11), .val (.ref b22), .val (.int (1 : Int32)), .val (.int (0 : Int32)), .val (.int (1 : Int32)), .unset, .unset]) X40 hx hby at_134 rfl rfl ?_
          refine OG.aload X40 hx hby at_136 rfl rfl rfl ?_
          refine OG.aload X40 hx hby at_138 rfl rfl rfl ?_
          refine OG.cV X40 hx hZ hby (by rw [hml]; rfl) hown (y := (⟨"com/example/tranchery/tranchery/rating/Rating", "meets", "(Lcom/example/tranchery/tranchery/rating/Rating;)Z"⟩ : MethodName)) (z := (⟨"com/example/tranchery/tranchery/rating/Rating", "meets", "(Lcom/example/tranchery/tranchery/rating/Rating;)Z"⟩ : MethodName)) (hw _ (List.mem_of_getElem? (i := 22) rfl)) (hw _ (List.mem_of_getElem? (i := 23) rfl)) (notFace_of_selects (args := #[]) (mvT hZ (hw _ (List.mem_of_getElem? (i := 25) rfl)))) (hw _ (List.mem_of_getElem? (i := 25) rfl)) (hw _ (List.mem_of_getElem? (i := 24) rfl)) (hw _ (List.mem_of_getElem? (i := 26) rfl)) (hw _ (List.mem_of_getElem? (i := 6) rfl)) (by decide) (own_rm_meets l Z a0 hw [] b11 b22 vB vC (0 : Int32) T34.heap n0 (Nat.le_trans (Nat.le_trans (Nat.le_trans (Nat.le_trans (Nat.le_trans (Nat.le_trans Z0 E3.1) K10.1) E11.1) K21.1) E22.1) K34.1) f39 Fb34 (by simp [k3])) f41 e40 (argsL := [(.ref b22)]) (stk := [(.ref b22), (.ref b11)]) (st := []) own_pd_2 rfl rfl rfl (W := 0) rfl (by decide) (by decide) (by decide) (by decide) at_140 rfl ?_
          intro T42 L42 v42 X42 q42
          obtain ⟨rfl, N42, e42⟩ := q42
          have M42 := Fr.app M40 N42
          show OG.Go _ _ _ _ _ _ _ (T42.setTop (mkF m 143 #[.val (.int p1), .val (.int p2), .val (.int p3), .val (.int p4), .val (.int (0 : Int32)), .val (.ref w2), .val (.int (22 : Int32)), .val (.int vA), .val (.int vB), .val (.int vC), .val (.ref b3), .val (.ref b11), .val (.ref b22), .val (.int (1 : Int32)), .val (.int (0 : Int32)), .val (.int (1 : Int32)), .unset, .unset] [(.int (0 : Int32))]))
          refine OG.istore (Ls' := #[.val (.int p1), .val (.int p2), .val (.int p3), .val (.int p4), .val (.int (0 : Int32)), .val (.ref w2), .val (.int (22 : Int32)), .val (.int vA), .val (.int vB), .val (.int vC), .val (.ref b3), .val (.ref b11), .val (.ref b22), .val (.int (1 : Int32)), .val (.int (0 : Int32)), .val (.int (1 : Int32)), .val (.int (0 : Int32)), .unset]) X42 hx hby at_143 rfl rfl ?_
          refine OG.aload X42 hx hby at_145 rfl rfl rfl ?_
          refine OG.aload X42 hx hby at_147 rfl rfl rfl ?_
          refine OG.cV X42 hx hZ hby (by rw [hml]; rfl) hown (y := (⟨"com/example/tranchery/tranchery/rating/Rating", "meets", "(Lcom/example/tranchery/tranchery/rating/Rating;)Z"⟩ : MethodName)) (z := (⟨"com/example/tranchery/tranchery/rating/Rating", "meets", "(Lcom/example/tranchery/tranchery/rating/Rating;)Z"⟩ : MethodName)) (hw _ (List.mem_of_getElem? (i := 22) rfl)) (hw _ (List.mem_of_getElem? (i := 23) rfl)) (notFace_of_selects (args := #[]) (mvT hZ (hw _ (List.mem_of_getElem? (i := 25) rfl)))) (hw _ (List.mem_of_getElem? (i := 25) rfl)) (hw _ (List.mem_of_getElem? (i := 24) rfl)) (hw _ (List.mem_of_getElem? (i := 26) rfl)) (hw _ (List.mem_of_getElem? (i := 6) rfl)) (by decide) (own_rm_meets l Z a0 hw [] b3 b22 vA vC (0 : Int32) T34.heap n0 (Nat.le_trans (Nat.le_trans (Nat.le_trans (Nat.le_trans (Nat.le_trans (Nat.le_trans Z0 E3.1) K10.1) E11.1) K21.1) E22.1) K34.1) f36 Fb34 (by simp [k4])) f37 e42 (argsL := [(.ref b22)]) (stk := [(.ref b22), (.ref b3)]) (st := []) own_pd_2 rfl rfl rfl (W := 0) rfl (by decide) (by decide) (by decide) (by decide) at_149 rfl ?_
          intro T43 L43 v43 X43 q43
          obtain ⟨rfl, N43, e43⟩ := q43
          have M43 := Fr.app M42 N43
          show OG.Go _ _ _ _ _ _ _ (T43.setTop (mkF m 152 #[.val (.int p1), .val (.int p2), .val (.int p3), .val (.int p4), .val (.int (0 : Int32)), .val (.ref w2), .val (.int (22 : Int32)), .val (.int vA), .val (.int vB), .val (.int vC), .val (.ref b3), .val (.ref b11), .val (.ref b22), .val (.int (1 : Int32)), .val (.int (0 : Int32)), .val (.int (1 : Int32)), .val (.int (0 : Int32)), .unset] [(.int (0 : Int32))]))
          refine OG.istore (Ls' := #[.val (.int p1), .val (.int p2), .val (.int p3), .val (.int p4), .val (.int (0 : Int32)), .val (.ref w2), .val (.int (22 : Int32)), .val (.int vA), .val (.int vB), .val (.int vC), .val (.ref b3), .val (.ref b11), .val (.ref b22), .val (.int (1 : Int32)), .val (.int (0 : Int32)), .val (.int (1 : Int32)), .val (.int (0 : Int32)), .val (.int (0 : Int32))]) X43 hx hby at_152 rfl rfl ?_
          refine OG.iload X43 hx hby at_154 rfl rfl ?_
          refine OG.ifYes (pc' := 161) X43 hx hby at_156 (feq (by decide)).2 (by decide) (by decide) ?_
          refine OG.iload X43 hx hby at_161 rfl rfl ?_
          refine OG.ifNo X43 hx hby at_163 (teq (by decide)).2 rfl ?_
          refine OG.iload X43 hx hby at_166 rfl rfl ?_
          refine OG.ifYes (pc' := 173) X43 hx hby at_168 (feq (by decide)).2 (by decide) (by decide) ?_
          refine OG.iload X43 hx hby at_173 rfl rfl ?_
          refine OG.ifYes (pc' := 187) X43 hx hby at_175 (teq (by decide)).1 (by decide) (by decide) ?_
          refine OG.iconst (v := (0 : Int32)) X43 hx hby at_187 (by decide) rfl ?_
          refine OG.iload X43 hx hby at_188 rfl rfl ?_
          refine OG.iload X43 hx hby at_190 rfl rfl ?_
          refine OG.icmpYes (pc' := 199) X43 hx hby at_192 (feq k0).2 (by decide) (by decide) ?_
          refine OG.iconst (v := (0 : Int32)) X43 hx hby at_199 (by decide) rfl ?_
          refine OG.icmpYes (pc' := 205) X43 hx hby at_200 (teq (by decide)).1 (by decide) (by decide) ?_
          refine OG.iload X43 hx hby at_205 rfl rfl ?_
          refine OG.iload X43 hx hby at_207 rfl rfl ?_
          refine OG.icmpYes (pc' := 224) X43 hx hby at_209 (flt k2).2.1 (by decide) (by decide) ?_
          refine OG.iload X43 hx hby at_224 rfl rfl ?_
          refine OG.iload X43 hx hby at_226 rfl rfl ?_
          refine OG.icmpNo X43 hx hby at_228 (tlt k1).2.1 rfl ?_
          refine OG.iload X43 hx hby at_231 rfl rfl ?_
          refine OG.ifNo X43 hx hby at_233 (feq (by decide)).1 rfl ?_
          refine OG.iload X43 hx hby at_236 rfl rfl ?_
          refine OG.ifYes (pc' := 243) X43 hx hby at_238 (teq (by decide)).1 (by decide) (by decide) ?_
          refine OG.iload X43 hx hby at_243 rfl rfl ?_
          refine OG.ifYes (pc' := 260) X43 hx hby at_245 (teq (by decide)).1 (by decide) (by decide) ?_
          refine OG.iconst (v := (1 : Int32)) X43 hx hby at_260 (by decide) rfl ?_
          refine OG.retZ X43 hx hby Bd.returns (by simp) at_261 Bd.notSynchronized (by decide) (by decide) ?_
          exact ⟨rfl, M43⟩
        · refine OG.aload X34 hx hby at_109 rfl rfl rfl ?_
          refine OG.aload X34 hx hby at_111 rfl rfl rfl ?_
          have f45 := (Fld.keep (Fld.ext E22 (Fld.keep (Fld.ext E11 Fb10) K21 (ninS ne16 nin0))) K34 (ninS ne28 nin0))
          have f46 := (Exa.keep (Exa.ext E22 f27) K34)
          refine OG.cV X34 hx hZ hby (by rw [hml]; rfl) hown (y := (⟨"com/example/tranchery/tranchery/rating/Rating", "meets", "(Lcom/example/tranchery/tranchery/rating/Rating;)Z"⟩ : MethodName)) (z := (⟨"com/example/tranchery/tranchery/rating/Rating", "meets", "(Lcom/example/tranchery/tranchery/rating/Rating;)Z"⟩ : MethodName)) (hw _ (List.mem_of_getElem? (i := 22) rfl)) (hw _ (List.mem_of_getElem? (i := 23) rfl)) (notFace_of_selects (args := #[]) (mvT hZ (hw _ (List.mem_of_getElem? (i := 25) rfl)))) (hw _ (List.mem_of_getElem? (i := 25) rfl)) (hw _ (List.mem_of_getElem? (i := 24) rfl)) (hw _ (List.mem_of_getElem? (i := 26) rfl)) (hw _ (List.mem_of_getElem? (i := 6) rfl)) (by decide) (own_rm_meets l Z a0 hw [] b3 b3 vA vA (1 : Int32) T34.heap n0 (Nat.le_trans (Nat.le_trans (Nat.le_trans (Nat.le_trans (Nat.le_trans (Nat.le_trans Z0 E3.1) K10.1) E11.1) K21.1) E22.1) K34.1) f45 f45 (by simp)) f46 rfl (argsL := [(.ref b3)]) (stk := [(.ref b3), (.ref b3)]) (st := []) own_pd_2 rfl rfl rfl (W := 0) rfl (by decide) (by decide) (by decide) (by decide) at_113 rfl ?_
          intro T44 L44 v44 X44 q44
          obtain ⟨rfl, N44, e44⟩ := q44
          have M44 := Fr.app M34 N44
          show OG.Go _ _ _ _ _ _ _ (T44.setTop (mkF m 116 #[.val (.int p1), .val (.int p2), .val (.int p3), .val (.int p4), .val (.int (0 : Int32)), .val (.ref w2), .val (.int (22 : Int32)), .val (.int vA), .val (.int vB), .val (.int vC), .val (.ref b3), .val (.ref b11), .val (.ref b22), .unset, .unset, .unset, .unset, .unset] [(.int (1 : Int32))]))
          refine OG.istore (Ls' := #[.val (.int p1), .val (.int p2), .val (.int p3), .val (.int p4), .val (.int (0 : Int32)), .val (.ref w2), .val (.int (22 : Int32)), .val (.int vA), .val (.int vB), .val (.int vC), .val (.ref b3), .val (.ref b11), .val (.ref b22), .val (.int (1 : Int32)), .unset, .unset, .unset, .unset]) X44 hx hby at_116 rfl rfl ?_
          refine OG.aload X44 hx hby at_118 rfl rfl rfl ?_
          refine OG.aload X44 hx hby at_120 rfl rfl rfl ?_
          have f48 := (Fld.keep (Fld.ext E22 Fb21) K34 (ninS ne29 nin0))
          refine OG.cV X44 hx hZ hby (by rw [hml]; rfl) hown (y := (⟨"com/example/tranchery/tranchery/rating/Rating", "meets", "(Lcom/example/tranchery/tranchery/rating/Rating;)Z"⟩ : MethodName)) (z := (⟨"com/example/tranchery/tranchery/rating/Rating", "meets", "(Lcom/example/tranchery/tranchery/rating/Rating;)Z"⟩ : MethodName)) (hw _ (List.mem_of_getElem? (i := 22) rfl)) (hw _ (List.mem_of_getElem? (i := 23) rfl)) (notFace_of_selects (args := #[]) (mvT hZ (hw _ (List.mem_of_getElem? (i := 25) rfl)))) (hw _ (List.mem_of_getElem? (i := 25) rfl)) (hw _ (List.mem_of_getElem? (i := 24) rfl)) (hw _ (List.mem_of_getElem? (i := 26) rfl)) (hw _ (List.mem_of_getElem? (i := 6) rfl)) (by decide) (own_rm_meets l Z a0 hw [] b3 b11 vA vB (0 : Int32) T34.heap n0 (Nat.le_trans (Nat.le_trans (Nat.le_trans (Nat.le_trans (Nat.le_trans (Nat.le_trans Z0 E3.1) K10.1) E11.1) K21.1) E22.1) K34.1) f45 f48 (by simp [k1])) f46 e44 (argsL := [(.ref b11)]) (stk := [(.ref b11), (.ref b3)]) (st := []) own_pd_2 rfl rfl rfl (W := 0) rfl (by decide) (by decide) (by decide) (by decide) at_122 rfl ?_
          intro T47 L47 v47 X47 q47
          obtain ⟨rfl, N47, e47⟩ := q47
          have M47 := Fr.app M44 N47
          show OG.Go _ _ _ _ _ _ _ (T47.setTop (mkF m 125 #[.val (.int p1), .val (.int p2), .val (.int p3), .val (.int p4), .val (.int (0 : Int32)), .val (.ref w2), .val (.int (22 : Int32)), .val (.int vA), .val (.int vB), .val (.int vC), .val (.ref b3), .val (.ref b11), .val (.ref b22), .val (.int (1 : Int32)), .unset, .unset, .unset, .unset] [(.int (0 : Int32))]))
          refine OG.istore (Ls' := #[.val (.int p1), .val (.int p2), .val (.int p3), .val (.int p4), .val (.int (0 : Int32)), .val (.ref w2), .val (.int (22 : Int32)), .val (.int vA), .val (.int vB), .val (.int vC), .val (.ref b3), .val (.ref b11), .val (.ref b22), .val (.int (1 : Int32)), .val (.int (0 : Int32)), .unset, .unset, .unset]) X47 hx hby at_125 rfl rfl ?_
          refine OG.aload X47 hx hby at_127 rfl rfl rfl ?_
          refine OG.aload X47 hx hby at_129 rfl rfl rfl ?_
          have f50 := (Exa.keep (Exa.ext E22 Ea21) K34)
          refine OG.cV X47 hx hZ hby (by rw [hml]; rfl) hown (y := (⟨"com/example/tranchery/tranchery/rating/Rating", "meets", "(Lcom/example/tranchery/tranchery/rating/Rating;)Z"⟩ : MethodName)) (z := (⟨"com/example/tranchery/tranchery/rating/Rating", "meets", "(Lcom/example/tranchery/tranchery/rating/Rating;)Z"⟩ : MethodName)) (hw _ (List.mem_of_getElem? (i := 22) rfl)) (hw _ (List.mem_of_getElem? (i := 23) rfl)) (notFace_of_selects (args := #[]) (mvT hZ (hw _ (List.mem_of_getElem? (i := 25) rfl)))) (hw _ (List.mem_of_getElem? (i := 25) rfl)) (hw _ (List.mem_of_getElem? (i := 24) rfl)) (hw _ (List.mem_of_getElem? (i := 26) rfl)) (hw _ (List.mem_of_getElem? (i := 6) rfl)) (by decide) (own_rm_meets l Z a0 hw [] b11 b3 vB vA (1 : Int32) T34.heap n0 (Nat.le_trans (Nat.le_trans (Nat.le_trans (Nat.le_trans (Nat.le_trans (Nat.le_trans Z0 E3.1) K10.1) E11.1) K21.1) E22.1) K34.1) f48 f45 (by simp [k2])) f50 e47 (argsL := [(.ref b3)]) (stk := [(.ref b3), (.ref b11)]) (st := []) own_pd_2 rfl rfl rfl (W := 0) rfl (by decide) (by decide) (by decide) (by decide) at_131 rfl ?_
          intro T49 L49 v49 X49 q49
          obtain ⟨rfl, N49, e49⟩ := q49
          have M49 := Fr.app M47 N49
          show OG.Go _ _ _ _ _ _ _ (T49.setTop (mkF m 134 #[.val (.int p1), .val (.int p2), .val (.int p3), .val (.int p4), .val (.int (0 : Int32)), .val (.ref w2), .val (.int (22 : Int32)), .val (.int vA), .val (.int vB), .val (.int vC), .val (.ref b3), .val (.ref b11), .val (.ref b22), .val (.int (1 : Int32)), .val (.int (0 : Int32)), .unset, .unset, .unset] [(.int (1 : Int32))]))
          refine OG.istore (Ls' := #[.val (.int p1), .val (.int p2), .val (.int p3), .val (.int p4), .val (.int (0 : Int32)), .val (.ref w2), .val (.int (22 : Int32)), .val (.int vA), .val (.int vB), .val (.int vC), .val (.ref b3), .val (.ref b11), .val (.ref b22), .val (.int (1 : Int32)), .val (.int (0 : Int32)), .val (.int (1 : Int32)), .unset, .unset]) X49 hx hby at_134 rfl rfl ?_
          refine OG.aload X49 hx hby at_136 rfl rfl rfl ?_
          refine OG.aload X49 hx hby at_138 rfl rfl rfl ?_
          refine OG.cV X49 hx hZ hby (by rw [hml]; rfl) hown (y := (⟨"com/example/tranchery/tranchery/rating/Rating", "meets", "(Lcom/example/tranchery/tranchery/rating/Rating;)Z"⟩ : MethodName)) (z := (⟨"com/example/tranchery/tranchery/rating/Rating", "meets", "(Lcom/example/tranchery/tranchery/rating/Rating;)Z"⟩ : MethodName)) (hw _ (List.mem_of_getElem? (i := 22) rfl)) (hw _ (List.mem_of_getElem? (i := 23) rfl)) (notFace_of_selects (args := #[]) (mvT hZ (hw _ (List.mem_of_getElem? (i := 25) rfl)))) (hw _ (List.mem_of_getElem? (i := 25) rfl)) (hw _ (List.mem_of_getElem? (i := 24) rfl)) (hw _ (List.mem_of_getElem? (i := 26) rfl)) (hw _ (List.mem_of_getElem? (i := 6) rfl)) (by decide) (own_rm_meets l Z a0 hw [] b11 b22 vB vC (0 : Int32) T34.heap n0 (Nat.le_trans (Nat.le_trans (Nat.le_trans (Nat.le_trans (Nat.le_trans (Nat.le_trans Z0 E3.1) K10.1) E11.1) K21.1) E22.1) K34.1) f48 Fb34 (by simp [k3])) f50 e49 (argsL := [(.ref b22)]) (stk := [(.ref b22), (.ref b11)]) (st := []) own_pd_2 rfl rfl rfl (W := 0) rfl (by decide) (by decide) (by decide) (by decide) at_140 rfl ?_
          intro T51 L51 v51 X51 q51
          obtain ⟨rfl, N51, e51⟩ := q51
          have M51 := Fr.app M49 N51
          show OG.Go _ _ _ _ _ _ _ (T51.setTop (mkF m 143 #[.val (.int p1), .val (.int p2), .val (.int p3), .val (.int p4), .val (.int (0 : Int32)), .val (.ref w2), .val (.int (22 : Int32)), .val (.int vA), .val (.int vB), .val (.int vC), .val (.ref b3), .val (.ref b11), .val (.ref b22), .val (.int (1 : Int32)), .val (.int (0 : Int32)), .val (.int (1 : Int32)), .unset, .unset] [(.int (0 : Int32))]))
          refine OG.istore (Ls' := #[.val (.int p1), .val (.int p2), .val (.int p3), .val (.int p4), .val (.int (0 : Int32)), .val (.ref w2), .val (.int (22 : Int32)), .val (.int vA), .val (.int vB), .val (.int vC), .val (.ref b3), .val (.ref b11), .val (.ref b22), .val (.int (1 : Int32)), .val (.int (0 : Int32)), .val (.int (1 : Int32)), .val (.int (0 : Int32)), .unset]) X51 hx hby at_143 rfl rfl ?_
          refine OG.aload X51 hx hby at_145 rfl rfl rfl ?_
          refine OG.aload X51 hx hby at_147 rfl rfl rfl ?_
          refine OG.cV X51 hx hZ hby (by rw [hml]; rfl) hown (y := (⟨"com/example/tranchery/tranchery/rating/Rating", "meets", "(Lcom/example/tranchery/tranchery/rating/Rating;)Z"⟩ : MethodName)) (z := (⟨"com/example/tranchery/tranchery/rating/Rating", "meets", "(Lcom/example/tranchery/tranchery/rating/Rating;)Z"⟩ : MethodName)) (hw _ (List.mem_of_getElem? (i := 22) rfl)) (hw _ (List.mem_of_getElem? (i := 23) rfl)) (notFace_of_selects (args := #[]) (mvT hZ (hw _ (List.mem_of_getElem? (i := 25) rfl)))) (hw _ (List.mem_of_getElem? (i := 25) rfl)) (hw _ (List.mem_of_getElem? (i := 24) rfl)) (hw _ (List.mem_of_getElem? (i := 26) rfl)) (hw _ (List.mem_of_getElem? (i := 6) rfl)) (by decide) (own_rm_meets l Z a0 hw [] b3 b22 vA vC (1 : Int32) T34.heap n0 (Nat.le_trans (Nat.le_trans (Nat.le_trans (Nat.le_trans (Nat.le_trans (Nat.le_trans Z0 E3.1) K10.1) E11.1) K21.1) E22.1) K34.1) f45 Fb34 (by simp [k4])) f46 e51 (argsL := [(.ref b22)]) (stk := [(.ref b22), (.ref b3)]) (st := []) own_pd_2 rfl rfl rfl (W := 0) rfl (by decide) (by decide) (by decide) (by decide) at_149 rfl ?_
          intro T52 L52 v52 X52 q52
          obtain ⟨rfl, N52, e52⟩ := q52
          have M52 := Fr.app M51 N52
          show OG.Go _ _ _ _ _ _ _ (T52.setTop (mkF m 152 #[.val (.int p1), .val (.int p2), .val (.int p3), .val (.int p4), .val (.int (0 : Int32)), .val (.ref w2), .val (.int (22 : Int32)), .val (.int vA), .val (.int vB), .val (.int vC), .val (.ref b3), .val (.ref b11), .val (.ref b22), .val (.int (1 : Int32)), .val (.int (0 : Int32)), .val (.int (1 : Int32)), .val (.int (0 : Int32)), .unset] [(.int (1 : Int32))]))
          refine OG.istore (Ls' := #[.val (.int p1), .val (.int p2), .val (.int p3), .val (.int p4), .val (.int (0 : Int32)), .val (.ref w2), .val (.int (22 : Int32)), .val (.int vA), .val (.int vB), .val (.int vC), .val (.ref b3), .val (.ref b11), .val (.ref b22), .val (.int (1 : Int32)), .val (.int (0 : Int32)), .val (.int (1 : Int32)), .val (.int (0 : Int32)), .val (.int (1 : Int32))]) X52 hx hby at_152 rfl rfl ?_
          refine OG.iload X52 hx hby at_154 rfl rfl ?_
          refine OG.ifYes (pc' := 161) X52 hx hby at_156 (feq (by decide)).2 (by decide) (by decide) ?_
          refine OG.iload X52 hx hby at_161 rfl rfl ?_
          refine OG.ifNo X52 hx hby at_163 (teq (by decide)).2 rfl ?_
          refine OG.iload X52 hx hby at_166 rfl rfl ?_
          refine OG.ifYes (pc' := 173) X52 hx hby at_168 (feq (by decide)).2 (by decide) (by decide) ?_
          refine OG.iload X52 hx hby at_173 rfl rfl ?_
          refine OG.ifYes (pc' := 187) X52 hx hby at_175 (teq (by decide)).1 (by decide) (by decide) ?_
          refine OG.iconst (v := (0 : Int32)) X52 hx hby at_187 (by decide) rfl ?_
          refine OG.iload X52 hx hby at_188 rfl rfl ?_
          refine OG.iload X52 hx hby at_190 rfl rfl ?_
          refine OG.icmpYes (pc' := 199) X52 hx hby at_192 (feq k0).2 (by decide) (by decide) ?_
          refine OG.iconst (v := (0 : Int32)) X52 hx hby at_199 (by decide) rfl ?_
          refine OG.icmpYes (pc' := 205) X52 hx hby at_200 (teq (by decide)).1 (by decide) (by decide) ?_
          refine OG.iload X52 hx hby at_205 rfl rfl ?_
          refine OG.iload X52 hx hby at_207 rfl rfl ?_
          refine OG.icmpYes (pc' := 224) X52 hx hby at_209 (flt k2).2.1 (by decide) (by decide) ?_
          refine OG.iload X52 hx hby at_224 rfl rfl ?_
          refine OG.iload X52 hx hby at_226 rfl rfl ?_
          refine OG.icmpNo X52 hx hby at_228 (tlt k1).2.1 rfl ?_
          refine OG.iload X52 hx hby at_231 rfl rfl ?_
          refine OG.ifNo X52 hx hby at_233 (feq (by decide)).1 rfl ?_
          refine OG.iload X52 hx hby at_236 rfl rfl ?_
          refine OG.ifYes (pc' := 243) X52 hx hby at_238 (teq (by decide)).1 (by decide) (by decide) ?_
          refine OG.iload X52 hx hby at_243 rfl rfl ?_
          refine OG.ifYes (pc' := 260) X52 hx hby at_245 (teq (by decide)).1 (by decide) (by decide) ?_
          refine OG.iconst (v := (1 : Int32)) X52 hx hby at_260 (by decide) rfl ?_
          refine OG.retZ X52 hx hby Bd.returns (by simp) at_261 Bd.notSynchronized (by decide) (by decide) ?_
          exact ⟨rfl, M52⟩
      · by_cases k4 : vC < vA
        · refine OG.aload X34 hx hby at_109 rfl rfl rfl ?_
          refine OG.aload X34 hx hby at_111 rfl rfl rfl ?_
          have f54 := (Fld.keep (Fld.ext E22 (Fld.keep (Fld.ext E11 Fb10) K21 (ninS ne16 nin0))) K34 (ninS ne28 nin0))
          have f55 := (Exa.keep (Exa.ext E22 f27) K34)
          refine OG.cV X34 hx hZ hby (by rw [hml]; rfl) hown (y := (⟨"com/example/tranchery/tranchery/rating/Rating", "meets", "(Lcom/example/tranchery/tranchery/rating/Rating;)Z"⟩ : MethodName)) (z := (⟨"com/example/tranchery/tranchery/rating/Rating", "meets", "(Lcom/example/tranchery/tranchery/rating/Rating;)Z"⟩ : MethodName)) (hw _ (List.mem_of_getElem? (i := 22) rfl)) (hw _ (List.mem_of_getElem? (i := 23) rfl)) (notFace_of_selects (args := #[]) (mvT hZ (hw _ (List.mem_of_getElem? (i := 25) rfl)))) (hw _ (List.mem_of_getElem? (i := 25) rfl)) (hw _ (List.mem_of_getElem? (i := 24) rfl)) (hw _ (List.mem_of_getElem? (i := 26) rfl)) (hw _ (List.mem_of_getElem? (i := 6) rfl)) (by decide) (own_rm_meets l Z a0 hw [] b3 b3 vA vA (1 : Int32) T34.heap n0 (Nat.le_trans (Nat.le_trans (Nat.le_trans (Nat.le_trans (Nat.le_trans (Nat.le_trans Z0 E3.1) K10.1) E11.1) K21.1) E22.1) K34.1) f54 f54 (by simp)) f55 rfl (argsL := [(.ref b3)]) (stk := [(.ref b3), (.ref b3)]) (st := []) own_pd_2 rfl rfl rfl (W := 0) rfl (by decide) (by decide) (by decide) (by decide) at_113 rfl ?_
          intro T53 L53 v53 X53 q53
          obtain ⟨rfl, N53, e53⟩ := q53
          have M53 := Fr.app M34 N53
          show OG.Go _ _ _ _ _ _ _ (T53.setTop (mkF m 116 #[.val (.int p1), .val (.int p2), .val (.int p3), .val (.int p4), .val (.int (0 : Int32)), .val (.ref w2), .val (.int (22 : Int32)), .val (.int vA), .val (.int vB), .val (.int vC), .val (.ref b3), .val (.ref b11), .val (.ref b22), .unset, .unset, .unset, .unset, .unset] [(.int (1 : Int32))]))
          refine OG.istore (Ls' := #[.val (.int p1), .val (.int p2), .val (.int p3), .val (.int p4), .val (.int (0 : Int32)), .val (.ref w2), .val (.int (22 : Int32)), .val (.int vA), .val (.int vB), .val (.int vC), .val (.ref b3), .val (.ref b11), .val (.ref b22), .val (.int (1 : Int32)), .unset, .unset, .unset, .unset]) X53 hx hby at_116 rfl rfl ?_
          refine OG.aload X53 hx hby at_118 rfl rfl rfl ?_
          refine OG.aload X53 hx hby at_120 rfl rfl rfl ?_
          have f57 := (Fld.keep (Fld.ext E22 Fb21) K34 (ninS ne29 nin0))
          refine OG.cV X53 hx hZ hby (by rw [hml]; rfl) hown (y := (⟨"com/example/tranchery/tranchery/rating/Rating", "meets", "(Lcom/example/tranchery/tranchery/rating/Rating;)Z"⟩ : MethodName)) (z := (⟨"com/example/tranchery/tranchery/rating/Rating", "meets", "(Lcom/example/tranchery/tranchery/rating/Rating;)Z"⟩ : MethodName)) (hw _ (List.mem_of_getElem? (i := 22) rfl)) (hw _ (List.mem_of_getElem? (i := 23) rfl)) (notFace_of_selects (args := #[]) (mvT hZ (hw _ (List.mem_of_getElem? (i := 25) rfl)))) (hw _ (List.mem_of_getElem? (i := 25) rfl)) (hw _ (List.mem_of_getElem? (i := 24) rfl)) (hw _ (List.mem_of_getElem? (i := 26) rfl)) (hw _ (List.mem_of_getElem? (i := 6) rfl)) (by decide) (own_rm_meets l Z a0 hw [] b3 b11 vA vB (0 : Int32) T34.heap n0 (Nat.le_trans (Nat.le_trans (Nat.le_trans (Nat.le_trans (Nat.le_trans (Nat.le_trans Z0 E3.1) K10.1) E11.1) K21.1) E22.1) K34.1) f54 f57 (by simp [k1])) f55 e53 (argsL := [(.ref b11)]) (stk := [(.ref b11), (.ref b3)]) (st := []) own_pd_2 rfl rfl rfl (W := 0) rfl (by decide) (by decide) (by decide) (by decide) at_122 rfl ?_
          intro T56 L56 v56 X56 q56
          obtain ⟨rfl, N56, e56⟩ := q56
          have M56 := Fr.app M53 N56
          show OG.Go _ _ _ _ _ _ _ (T56.setTop (mkF m 125 #[.val (.int p1), .val (.int p2), .val (.int p3), .val (.int p4), .val (.int (0 : Int32)), .val (.ref w2), .val (.int (22 : Int32)), .val (.int vA), .val (.int vB), .val (.int vC), .val (.ref b3), .val (.ref b11), .val (.ref b22), .val (.int (1 : Int32)), .unset, .unset, .unset, .unset] [(.int (0 : Int32))]))
          refine OG.istore (Ls' := #[.val (.int p1), .val (.int p2), .val (.int p3), .val (.int p4), .val (.int (0 : Int32)), .val (.ref w2), .val (.int (22 : Int32)), .val (.int vA), .val (.int vB), .val (.int vC), .val (.ref b3), .val (.ref b11), .val (.ref b22), .val (.int (1 : Int32)), .val (.int (0 : Int32)), .unset, .unset, .unset]) X56 hx hby at_125 rfl rfl ?_
          refine OG.aload X56 hx hby at_127 rfl rfl rfl ?_
          refine OG.aload X56 hx hby at_129 rfl rfl rfl ?_
          have f59 := (Exa.keep (Exa.ext E22 Ea21) K34)
          refine OG.cV X56 hx hZ hby (by rw [hml]; rfl) hown (y := (⟨"com/example/tranchery/tranchery/rating/Rating", "meets", "(Lcom/example/tranchery/tranchery/rating/Rating;)Z"⟩ : MethodName)) (z := (⟨"com/example/tranchery/tranchery/rating/Rating", "meets", "(Lcom/example/tranchery/tranchery/rating/Rating;)Z"⟩ : MethodName)) (hw _ (List.mem_of_getElem? (i := 22) rfl)) (hw _ (List.mem_of_getElem? (i := 23) rfl)) (notFace_of_selects (args := #[]) (mvT hZ (hw _ (List.mem_of_getElem? (i := 25) rfl)))) (hw _ (List.mem_of_getElem? (i := 25) rfl)) (hw _ (List.mem_of_getElem? (i := 24) rfl)) (hw _ (List.mem_of_getElem? (i := 26) rfl)) (hw _ (List.mem_of_getElem? (i := 6) rfl)) (by decide) (own_rm_meets l Z a0 hw [] b11 b3 vB vA (1 : Int32) T34.heap n0 (Nat.le_trans (Nat.le_trans (Nat.le_trans (Nat.le_trans (Nat.le_trans (Nat.le_trans Z0 E3.1) K10.1) E11.1) K21.1) E22.1) K34.1) f57 f54 (by simp [k2])) f59 e56 (argsL := [(.ref b3)]) (stk := [(.ref b3), (.ref b11)]) (st := []) own_pd_2 rfl rfl rfl (W := 0) rfl (by decide) (by decide) (by decide) (by decide) at_131 rfl ?_
          intro T58 L58 v58 X58 q58
          obtain ⟨rfl, N58, e58⟩ := q58
          have M58 := Fr.app M56 N58
          show OG.Go _ _ _ _ _ _ _ (T58.setTop (mkF m 134 #[.val (.int p1), .val (.int p2), .val (.int p3), .val (.int p4), .val (.int (0 : Int32)), .val (.ref w2), .val (.int (22 : Int32)), .val (.int vA), .val (.int vB), .val (.int vC), .val (.ref b3), .val (.ref b11), .val (.ref b22), .val (.int (1 : Int32)), .val (.int (0 : Int32)), .unset, .unset, .unset] [(.int (1 : Int32))]))
          refine OG.istore (Ls' := #[.val (.int p1), .val (.int p2), .val (.int p3), .val (.int p4), .val (.int (0 : Int32)), .val (.ref w2), .val (.int (22 : Int32)), .val (.int vA), .val (.int vB), .val (.int vC), .val (.ref b3), .val (.ref b11), .val (.ref b22), .val (.int (1 : Int32)), .val (.int (0 : Int32)), .val (.int (1 : Int32)), .unset, .unset]) X58 hx hby at_134 rfl rfl ?_
          refine OG.aload X58 hx hby at_136 rfl rfl rfl ?_
          refine OG.aload X58 hx hby at_138 rfl rfl rfl ?_
          refine OG.cV X58 hx hZ hby (by rw [hml]; rfl) hown (y := (⟨"com/example/tranchery/tranchery/rating/Rating", "meets", "(Lcom/example/tranchery/tranchery/rating/Rating;)Z"⟩ : MethodName)) (z := (⟨"com/example/tranchery/tranchery/rating/Rating", "meets", "(Lcom/example/tranchery/tranchery/rating/Rating;)Z"⟩ : MethodName)) (hw _ (List.mem_of_getElem? (i := 22) rfl)) (hw _ (List.mem_of_getElem? (i := 23) rfl)) (notFace_of_selects (args := #[]) (mvT hZ (hw _ (List.mem_of_getElem? (i := 25) rfl)))) (hw _ (List.mem_of_getElem? (i := 25) rfl)) (hw _ (List.mem_of_getElem? (i := 24) rfl)) (hw _ (List.mem_of_getElem? (i := 26) rfl)) (hw _ (List.mem_of_getElem? (i := 6) rfl)) (by decide) (own_rm_meets l Z a0 hw [] b11 b22 vB vC (1 : Int32) T34.heap n0 (Nat.le_trans (Nat.le_trans (Nat.le_trans (Nat.le_trans (Nat.le_trans (Nat.le_trans Z0 E3.1) K10.1) E11.1) K21.1) E22.1) K34.1) f57 Fb34 (by simp [k3])) f59 e58 (argsL := [(.ref b22)]) (stk := [(.ref b22), (.ref b11)]) (st := []) own_pd_2 rfl rfl rfl (W := 0) rfl (by decide) (by decide) (by decide) (by decide) at_140 rfl ?_
          intro T60 L60 v60 X60 q60
          obtain ⟨rfl, N60, e60⟩ := q60
          have M60 := Fr.app M58 N60
          show OG.Go _ _ _ _ _ _ _ (T60.setTop (mkF m 143 #[.val (.int p1), .val (.int p2), .val (.int p3), .val (.int p4), .val (.int (0 : Int32)), .val (.ref w2), .val (.int (22 : Int32)), .val (.int vA), .val (.int vB), .val (.int vC), .val (.ref b3), .val (.ref b11), .val (.ref b22), .val (.int (1 : Int32)), .val (.int (0 : Int32)), .val (.int (1 : Int32)), .unset, .unset] [(.int (1 : Int32))]))
          refine OG.istore (Ls' := #[.val (.int p1), .val (.int p2), .val (.int p3), .val (.int p4), .val (.int (0 : Int32)), .val (.ref w2), .val (.int (22 : Int32)), .val (.int vA), .val (.int vB), .val (.int vC), .val (.ref b3), .val (.ref b11), .val (.ref b22), .val (.int (1 : Int32)), .val (.int (0 : Int32)), .val (.int (1 : Int32)), .val (.int (1 : Int32)), .unset]) X60 hx hby at_143 rfl rfl ?_
          refine OG.aload X60 hx hby at_145 rfl rfl rfl ?_
          refine OG.aload X60 hx hby at_147 rfl rfl rfl ?_
          refine OG.cV X60 hx hZ hby (by rw [hml]; rfl) hown (y := (⟨"com/example/tranchery/tranchery/rating/Rating", "meets", "(Lcom/example/tranchery/tranchery/rating/Rating;)Z"⟩ : MethodName)) (z := (⟨"com/example/tranchery/tranchery/rating/Rating", "meets", "(Lcom/example/tranchery/tranchery/rating/Rating;)Z"⟩ : MethodName)) (hw _ (List.mem_of_getElem? (i := 22) rfl)) (hw _ (List.mem_of_getElem? (i := 23) rfl)) (notFace_of_selects (args := #[]) (mvT hZ (hw _ (List.mem_of_getElem? (i := 25) rfl)))) (hw _ (List.mem_of_getElem? (i := 25) rfl)) (hw _ (List.mem_of_getElem? (i := 24) rfl)) (hw _ (List.mem_of_getElem? (i := 26) rfl)) (hw _ (List.mem_of_getElem? (i := 6) rfl)) (by decide) (own_rm_meets l Z a0 hw [] b3 b22 vA vC (0 : Int32) T34.heap n0 (Nat.le_trans (Nat.le_trans (Nat.le_trans (Nat.le_trans (Nat.le_trans (Nat.le_trans Z0 E3.1) K10.1) E11.1) K21.1) E22.1) K34.1) f54 Fb34 (by simp [k4])) f55 e60 (argsL := [(.ref b22)]) (stk := [(.ref b22), (.ref b3)]) (st := []) own_pd_2 rfl rfl rfl (W := 0) rfl (by decide) (by decide) (by decide) (by decide) at_149 rfl ?_
          intro T61 L61 v61 X61 q61
          obtain ⟨rfl, N61, e61⟩ := q61
          have M61 := Fr.app M60 N61
          show OG.Go _ _ _ _ _ _ _ (T61.setTop (mkF m 152 #[.val (.int p1), .val (.int p2), .val (.int p3), .val (.int p4), .val (.int (0 : Int32)), .val (.ref w2), .val (.int (22 : Int32)), .val (.int vA), .val (.int vB), .val (.int vC), .val (.ref b3), .val (.ref b11), .val (.ref b22), .val (.int (1 : Int32)), .val (.int (0 : Int32)), .val (.int (1 : Int32)), .val (.int (1 : Int32)), .unset] [(.int (0 : Int32))]))
          refine OG.istore (Ls' := #[.val (.int p1), .val (.int p2), .val (.int p3), .val (.int p4), .val (.int (0 : Int32)), .val (.ref w2), .val (.int (22 : Int32)), .val (.int vA), .val (.int vB), .val (.int vC), .val (.ref b3), .val (.ref b11), .val (.ref b22), .val (.int (1 : Int32)), .val (.int (0 : Int32)), .val (.int (1 : Int32)), .val (.int (1 : Int32)), .val (.int (0 : Int32))]) X61 hx hby at_152 rfl rfl ?_
          refine OG.iload X61 hx hby at_154 rfl rfl ?_
          refine OG.ifYes (pc' := 161) X61 hx hby at_156 (feq (by decide)).2 (by decide) (by decide) ?_
          refine OG.iload X61 hx hby at_161 rfl rfl ?_
          refine OG.ifNo X61 hx hby at_163 (teq (by decide)).2 rfl ?_
          refine OG.iload X61 hx hby at_166 rfl rfl ?_
          refine OG.ifYes (pc' := 173) X61 hx hby at_168 (feq (by decide)).2 (by decide) (by decide) ?_
          refine OG.iload X61 hx hby at_173 rfl rfl ?_
          refine OG.ifYes (pc' := 187) X61 hx hby at_175 (teq (by decide)).1 (by decide) (by decide) ?_
          refine OG.iconst (v := (0 : Int32)) X61 hx hby at_187 (by decide) rfl ?_
          refine OG.iload X61 hx hby at_188 rfl rfl ?_
          refine OG.iload X61 hx hby at_190 rfl rfl ?_
          refine OG.icmpYes (pc' := 199) X61 hx hby at_192 (feq k0).2 (by decide) (by decide) ?_
          refine OG.iconst (v := (0 : Int32)) X61 hx hby at_199 (by decide) rfl ?_
          refine OG.icmpYes (pc' := 205) X61 hx hby at_200 (teq (by decide)).1 (by decide) (by decide) ?_
          refine OG.iload X61 hx hby at_205 rfl rfl ?_
          refine OG.iload X61 hx hby at_207 rfl rfl ?_
          refine OG.icmpYes (pc' := 224) X61 hx hby at_209 (flt k2).2.1 (by decide) (by decide) ?_
          refine OG.iload X61 hx hby at_224 rfl rfl ?_
          refine OG.iload X61 hx hby at_226 rfl rfl ?_
          refine OG.icmpNo X61 hx hby at_228 (tlt k1).2.1 rfl ?_
          refine OG.iload X61 hx hby at_231 rfl rfl ?_
          refine OG.ifNo X61 hx hby at_233 (feq (by decide)).1 rfl ?_
          refine OG.iload X61 hx hby at_236 rfl rfl ?_
          refine OG.ifYes (pc' := 243) X61 hx hby at_238 (teq (by decide)).1 (by decide) (by decide) ?_
          refine OG.iload X61 hx hby at_243 rfl rfl ?_
          refine OG.ifYes (pc' := 260) X61 hx hby at_245 (teq (by decide)).1 (by decide) (by decide) ?_
          refine OG.iconst (v := (1 : Int32)) X61 hx hby at_260 (by decide) rfl ?_
          refine OG.retZ X61 hx hby Bd.returns (by simp) at_261 Bd.notSynchronized (by decide) (by decide) ?_
          exact ⟨rfl, M61⟩
        · refine OG.aload X34 hx hby at_109 rfl rfl rfl ?_
          refine OG.aload X34 hx hby at_111 rfl rfl rfl ?_
          have f63 := (Fld.keep (Fld.ext E22 (Fld.keep (Fld.ext E11 Fb10) K21 (ninS ne16 nin0))) K34 (ninS ne28 nin0))
          have f64 := (Exa.keep (Exa.ext E22 f27) K34)
          refine OG.cV X34 hx hZ hby (by rw [hml]; rfl) hown (y := (⟨"com/example/tranchery/tranchery/rating/Rating", "meets", "(Lcom/example/tranchery/tranchery/rating/Rating;)Z"⟩ : MethodName)) (z := (⟨"com/example/tranchery/tranchery/rating/Rating", "meets", "(Lcom/example/tranchery/tranchery/rating/Rating;)Z"⟩ : MethodName)) (hw _ (List.mem_of_getElem? (i := 22) rfl)) (hw _ (List.mem_of_getElem? (i := 23) rfl)) (notFace_of_selects (args := #[]) (mvT hZ (hw _ (List.mem_of_getElem? (i := 25) rfl)))) (hw _ (List.mem_of_getElem? (i := 25) rfl)) (hw _ (List.mem_of_getElem? (i := 24) rfl)) (hw _ (List.mem_of_getElem? (i := 26) rfl)) (hw _ (List.mem_of_getElem? (i := 6) rfl)) (by decide) (own_rm_meets l Z a0 hw [] b3 b3 vA vA (1 : Int32) T34.heap n0 (Nat.le_trans (Nat.le_trans (Nat.le_trans (Nat.le_trans (Nat.le_trans (Nat.le_trans Z0 E3.1) K10.1) E11.1) K21.1) E22.1) K34.1) f63 f63 (by simp)) f64 rfl (argsL := [(.ref b3)]) (stk := [(.ref b3), (.ref b3)]) (st := []) own_pd_2 rfl rfl rfl (W := 0) rfl (by decide) (by decide) (by decide) (by decide) at_113 rfl ?_
          intro T62 L62 v62 X62 q62
          obtain ⟨rfl, N62, e62⟩ := q62
          have M62 := Fr.app M34 N62
          show OG.Go _ _ _ _ _ _ _ (T62.setTop (mkF m 116 #[.val (.int p1), .val (.int p2), .val (.int p3), .val (.int p4), .val (.int (0 : Int32)), .val (.ref w2), .val (.int (22 : Int32)), .val (.int vA), .val (.int vB), .val (.int vC), .val (.ref b3), .val (.ref b11), .val (.ref b22), .unset, .unset, .unset, .unset, .unset] [(.int (1 : Int32))]))
          refine OG.istore (Ls' := #[.val (.int p1), .val (.int p2), .val (.int p3), .val (.int p4), .val (.int (0 : Int32)), .val (.ref w2), .val (.int (22 : Int32)), .val (.int vA), .val (.int vB), .val (.int vC), .val (.ref b3), .val (.ref b11), .val (.ref b22), .val (.int (1 : Int32)), .unset, .unset, .unset, .unset]) X62 hx hby at_116 rfl rfl ?_
          refine OG.aload X62 hx hby at_118 rfl rfl rfl ?_
          refine OG.aload X62 hx hby at_120 rfl rfl rfl ?_
          have f66 := (Fld.keep (Fld.ext E22 Fb21) K34 (ninS ne29 nin0))
          refine OG.cV X62 hx hZ hby (by rw [hml]; rfl) hown (y := (⟨"com/example/tranchery/tranchery/rating/Rating", "meets", "(Lcom/example/tranchery/tranchery/rating/Rating;)Z"⟩ : MethodName)) (z := (⟨"com/example/tranchery/tranchery/rating/Rating", "meets", "(Lcom/example/tranchery/tranchery/rating/Rating;)Z"⟩ : MethodName)) (hw _ (List.mem_of_getElem? (i := 22) rfl)) (hw _ (List.mem_of_getElem? (i := 23) rfl)) (notFace_of_selects (args := #[]) (mvT hZ (hw _ (List.mem_of_getElem? (i := 25) rfl)))) (hw _ (List.mem_of_getElem? (i := 25) rfl)) (hw _ (List.mem_of_getElem? (i := 24) rfl)) (hw _ (List.mem_of_getElem? (i := 26) rfl)) (hw _ (List.mem_of_getElem? (i := 6) rfl)) (by decide) (own_rm_meets l Z a0 hw [] b3 b11 vA vB (0 : Int32) T34.heap n0 (Nat.le_trans (Nat.le_trans (Nat.le_trans (Nat.le_trans (Nat.le_trans (Nat.le_trans Z0 E3.1) K10.1) E11.1) K21.1) E22.1) K34.1) f63 f66 (by simp [k1])) f64 e62 (argsL := [(.ref b11)]) (stk := [(.ref b11), (.ref b3)]) (st := []) own_pd_2 rfl rfl rfl (W := 0) rfl (by decide) (by decide) (by decide) (by decide) at_122 rfl ?_
          intro T65 L65 v65 X65 q65
          obtain ⟨rfl, N65, e65⟩ := q65
          have M65 := Fr.app M62 N65
          show OG.Go _ _ _ _ _ _ _ (T65.setTop (mkF m 125 #[.val (.int p1), .val (.int p2), .val (.int p3), .val (.int p4), .val (.int (0 : Int32)), .val (.ref w2), .val (.int (22 : Int32)), .val (.int vA), .val (.int vB), .val (.int vC), .val (.ref b3), .val (.ref b11), .val (.ref b22), .val (.int (1 : Int32)), .unset, .unset, .unset, .unset] [(.int (0 : Int32))]))
          refine OG.istore (Ls' := #[.val (.int p1), .val (.int p2), .val (.int p3), .val (.int p4), .val (.int (0 : Int32)), .val (.ref w2), .val (.int (22 : Int32)), .val (.int vA), .val (.int vB), .val (.int vC), .val (.ref b3), .val (.ref b11), .val (.ref b22), .val (.int (1 : Int32)), .val (.int (0 : Int32)), .unset, .unset, .unset]) X65 hx hby at_125 rfl rfl ?_
          refine OG.aload X65 hx hby at_127 rfl rfl rfl ?_
          refine OG.aload X65 hx hby at_129 rfl rfl rfl ?_
          have f68 := (Exa.keep (Exa.ext E22 Ea21) K34)
          refine OG.cV X65 hx hZ hby (by rw [hml]; rfl) hown (y := (⟨"com/example/tranchery/tranchery/rating/Rating", "meets", "(Lcom/example/tranchery/tranchery/rating/Rating;)Z"⟩ : MethodName)) (z := (⟨"com/example/tranchery/tranchery/rating/Rating", "meets", "(Lcom/example/tranchery/tranchery/rating/Rating;)Z"⟩ : MethodName)) (hw _ (List.mem_of_getElem? (i := 22) rfl)) (hw _ (List.mem_of_getElem? (i := 23) rfl)) (notFace_of_selects (args := #[]) (mvT hZ (hw _ (List.mem_of_getElem? (i := 25) rfl)))) (hw _ (List.mem_of_getElem? (i := 25) rfl)) (hw _ (List.mem_of_getElem? (i := 24) rfl)) (hw _ (List.mem_of_getElem? (i := 26) rfl)) (hw _ (List.mem_of_getElem? (i := 6) rfl)) (by decide) (own_rm_meets l Z a0 hw [] b11 b3 vB vA (1 : Int32) T34.heap n0 (Nat.le_trans (Nat.le_trans (Nat.le_trans (Nat.le_trans (Nat.le_trans (Nat.le_trans Z0 E3.1) K10.1) E11.1) K21.1) E22.1) K34.1) f66 f63 (by simp [k2])) f68 e65 (argsL := [(.ref b3)]) (stk := [(.ref b3), (.ref b11)]) (st := []) own_pd_2 rfl rfl rfl (W := 0) rfl (by decide) (by decide) (by decide) (by decide) at_131 rfl ?_
          intro T67 L67 v67 X67 q67
          obtain ⟨rfl, N67, e67⟩ := q67
          have M67 := Fr.app M65 N67
          show OG.Go _ _ _ _ _ _ _ (T67.setTop (mkF m 134 #[.val (.int p1), .val (.int p2), .val (.int p3), .val (.int p4), .val (.int (0 : Int32)), .val (.ref w2), .val (.int (22 : Int32)), .val (.int vA), .val (.int vB), .val (.int vC), .val (.ref b3), .val (.ref b11), .val (.ref b22), .val (.int (1 : Int32)), .val (.int (0 : Int32)), .unset, .unset, .unset] [(.int (1 : Int32))]))
          refine OG.istore (Ls' := #[.val (.int p1), .val (.int p2), .val (.int p3), .val (.int p4), .val (.int (0 : Int32)), .val (.ref w2), .val (.int (22 : Int32)), .val (.int vA), .val (.int vB), .val (.int vC), .val (.ref b3), .val (.ref b11), .val (.ref b22), .val (.int (1 : Int32)), .val (.int (0 : Int32)), .val (.int (1 : Int32)), .unset, .unset]) X67 hx hby at_134 rfl rfl ?_
          refine OG.aload X67 hx hby at_136 rfl rfl rfl ?_
          refine OG.aload X67 hx hby at_138 rfl rfl rfl ?_
          refine OG.cV X67 hx hZ hby (by rw [hml]; rfl) hown (y := (⟨"com/example/tranchery/tranchery/rating/Rating", "meets", "(Lcom/example/tranchery/tranchery/rating/Rating;)Z"⟩ : MethodName)) (z := (⟨"com/example/tranchery/tranchery/rating/Rating", "meets", "(Lcom/example/tranchery/tranchery/rating/Rating;)Z"⟩ : MethodName)) (hw _ (List.mem_of_getElem? (i := 22) rfl)) (hw _ (List.mem_of_getElem? (i := 23) rfl)) (notFace_of_selects (args := #[]) (mvT hZ (hw _ (List.mem_of_getElem? (i := 25) rfl)))) (hw _ (List.mem_of_getElem? (i := 25) rfl)) (hw _ (List.mem_of_getElem? (i := 24) rfl)) (hw _ (List.mem_of_getElem? (i := 26) rfl)) (hw _ (List.mem_of_getElem? (i := 6) rfl)) (by decide) (own_rm_meets l Z a0 hw [] b11 b22 vB vC (1 : Int32) T34.heap n0 (Nat.le_trans (Nat.le_trans (Nat.le_trans (Nat.le_trans (Nat.le_trans (Nat.le_trans Z0 E3.1) K10.1) E11.1) K21.1) E22.1) K34.1) f66 Fb34 (by simp [k3])) f68 e67 (argsL := [(.ref b22)]) (stk := [(.ref b22), (.ref b11)]) (st := []) own_pd_2 rfl rfl rfl (W := 0) rfl (by decide) (by decide) (by decide) (by decide) at_140 rfl ?_
          intro T69 L69 v69 X69 q69
          obtain ⟨rfl, N69, e69⟩ := q69
          have M69 := Fr.app M67 N69
          show OG.Go _ _ _ _ _ _ _ (T69.setTop (mkF m 143 #[.val (.int p1), .val (.int p2), .val (.int p3), .val (.int p4), .val (.int (0 : Int32)), .val (.ref w2), .val (.int (22 : Int32)), .val (.int vA), .val (.int vB), .val (.int vC), .val (.ref b3), .val (.ref b11), .val (.ref b22), .val (.int (1 : Int32)), .val (.int (0 : Int32)), .val (.int (1 : Int32)), .unset, .unset] [(.int (1 : Int32))]))
          refine OG.istore (Ls' := #[.val (.int p1), .val (.int p2), .val (.int p3), .val (.int p4), .val (.int (0 : Int32)), .val (.ref w2), .val (.int (22 : Int32)), .val (.int vA), .val (.int vB), .val (.int vC), .val (.ref b3), .val (.ref b11), .val (.ref b22), .val (.int (1 : Int32)), .val (.int (0 : Int32)), .val (.int (1 : Int32)), .val (.int (1 : Int32)), .unset]) X69 hx hby at_143 rfl rfl ?_
          refine OG.aload X69 hx hby at_145 rfl rfl rfl ?_
          refine OG.aload X69 hx hby at_147 rfl rfl rfl ?_
          refine OG.cV X69 hx hZ hby (by rw [hml]; rfl) hown (y := (⟨"com/example/tranchery/tranchery/rating/Rating", "meets", "(Lcom/example/tranchery/tranchery/rating/Rating;)Z"⟩ : MethodName)) (z := (⟨"com/example/tranchery/tranchery/rating/Rating", "meets", "(Lcom/example/tranchery/tranchery/rating/Rating;)Z"⟩ : MethodName)) (hw _ (List.mem_of_getElem? (i := 22) rfl)) (hw _ (List.mem_of_getElem? (i := 23) rfl)) (notFace_of_selects (args := #[]) (mvT hZ (hw _ (List.mem_of_getElem? (i := 25) rfl)))) (hw _ (List.mem_of_getElem? (i := 25) rfl)) (hw _ (List.mem_of_getElem? (i := 24) rfl)) (hw _ (List.mem_of_getElem? (i := 26) rfl)) (hw _ (List.mem_of_getElem? (i := 6) rfl)) (by decide) (own_rm_meets l Z a0 hw [] b3 b22 vA vC (1 : Int32) T34.heap n0 (Nat.le_trans (Nat.le_trans (Nat.le_trans (Nat.le_trans (Nat.le_trans (Nat.le_trans Z0 E3.1) K10.1) E11.1) K21.1) E22.1) K34.1) f63 Fb34 (by simp [k4])) f64 e69 (argsL := [(.ref b22)]) (stk := [(.ref b22), (.ref b3)]) (st := []) own_pd_2 rfl rfl rfl (W := 0) rfl (by decide) (by decide) (by decide) (by decide) at_149 rfl ?_
          intro T70 L70 v70 X70 q70
          obtain ⟨rfl, N70, e70⟩ := q70
          have M70 := Fr.app M69 N70
          show OG.Go _ _ _ _ _ _ _ (T70.setTop (mkF m 152 #[.val (.int p1), .val (.int p2), .val (.int p3), .val (.int p4), .val (.int (0 : Int32)), .val (.ref w2), .val (.int (22 : Int32)), .val (.int vA), .val (.int vB), .val (.int vC), .val (.ref b3), .val (.ref b11), .val (.ref b22), .val (.int (1 : Int32)), .val (.int (0 : Int32)), .val (.int (1 : Int32)), .val (.int (1 : Int32)), .unset] [(.int (1 : Int32))]))
          refine OG.istore (Ls' := #[.val (.int p1), .val (.int p2), .val (.int p3), .val (.int p4), .val (.int (0 : Int32)), .val (.ref w2), .val (.int (22 : Int32)), .val (.int vA), .val (.int vB), .val (.int vC), .val (.ref b3), .val (.ref b11), .val (.ref b22), .val (.int (1 : Int32)), .val (.int (0 : Int32)), .val (.int (1 : Int32)), .val (.int (1 : Int32)), .val (.int (1 : Int32))]) X70 hx hby at_152 rfl rfl ?_
          refine OG.iload X70 hx hby at_154 rfl rfl ?_
          refine OG.ifYes (pc' := 161) X70 hx hby at_156 (feq (by decide)).2 (by decide) (by decide) ?_
          refine OG.iload X70 hx hby at_161 rfl rfl ?_
          refine OG.ifNo X70 hx hby at_163 (teq (by decide)).2 rfl ?_
          refine OG.iload X70 hx hby at_166 rfl rfl ?_
          refine OG.ifYes (pc' := 173) X70 hx hby at_168 (feq (by decide)).2 (by decide) (by decide) ?_
          refine OG.iload X70 hx hby at_173 rfl rfl ?_
          refine OG.ifYes (pc' := 187) X70 hx hby at_175 (teq (by decide)).1 (by decide) (by decide) ?_
          refine OG.iconst (v := (0 : Int32)) X70 hx hby at_187 (by decide) rfl ?_
          refine OG.iload X70 hx hby at_188 rfl rfl ?_
          refine OG.iload X70 hx hby at_190 rfl rfl ?_
          refine OG.icmpYes (pc' := 199) X70 hx hby at_192 (feq k0).2 (by decide) (by decide) ?_
          refine OG.iconst (v := (0 : Int32)) X70 hx hby at_199 (by decide) rfl ?_
          refine OG.icmpYes (pc' := 205) X70 hx hby at_200 (teq (by decide)).1 (by decide) (by decide) ?_
          refine OG.iload X70 hx hby at_205 rfl rfl ?_
          refine OG.iload X70 hx hby at_207 rfl rfl ?_
          refine OG.icmpYes (pc' := 224) X70 hx hby at_209 (flt k2).2.1 (by decide) (by decide) ?_
          refine OG.iload X70 hx hby at_224 rfl rfl ?_
          refine OG.iload X70 hx hby at_226 rfl rfl ?_
          refine OG.icmpNo X70 hx hby at_228 (tlt k1).2.1 rfl ?_
          refine OG.iload X70 hx hby at_231 rfl rfl ?_
          refine OG.ifNo X70 hx hby at_233 (feq (by decide)).1 rfl ?_
          refine OG.iload X70 hx hby at_236 rfl rfl ?_
          refine OG.ifYes (pc' := 243) X70 hx hby at_238 (teq (by decide)).1 (by decide) (by decide) ?_
          refine OG.iload X70 hx hby at_243 rfl rfl ?_
          refine OG.ifYes (pc' := 260) X70 hx hby at_245 (teq (by decide)).1 (by decide) (by decide) ?_
          refine OG.iconst (v := (1 : Int32)) X70 hx hby at_260 (by decide) rfl ?_
          refine OG.retZ X70 hx hby Bd.returns (by simp) at_261 Bd.notSynchronized (by decide) (by decide) ?_
          exact ⟨rfl, M70⟩
    · by_cases k2 : vA < vB
      · have k0 : ¬ vA = vB := fun q => by subst q; exact Int32.lt_irrefl k2
        by_cases k3 : vC < vB
        · by_cases k4 : vC < vA
          · refine OG.aload X34 hx hby at_109 rfl rfl rfl ?_
            refine OG.aload X34 hx hby at_111 rfl rfl rfl ?_
            have f72 := (Fld.keep (Fld.ext E22 (Fld.keep (Fld.ext E11 Fb10) K21 (ninS ne16 nin0))) K34 (ninS ne28 nin0))
            have f73 := (Exa.keep (Exa.ext E22 f27) K34)
            refine OG.cV X34 hx hZ hby (by rw [hml]; rfl) hown (y := (⟨"com/example/tranchery/tranchery/rating/Rating", "meets", "(Lcom/example/tranchery/tranchery/rating/Rating;)Z"⟩ : MethodName)) (z := (⟨"com/example/tranchery/tranchery/rating/Rating", "meets", "(Lcom/example/tranchery/tranchery/rating/Rating;)Z"⟩ : MethodName)) (hw _ (List.mem_of_getElem? (i := 22) rfl)) (hw _ (List.mem_of_getElem? (i := 23) rfl)) (notFace_of_selects (args := #[]) (mvT hZ (hw _ (List.mem_of_getElem? (i := 25) rfl)))) (hw _ (List.mem_of_getElem? (i := 25) rfl)) (hw _ (List.mem_of_getElem? (i := 24) rfl)) (hw _ (List.mem_of_getElem? (i := 26) rfl)) (hw _ (List.mem_of_getElem? (i := 6) rfl)) (by decide) (own_rm_meets l Z a0 hw [] b3 b3 vA vA (1 : Int32) T34.heap n0 (Nat.le_trans (Nat.le_trans (Nat.le_trans (Nat.le_trans (Nat.le_trans (Nat.le_trans Z0 E3.1) K10.1) E11.1) K21.1) E22.1) K34.1) f72 f72 (by simp)) f73 rfl (argsL := [(.ref b3)]) (stk := [(.ref b3), (.ref b3)]) (st := []) own_pd_2 rfl rfl rfl (W := 0) rfl (by decide) (by decide) (by decide) (by decide) at_113 rfl ?_
            intro T71 L71 v71 X71 q71
            obtain ⟨rfl, N71, e71⟩ := q71
            have M71 := Fr.app M34 N71
            show OG.Go _ _ _ _ _ _ _ (T71.setTop (mkF m 116 #[.val (.int p1), .val (.int p2), .val (.int p3), .val (.int p4), .val (.int (0 : Int32)), .val (.ref w2), .val (.int (22 : Int32)), .val (.int vA), .val (.int vB), .val (.int vC), .val (.ref b3), .val (.ref b11), .val (.ref b22), .unset, .unset, .unset, .unset, .unset] [(.int (1 : Int32))]))
            refine OG.istore (Ls' := #[.val (.int p1), .val (.int p2), .val (.int p3), .val (.int p4), .val (.int (0 : Int32)), .val (.ref w2), .val (.int (22 : Int32)), .val (.int vA), .val (.int vB), .val (.int vC), .val (.ref b3), .val (.ref b11), .val (.ref b22), .val (.int (1 : Int32)), .unset, .unset, .unset, .unset]) X71 hx hby at_116 rfl rfl ?_
            refine OG.aload X71 hx hby at_118 rfl rfl rfl ?_
            refine OG.aload X71 hx hby at_120 rfl rfl rfl ?_
            have f75 := (Fld.keep (Fld.ext E22 Fb21) K34 (ninS ne29 nin0))
            refine OG.cV X71 hx hZ hby (by rw [hml]; rfl) hown (y := (⟨"com/example/tranchery/tranchery/rating/Rating", "meets", "(Lcom/example/tranchery/tranchery/rating/Rating;)Z"⟩ : MethodName)) (z := (⟨"com/example/tranchery/tranchery/rating/Rating", "meets", "(Lcom/example/tranchery/tranchery/rating/Rating;)Z"⟩ : MethodName)) (hw _ (List.mem_of_getElem? (i := 22) rfl)) (hw _ (List.mem_of_getElem? (i := 23) rfl)) (notFace_of_selects (args := #[]) (mvT hZ (hw _ (List.mem_of_getElem? (i := 25) rfl)))) (hw _ (List.mem_of_getElem? (i := 25) rfl)) (hw _ (List.mem_of_getElem? (i := 24) rfl)) (hw _ (List.mem_of_getElem? (i := 26) rfl)) (hw _ (List.mem_of_getElem? (i := 6) rfl)) (by decide) (own_rm_meets l Z a0 hw [] b3 b11 vA vB (1 : Int32) T34.heap n0 (Nat.le_trans (Nat.le_trans (Nat.le_trans (Nat.le_trans (Nat.le_trans (Nat.le_trans Z0 E3.1) K10.1) E11.1) K21.1) E22.1) K34.1) f72 f75 (by simp [k1])) f73 e71 (argsL := [(.ref b11)]) (stk := [(.ref b11), (.ref b3)]) (st := []) own_pd_2 rfl rfl rfl (W := 0) rfl (by decide) (by decide) (by decide) (by decide) at_122 rfl ?_
            intro T74 L74 v74 X74 q74
            obtain ⟨rfl, N74, e74⟩ := q74
            have M74 := Fr.app M71 N74
            show OG.Go _ _ _ _ _ _ _ (T74.setTop (mkF m 125 #[.val (.int p1), .val (.int p2), .val (.int p3), .val (.int p4), .val (.int (0 : Int32)), .val (.ref w2), .val (.int (22 : Int32)), .val (.int vA), .val (.int vB), .val (.int vC), .val (.ref b3), .val (.ref b11), .val (.ref b22), .val (.int (1 : Int32)), .unset, .unset, .unset, .unset] [(.int (1 : Int32))]))
            refine OG.istore (Ls' := #[.val (.int p1), .val (.int p2), .val (.int p3), .val (.int p4), .val (.int (0 : Int32)), .val (.ref w2), .val (.int (22 : Int32)), .val (.int vA), .val (.int vB), .val (.int vC), .val (.ref b3), .val (.ref b11), .val (.ref b22), .val (.int (1 : Int32)), .val (.int (1 : Int32)), .unset, .unset, .unset]) X74 hx hby at_125 rfl rfl ?_
            refine OG.aload X74 hx hby at_127 rfl rfl rfl ?_
            refine OG.aload X74 hx hby at_129 rfl rfl rfl ?_
            have f77 := (Exa.keep (Exa.ext E22 Ea21) K34)
            refine OG.cV X74 hx hZ hby (by rw [hml]; rfl) hown (y := (⟨"com/example/tranchery/tranchery/rating/Rating", "meets", "(Lcom/example/tranchery/tranchery/rating/Rating;)Z"⟩ : MethodName)) (z := (⟨"com/example/tranchery/tranchery/rating/Rating", "meets", "(Lcom/example/tranchery/tranchery/rating/Rating;)Z"⟩ : MethodName)) (hw _ (List.mem_of_getElem? (i := 22) rfl)) (hw _ (List.mem_of_getElem? (i := 23) rfl)) (notFace_of_selects (args := #[]) (mvT hZ (hw _ (List.mem_of_getElem? (i := 25) rfl)))) (hw _ (List.mem_of_getElem? (i := 25) rfl)) (hw _ (List.mem_of_getElem? (i := 24) rfl)) (hw _ (List.mem_of_getElem? (i := 26) rfl)) (hw _ (List.mem_of_getElem? (i := 6) rfl)) (by decide) (own_rm_meets l Z a0 hw [] b11 b3 vB vA (0 : Int32) T34.heap n0 (Nat.le_trans (Nat.le_trans (Nat.le_trans (Nat.le_trans (Nat.le_trans (Nat.le_trans Z0 E3.1) K10.1) E11.1) K21.1) E22.1) K34.1) f75 f72 (by simp [k2])) f77 e74 (argsL := [(.ref b3)]) (stk := [(.ref b3), (.ref b11)]) (st := []) own_pd_2 rfl rfl rfl (W := 0) rfl (by decide) (by decide) (by decide) (by decide) at_131 rfl ?_
            intro T76 L76 v76 X76 q76
            obtain ⟨rfl, N76, e76⟩ := q76
            have M76 := Fr.app M74 N76
            show OG.Go _ _ _ _ _ _ _ (T76.setTop (mkF m 134 #[.val (.int p1), .val (.int p2), .val (.int p3), .val (.int p4), .val (.int (0 : Int32)), .val (.ref w2), .val (.int (22 : Int32)), .val (.int vA), .val (.int vB), .val (.int vC), .val (.ref b3), .val (.ref b11), .val (.ref b22), .val (.int (1 : Int32)), .val (.int (1 : Int32)), .unset, .unset, .unset] [(.int (0 : Int32))]))
            refine OG.istore (Ls' := #[.val (.int p1), .val (.int p2), .val (.int p3), .val (.int p4), .val (.int (0 : Int32)), .val (.ref w2), .val (.int (22 : Int32)), .val (.int vA), .val (.int vB), .val (.int vC), .val (.ref b3), .val (.ref b11), .val (.ref b22), .val (.int (1 : Int32)), .val (.int (1 : Int32)), .val (.int (0 : Int32)), .unset, .unset]) X76 hx hby at_134 rfl rfl ?_
            refine OG.aload X76 hx hby at_136 rfl rfl rfl ?_
            refine OG.aload X76 hx hby at_138 rfl rfl rfl ?_
            refine OG.cV X76 hx hZ hby (by rw [hml]; rfl) hown (y := (⟨"com/example/tranchery/tranchery/rating/Rating", "meets", "(Lcom/example/tranchery/tranchery/rating/Rating;)Z"⟩ : MethodName)) (z := (⟨"com/example/tranchery/tranchery/rating/Rating", "meets", "(Lcom/example/tranchery/tranchery/rating/Rating;)Z"⟩ : MethodName)) (hw _ (List.mem_of_getElem? (i := 22) rfl)) (hw _ (List.mem_of_getElem? (i := 23) rfl)) (notFace_of_selects (args := #[]) (mvT hZ (hw _ (List.mem_of_getElem? (i := 25) rfl)))) (hw _ (List.mem_of_getElem? (i := 25) rfl)) (hw _ (List.mem_of_getElem? (i := 24) rfl)) (hw _ (List.mem_of_getElem? (i := 26) rfl)) (hw _ (List.mem_of_getElem? (i := 6) rfl)) (by decide) (own_rm_meets l Z a0 hw [] b11 b22 vB vC (0 : Int32) T34.heap n0 (Nat.le_trans (Nat.le_trans (Nat.le_trans (Nat.le_trans (Nat.le_trans (Nat.le_trans Z0 E3.1) K10.1) E11.1) K21.1) E22.1) K34.1) f75 Fb34 (by simp [k3])) f77 e76 (argsL := [(.ref b22)]) (stk := [(.ref b22), (.ref b11)]) (st := []) own_pd_2 rfl rfl rfl (W := 0) rfl (by decide) (by decide) (by decide) (by decide) at_140 rfl ?_
            intro T78 L78 v78 X78 q78
            obtain ⟨rfl, N78, e78⟩ := q78
            have M78 := Fr.app M76 N78
            show OG.Go _ _ _ _ _ _ _ (T78.setTop (mkF m 143 #[.val (.int p1), .val (.int p2), .val (.int p3), .val (.int p4), .val (.int (0 : Int32)), .val (.ref w2), .val (.int (22 : Int32)), .val (.int vA), .val (.int vB), .val (.int vC), .val (.ref b3), .val (.ref b11), .val (.ref b22), .val (.int (1 : Int32)), .val (.int (1 : Int32)), .val (.int (0 : Int32)), .unset, .unset] [(.int (0 : Int32))]))
            refine OG.istore (Ls' := #[.val (.int p1), .val (.int p2), .val (.int p3), .val (.int p4), .val (.int (0 : Int32)), .val (.ref w2), .val (.int (22 : Int32)), .val (.int vA), .val (.int vB), .val (.int vC), .val (.ref b3), .val (.ref b11), .val (.ref b22), .val (.int (1 : Int32)), .val (.int (1 : Int32)), .val (.int (0 : Int32)), .val (.int (0 : Int32)), .unset]) X78 hx hby at_143 rfl rfl ?_
            refine OG.aload X78 hx hby at_145 rfl rfl rfl ?_
            refine OG.aload X78 hx hby at_147 rfl rfl rfl ?_
            refine OG.cV X78 hx hZ hby (by rw [hml]; rfl) hown (y := (⟨"com/example/tranchery/tranchery/rating/Rating", "meets", "(Lcom/example/tranchery/tranchery/rating/Rating;)Z"⟩ : MethodName)) (z := (⟨"com/example/tranchery/tranchery/rating/Rating", "meets", "(Lcom/example/tranchery/tranchery/rating/Rating;)Z"⟩ : MethodName)) (hw _ (List.mem_of_getElem? (i := 22) rfl)) (hw _ (List.mem_of_getElem? (i := 23) rfl)) (notFace_of_selects (args := #[]) (mvT hZ (hw _ (List.mem_of_getElem? (i := 25) rfl)))) (hw _ (List.mem_of_getElem? (i := 25) rfl)) (hw _ (List.mem_of_getElem? (i := 24) rfl)) (hw _ (List.mem_of_getElem? (i := 26) rfl)) (hw _ (List.mem_of_getElem? (i := 6) rfl)) (by decide) (own_rm_meets l Z a0 hw [] b3 b22 vA vC (0 : Int32) T34.heap n0 (Nat.le_trans (Nat.le_trans (Nat.le_trans (Nat.le_trans (Nat.le_trans (Nat.le_trans Z0 E3.1) K10.1) E11.1) K21.1) E22.1) K34.1) f72 Fb34 (by simp [k4])) f73 e78 (argsL := [(.ref b22)]) (stk := [(.ref b22), (.ref b3)]) (st := []) own_pd_2 rfl rfl rfl (W := 0) rfl (by decide) (by decide) (by decide) (by decide) at_149 rfl ?_
            intro T79 L79 v79 X79 q79
            obtain ⟨rfl, N79, e79⟩ := q79
            have M79 := Fr.app M78 N79
            show OG.Go _ _ _ _ _ _ _ (T79.setTop (mkF m 152 #[.val (.int p1), .val (.int p2), .val (.int p3), .val (.int p4), .val (.int (0 : Int32)), .val (.ref w2), .val (.int (22 : Int32)), .val (.int vA), .val (.int vB), .val (.int vC), .val (.ref b3), .val (.ref b11), .val (.ref b22), .val (.int (1 : Int32)), .val (.int (1 : Int32)), .val (.int (0 : Int32)), .val (.int (0 : Int32)), .unset] [(.int (0 : Int32))]))
            refine OG.istore (Ls' := #[.val (.int p1), .val (.int p2), .val (.int p3), .val (.int p4), .val (.int (0 : Int32)), .val (.ref w2), .val (.int (22 : Int32)), .val (.int vA), .val (.int vB), .val (.int vC), .val (.ref b3), .val (.ref b11), .val (.ref b22), .val (.int (1 : Int32)), .val (.int (1 : Int32)), .val (.int (0 : Int32)), .val (.int (0 : Int32)), .val (.int (0 : Int32))]) X79 hx hby at_152 rfl rfl ?_
            refine OG.iload X79 hx hby at_154 rfl rfl ?_
            refine OG.ifYes (pc' := 161) X79 hx hby at_156 (feq (by decide)).2 (by decide) (by decide) ?_
            refine OG.iload X79 hx hby at_161 rfl rfl ?_
            refine OG.ifYes (pc' := 173) X79 hx hby at_163 (feq (by decide)).2 (by decide) (by decide) ?_
            refine OG.iload X79 hx hby at_173 rfl rfl ?_
            refine OG.ifNo X79 hx hby at_175 (feq (by decide)).1 rfl ?_
            refine OG.iload X79 hx hby at_178 rfl rfl ?_
            refine OG.ifYes (pc' := 187) X79 hx hby at_180 (teq (by decide)).1 (by decide) (by decide) ?_
            refine OG.iconst (v := (0 : Int32)) X79 hx hby at_187 (by decide) rfl ?_
            refine OG.iload X79 hx hby at_188 rfl rfl ?_
            refine OG.iload X79 hx hby at_190 rfl rfl ?_
            refine OG.icmpYes (pc' := 199) X79 hx hby at_192 (feq k0).2 (by decide) (by decide) ?_
            refine OG.iconst (v := (0 : Int32)) X79 hx hby at_199 (by decide) rfl ?_
            refine OG.icmpYes (pc' := 205) X79 hx hby at_200 (teq (by decide)).1 (by decide) (by decide) ?_
            refine OG.iload X79 hx hby at_205 rfl rfl ?_
            refine OG.iload X79 hx hby at_207 rfl rfl ?_
            refine OG.icmpNo X79 hx hby at_209 (tlt k2).2.1 rfl ?_
            refine OG.iload X79 hx hby at_212 rfl rfl ?_
            refine OG.ifNo X79 hx hby at_214 (feq (by decide)).1 rfl ?_
            refine OG.iload X79 hx hby at_217 rfl rfl ?_
            refine OG.ifYes (pc' := 224) X79 hx hby at_219 (teq (by decide)).1 (by decide) (by decide) ?_
            refine OG.iload X79 hx hby at_224 rfl rfl ?_
            refine OG.iload X79 hx hby at_226 rfl rfl ?_
            refine OG.icmpYes (pc' := 243) X79 hx hby at_228 (flt k1).2.1 (by decide) (by decide) ?_
            refine OG.iload X79 hx hby at_243 rfl rfl ?_
            refine OG.ifNo X79 hx hby at_245 (feq (by decide)).1 rfl ?_
            refine OG.iload X79 hx hby at_248 rfl rfl ?_
            refine OG.ifYes (pc' := 260) X79 hx hby at_250 (teq (by decide)).1 (by decide) (by decide) ?_
            refine OG.iconst (v := (1 : Int32)) X79 hx hby at_260 (by decide) rfl ?_
            refine OG.retZ X79 hx hby Bd.returns (by simp) at_261 Bd.notSynchronized (by decide) (by decide) ?_
            exact ⟨rfl, M79⟩
          · refine OG.aload X34 hx hby at_109 rfl rfl rfl ?_
            refine OG.aload X34 hx hby at_111 rfl rfl rfl ?_
            have f81 := (Fld.keep (Fld.ext E22 (Fld.keep (Fld.ext E11 Fb10) K21 (ninS ne16 nin0))) K34 (ninS ne28 nin0))
            have f82 := (Exa.keep (Exa.ext E22 f27) K34)
            refine OG.cV X34 hx hZ hby (by rw [hml]; rfl) hown (y := (⟨"com/example/tranchery/tranchery/rating/Rating", "meets", "(Lcom/example/tranchery/tranchery/rating/Rating;)Z"⟩ : MethodName)) (z := (⟨"com/example/tranchery/tranchery/rating/Rating", "meets", "(Lcom/example/tranchery/tranchery/rating/Rating;)Z"⟩ : MethodName)) (hw _ (List.mem_of_getElem? (i := 22) rfl)) (hw _ (List.mem_of_getElem? (i := 23) rfl)) (notFace_of_selects (args := #[]) (mvT hZ (hw _ (List.mem_of_getElem? (i := 25) rfl)))) (hw _ (List.mem_of_getElem? (i := 25) rfl)) (hw _ (List.mem_of_getElem? (i := 24) rfl)) (hw _ (List.mem_of_getElem? (i := 26) rfl)) (hw _ (List.mem_of_getElem? (i := 6) rfl)) (by decide) (own_rm_meets l Z a0 hw [] b3 b3 vA vA (1 : Int32) T34.heap n0 (Nat.le_trans (Nat.le_trans (Nat.le_trans (Nat.le_trans (Nat.le_trans (Nat.le_trans Z0 E3.1) K10.1) E11.1) K21.1) E22.1) K34.1) f81 f81 (by simp)) f82 rfl (argsL := [(.ref b3)]) (stk := [(.ref b3), (.ref b3)]) (st := []) own_pd_2 rfl rfl rfl (W := 0) rfl (by decide) (by decide) (by decide) (by decide) at_113 rfl ?_
            intro T80 L80 v80 X80 q80
            obtain ⟨rfl, N80, e80⟩ := q80
            have M80 := Fr.app M34 N80
            show OG.Go _ _ _ _ _ _ _ (T80.setTop (mkF m 116 #[.val (.int p1), .val (.int p2), .val (.int p3), .val (.int p4), .val (.int (0 : Int32)), .val (.ref w2), .val (.int (22 : Int32)), .val (.int vA), .val (.int vB), .val (.int vC), .val (.ref b3), .val (.ref b11), .val (.ref b22), .unset, .unset, .unset, .unset, .unset] [(.int (1 : Int32))]))
            refine OG.istore (Ls' := #[.val (.int p1), .val (.int p2), .val (.int p3), .val (.int p4), .val (.int (0 : Int32)), .val (.ref w2), .val (.int (22 : Int32)), .val (.int vA), .val (.int vB), .val (.int vC), .val (.ref b3), .val (.ref b11), .val (.ref b22), .val (.int (1 : Int32)), .unset, .unset, .unset, .unset]) X80 hx hby at_116 rfl rfl ?_
            refine OG.aload X80 hx hby at_118 rfl rfl rfl ?_
            refine OG.aload X80 hx hby at_120 rfl rfl rfl ?_
            have f84 := (Fld.keep (Fld.ext E22 Fb21) K34 (ninS ne29 nin0))
            refine OG.cV X80 hx hZ hby (by rw [hml]; rfl) hown (y := (⟨"com/example/tranchery/tranchery/rating/Rating", "meets", "(Lcom/example/tranchery/tranchery/rating/Rating;)Z"⟩ : MethodName)) (z := (⟨"com/example/tranchery/tranchery/rating/Rating", "meets", "(Lcom/example/tranchery/tranchery/rating/Rating;)Z"⟩ : MethodName)) (hw _ (List.mem_of_getElem? (i := 22) rfl)) (hw _ (List.mem_of_getElem? (i := 23) rfl)) (notFace_of_selects (args := #[]) (mvT hZ (hw _ (List.mem_of_getElem? (i := 25) rfl)))) (hw _ (List.mem_of_getElem? (i := 25) rfl)) (hw _ (List.mem_of_getElem? (i := 24) rfl)) (hw _ (List.mem_of_getElem? (i := 26) rfl)) (hw _ (List.mem_of_getElem? (i := 6) rfl)) (by decide) (own_rm_meets l Z a0 hw [] b3 b11 vA vB (1 : Int32) T34.heap n0 (Nat.le_trans (Nat.le_trans (Nat.le_trans (Nat.le_trans (Nat.le_trans (Nat.le_trans Z0 E3.1) K10.1) E11.1) K21.1) E22.1) K34.1) f81 f84 (by simp [k1])) f82 e80 (argsL := [(.ref b11)]) (stk := [(.ref b11), (.ref b3)]) (st := []) own_pd_2 rfl rfl rfl (W := 0) rfl (by decide) (by decide) (by decide) (by decide) at_122 rfl ?_
            intro T83 L83 v83 X83 q83
            obtain ⟨rfl, N83, e83⟩ := q83
            have M83 := Fr.app M80 N83
            show OG.Go _ _ _ _ _ _ _ (T83.setTop (mkF m 125 #[.val (.int p1), .val (.int p2), .val (.int p3), .val (.int p4), .val (.int (0 : Int32)), .val (.ref w2), .val (.int (22 : Int32)), .val (.int vA), .val (.int vB), .val (.int vC), .val (.ref b3), .val (.ref b11), .val (.ref b22), .val (.int (1 : Int32)), .unset, .unset, .unset, .unset] [(.int (1 : Int32))]))
            refine OG.istore (Ls' := #[.val (.int p1), .val (.int p2), .val (.int p3), .val (.int p4), .val (.int (0 : Int32)), .val (.ref w2), .val (.int (22 : Int32)), .val (.int vA), .val (.int vB), .val (.int vC), .val (.ref b3), .val (.ref b11), .val (.ref b22), .val (.int (1 : Int32)), .val (.int (1 : Int32)), .unset, .unset, .unset]) X83 hx hby at_125 rfl rfl ?_
            refine OG.aload X83 hx hby at_127 rfl rfl rfl ?_
            refine OG.aload X83 hx hby at_129 rfl rfl rfl ?_
            have f86 := (Exa.keep (Exa.ext E22 Ea21) K34)
            refine OG.cV X83 hx hZ hby (by rw [hml]; rfl) hown (y := (⟨"com/example/tranchery/tranchery/rating/Rating", "meets", "(Lcom/example/tranchery/tranchery/rating/Rating;)Z"⟩ : MethodName)) (z := (⟨"com/example/tranchery/tranchery/rating/Rating", "meets", "(Lcom/example/tranchery/tranchery/rating/Rating;)Z"⟩ : MethodName)) (hw _ (List.mem_of_getElem? (i := 22) rfl)) (hw _ (List.mem_of_getElem? (i := 23) rfl)) (notFace_of_selects (args := #[]) (mvT hZ (hw _ (List.mem_of_getElem? (i := 25) rfl)))) (hw _ (List.mem_of_getElem? (i := 25) rfl)) (hw _ (List.mem_of_getElem? (i := 24) rfl)) (hw _ (List.mem_of_getElem? (i := 26) rfl)) (hw _ (List.mem_of_getElem? (i := 6) rfl)) (by decide) (own_rm_meets l Z a0 hw [] b11 b3 vB vA (0 : Int32) T34.heap n0 (Nat.le_trans (Nat.le_trans (Nat.le_trans (Nat.le_trans (Nat.le_trans (Nat.le_trans Z0 E3.1) K10.1) E11.1) K21.1) E22.1) K34.1) f84 f81 (by simp [k2])) f86 e83 (argsL := [(.ref b3)]) (stk := [(.ref b3), (.ref b11)]) (st := []) own_pd_2 rfl rfl rfl (W := 0) rfl (by decide) (by decide) (by decide) (by decide) at_131 rfl ?_
            intro T85 L85 v85 X85 q85
            obtain ⟨rfl, N85, e85⟩ := q85
            have M85 := Fr.app M83 N85
            show OG.Go _ _ _ _ _ _ _ (T85.setTop (mkF m 134 #[.val (.int p1), .val (.int p2), .val (.int p3), .val (.int p4), .val (.int (0 : Int32)), .val (.ref w2), .val (.int (22 : Int32)), .val (.int vA), .val (.int vB), .val (.int vC), .val (.ref b3), .val (.ref b11), .val (.ref b22), .val (.int (1 : Int32)), .val (.int (1 : Int32)), .unset, .unset, .unset] [(.int (0 : Int32))]))
            refine OG.istore (Ls' := #[.val (.int p1), .val (.int p2), .val (.int p3), .val (.int p4), .val (.int (0 : Int32)), .val (.ref w2), .val (.int (22 : Int32)), .val (.int vA), .val (.int vB), .val (.int vC), .val (.ref b3), .val (.ref b11), .val (.ref b22), .val (.int (1 : Int32)), .val (.int (1 : Int32)), .val (.int (0 : Int32)), .unset, .unset]) X85 hx hby at_134 rfl rfl ?_
            refine OG.aload X85 hx hby at_136 rfl rfl rfl ?_
            refine OG.aload X85 hx hby at_138 rfl rfl rfl ?_
            refine OG.cV X85 hx hZ hby (by rw [hml]; rfl) hown (y := (⟨"com/example/tranchery/tranchery/rating/Rating", "meets", "(Lcom/example/tranchery/tranchery/rating/Rating;)Z"⟩ : MethodName)) (z := (⟨"com/example/tranchery/tranchery/rating/Rating", "meets", "(Lcom/example/tranchery/tranchery/rating/Rating;)Z"⟩ : MethodName)) (hw _ (List.mem_of_getElem? (i := 22) rfl)) (hw _ (List.mem_of_getElem? (i := 23) rfl)) (notFace_of_selects (args := #[]) (mvT hZ (hw _ (List.mem_of_getElem? (i := 25) rfl)))) (hw _ (List.mem_of_getElem? (i := 25) rfl)) (hw _ (List.mem_of_getElem? (i := 24) rfl)) (hw _ (List.mem_of_getElem? (i := 26) rfl)) (hw _ (List.mem_of_getElem? (i := 6) rfl)) (by decide) (own_rm_meets l Z a0 hw [] b11 b22 vB vC (0 : Int32) T34.heap n0 (Nat.le_trans (Nat.le_trans (Nat.le_trans (Nat.le_trans (Nat.le_trans (Nat.le_trans Z0 E3.1) K10.1) E11.1) K21.1) E22.1) K34.1) f84 Fb34 (by simp [k3])) f86 e85 (argsL := [(.ref b22)]) (stk := [(.ref b22), (.ref b11)]) (st := []) own_pd_2 rfl rfl rfl (W := 0) rfl (by decide) (by decide) (by decide) (by decide) at_140 rfl ?_
            intro T87 L87 v87 X87 q87
            obtain ⟨rfl, N87, e87⟩ := q87
            have M87 := Fr.app M85 N87
            show OG.Go _ _ _ _ _ _ _ (T87.setTop (mkF m 143 #[.val (.int p1), .val (.int p2), .val (.int p3), .val (.int p4), .val (.int (0 : Int32)), .val (.ref w2), .val (.int (22 : Int32)), .val (.int vA), .val (.int vB), .val (.int vC), .val (.ref b3), .val (.ref b11), .val (.ref b22), .val (.int (1 : Int32)), .val (.int (1 : Int32)), .val (.int (0 : Int32)), .unset, .unset] [(.int (0 : Int32))]))
            refine OG.istore (Ls' := #[.val (.int p1), .val (.int p2), .val (.int p3), .val (.int p4), .val (.int (0 : Int32)), .val (.ref w2), .val (.int (22 : Int32)), .val (.int vA), .val (.int vB), .val (.int vC), .val (.ref b3), .val (.ref b11), .val (.ref b22), .val (.int (1 : Int32)), .val (.int (1 : Int32)), .val (.int (0 : Int32)), .val (.int (0 : Int32)), .unset]) X87 hx hby at_143 rfl rfl ?_
            refine OG.aload X87 hx hby at_145 rfl rfl rfl ?_
            refine OG.aload X87 hx hby at_147 rfl rfl rfl ?_
            refine OG.cV X87 hx hZ hby (by rw [hml]; rfl) hown (y := (⟨"com/example/tranchery/tranchery/rating/Rating", "meets", "(Lcom/example/tranchery/tranchery/rating/Rating;)Z"⟩ : MethodName)) (z := (⟨"com/example/tranchery/tranchery/rating/Rating", "meets", "(Lcom/example/tranchery/tranchery/rating/Rating;)Z"⟩ : MethodName)) (hw _ (List.mem_of_getElem? (i := 22) rfl)) (hw _ (List.mem_of_getElem? (i := 23) rfl)) (notFace_of_selects (args := #[]) (mvT hZ (hw _ (List.mem_of_getElem? (i := 25) rfl)))) (hw _ (List.mem_of_getElem? (i := 25) rfl)) (hw _ (List.mem_of_getElem? (i := 24) rfl)) (hw _ (List.mem_of_getElem? (i := 26) rfl)) (hw _ (List.mem_of_getElem? (i := 6) rfl)) (by decide) (own_rm_meets l Z a0 hw [] b3 b22 vA vC (1 : Int32) T34.heap n0 (Nat.le_trans (Nat.le_trans (Nat.le_trans (Nat.le_trans (Nat.le_trans (Nat.le_trans Z0 E3.1) K10.1) E11.1) K21.1) E22.1) K34.1) f81 Fb34 (by simp [k4])) f82 e87 (argsL := [(.ref b22)]) (stk := [(.ref b22), (.ref b3)]) (st := []) own_pd_2 rfl rfl rfl (W := 0) rfl (by decide) (by decide) (by decide) (by decide) at_149 rfl ?_
            intro T88 L88 v88 X88 q88
            obtain ⟨rfl, N88, e88⟩ := q88
            have M88 := Fr.app M87 N88
            show OG.Go _ _ _ _ _ _ _ (T88.setTop (mkF m 152 #[.val (.int p1), .val (.int p2), .val (.int p3), .val (.int p4), .val (.int (0 : Int32)), .val (.ref w2), .val (.int (22 : Int32)), .val (.int vA), .val (.int vB), .val (.int vC), .val (.ref b3), .val (.ref b11), .val (.ref b22), .val (.int (1 : Int32)), .val (.int (1 : Int32)), .val (.int (0 : Int32)), .val (.int (0 : Int32)), .unset] [(.int (1 : Int32))]))
            refine OG.istore (Ls' := #[.val (.int p1), .val (.int p2), .val (.int p3), .val (.int p4), .val (.int (0 : Int32)), .val (.ref w2), .val (.int (22 : Int32)), .val (.int vA), .val (.int vB), .val (.int vC), .val (.ref b3), .val (.ref b11), .val (.ref b22), .val (.int (1 : Int32)), .val (.int (1 : Int32)), .val (.int (0 : Int32)), .val (.int (0 : Int32)), .val (.int (1 : Int32))]) X88 hx hby at_152 rfl rfl ?_
            refine OG.iload X88 hx hby at_154 rfl rfl ?_
            refine OG.ifYes (pc' := 161) X88 hx hby at_156 (feq (by decide)).2 (by decide) (by decide) ?_
            refine OG.iload X88 hx hby at_161 rfl rfl ?_
            refine OG.ifYes (pc' := 173) X88 hx hby at_163 (feq (by decide)).2 (by decide) (by decide) ?_
            refine OG.iload X88 hx hby at_173 rfl rfl ?_
            refine OG.ifNo X88 hx hby at_175 (feq (by decide)).1 rfl ?_
            refine OG.iload X88 hx hby at_178 rfl rfl ?_
            refine OG.ifYes (pc' := 187) X88 hx hby at_180 (teq (by decide)).1 (by decide) (by decide) ?_
            refine OG.iconst (v := (0 : Int32)) X88 hx hby at_187 (by decide) rfl ?_
            refine OG.iload X88 hx hby at_188 rfl rfl ?_
            refine OG.iload X88 hx hby at_190 rfl rfl ?_
            refine OG.icmpYes (pc' := 199) X88 hx hby at_192 (feq k0).2 (by decide) (by decide) ?_
            refine OG.iconst (v := (0 : Int32)) X88 hx hby at_199 (by decide) rfl ?_
            refine OG.icmpYes (pc' := 205) X88 hx hby at_200 (teq (by decide)).1 (by decide) (by decide) ?_
            refine OG.iload X88 hx hby at_205 rfl rfl ?_
            refine OG.iload X88 hx hby at_207 rfl rfl ?_
            refine OG.icmpNo X88 hx hby at_209 (tlt k2).2.1 rfl ?_
            refine OG.iload X88 hx hby at_212 rfl rfl ?_
            refine OG.ifNo X88 hx hby at_214 (feq (by decide)).1 rfl ?_
            refine OG.iload X88 hx hby at_217 rfl rfl ?_
            refine OG.ifYes (pc' := 224) X88 hx hby at_219 (teq (by decide)).1 (by decide) (by decide) ?_
            refine OG.iload X88 hx hby at_224 rfl rfl ?_
            refine OG.iload X88 hx hby at_226 rfl rfl ?_
            refine OG.icmpYes (pc' := 243) X88 hx hby at_228 (flt k1).2.1 (by decide) (by decide) ?_
            refine OG.iload X88 hx hby at_243 rfl rfl ?_
            refine OG.ifNo X88 hx hby at_245 (feq (by decide)).1 rfl ?_
            refine OG.iload X88 hx hby at_248 rfl rfl ?_
            refine OG.ifYes (pc' := 260) X88 hx hby at_250 (teq (by decide)).1 (by decide) (by decide) ?_
            refine OG.iconst (v := (1 : Int32)) X88 hx hby at_260 (by decide) rfl ?_
            refine OG.retZ X88 hx hby Bd.returns (by simp) at_261 Bd.notSynchronized (by decide) (by decide) ?_
            exact ⟨rfl, M88⟩
        · by_cases k4 : vC < vA
          · refine OG.aload X34 hx hby at_109 rfl rfl rfl ?_
            refine OG.aload X34 hx hby at_111 rfl rfl rfl ?_
            have f90 := (Fld.keep (Fld.ext E22 (Fld.keep (Fld.ext E11 Fb10) K21 (ninS ne16 nin0))) K34 (ninS ne28 nin0))
            have f91 := (Exa.keep (Exa.ext E22 f27) K34)
            refine OG.cV X34 hx hZ hby (by rw [hml]; rfl) hown (y := (⟨"com/example/tranchery/tranchery/rating/Rating", "meets", "(Lcom/example/tranchery/tranchery/rating/Rating;)Z"⟩ : MethodName)) (z := (⟨"com/example/tranchery/tranchery/rating/Rating", "meets", "(Lcom/example/tranchery/tranchery/rating/Rating;)Z"⟩ : MethodName)) (hw _ (List.mem_of_getElem? (i := 22) rfl)) (hw _ (List.mem_of_getElem? (i := 23) rfl)) (notFace_of_selects (args := #[]) (mvT hZ (hw _ (List.mem_of_getElem? (i := 25) rfl)))) (hw _ (List.mem_of_getElem? (i := 25) rfl)) (hw _ (List.mem_of_getElem? (i := 24) rfl)) (hw _ (List.mem_of_getElem? (i := 26) rfl)) (hw _ (List.mem_of_getElem? (i := 6) rfl)) (by decide) (own_rm_meets l Z a0 hw [] b3 b3 vA vA (1 : Int32) T34.heap n0 (Nat.le_trans (Nat.le_trans (Nat.le_trans (Nat.le_trans (Nat.le_trans (Nat.le_trans Z0 E3.1) K10.1) E11.1) K21.1) E22.1) K34.1) f90 f90 (by simp)) f91 rfl (argsL := [(.ref b3)]) (stk := [(.ref b3), (.ref b3)]) (st := []) own_pd_2 rfl rfl rfl (W := 0) rfl (by decide) (by decide) (by decide) (by decide) at_113 rfl ?_
            intro T89 L89 v89 X89 q89
            obtain ⟨rfl, N89, e89⟩ := q89
            have M89 := Fr.app M34 N89
            show OG.Go _ _ _ _ _ _ _ (T89.setTop (mkF m 116 #[.val (.int p1), .val (.int p2), .val (.int p3), .val (.int p4), .val (.int (0 : Int32)), .val (.ref w2), .val (.int (22 : Int32)), .val (.int vA), .val (.int vB), .val (.int vC), .val (.ref b3), .val (.ref b11), .val (.ref b22), .unset, .unset, .unset, .unset, .unset] [(.int (1 : Int32))]))
            refine OG.istore (Ls' := #[.val (.int p1), .val (.int p2), .val (.int p3), .val (.int p4), .val (.int (0 : Int32)), .val (.ref w2), .val (.int (22 : Int32)), .val (.int vA), .val (.int vB), .val (.int vC), .val (.ref b3), .val (.ref b11), .val (.ref b22), .val (.int (1 : Int32)), .unset, .unset, .unset, .unset]) X89 hx hby at_116 rfl rfl ?_
            refine OG.aload X89 hx hby at_118 rfl rfl rfl ?_
            refine OG.aload X89 hx hby at_120 rfl rfl rfl ?_
            have f93 := (Fld.keep (Fld.ext E22 Fb21) K34 (ninS ne29 nin0))
            refine OG.cV X89 hx hZ hby (by rw [hml]; rfl) hown (y := (⟨"com/example/tranchery/tranchery/rating/Rating", "meets", "(Lcom/example/tranchery/tranchery/rating/Rating;)Z"⟩ : MethodName)) (z := (⟨"com/example/tranchery/tranchery/rating/Rating", "meets", "(Lcom/example/tranchery/tranchery/rating/Rating;)Z"⟩ : MethodName)) (hw _ (List.mem_of_getElem? (i := 22) rfl)) (hw _ (List.mem_of_getElem? (i := 23) rfl)) (notFace_of_selects (args := #[]) (mvT hZ (hw _ (List.mem_of_getElem? (i := 25) rfl)))) (hw _ (List.mem_of_getElem? (i := 25) rfl)) (hw _ (List.mem_of_getElem? (i := 24) rfl)) (hw _ (List.mem_of_getElem? (i := 26) rfl)) (hw _ (List.mem_of_getElem? (i := 6) rfl)) (by decide) (own_rm_meets l Z a0 hw [] b3 b11 vA vB (1 : Int32) T34.heap n0 (Nat.le_trans (Nat.le_trans (Nat.le_trans (Nat.le_trans (Nat.le_trans (Nat.le_trans Z0 E3.1) K10.1) E11.1) K21.1) E22.1) K34.1) f90 f93 (by simp [k1])) f91 e89 (argsL := [(.ref b11)]) (stk := [(.ref b11), (.ref b3)]) (st := []) own_pd_2 rfl rfl rfl (W := 0) rfl (by decide) (by decide) (by decide) (by decide) at_122 rfl ?_
            intro T92 L92 v92 X92 q92
            obtain ⟨rfl, N92, e92⟩ := q92
            have M92 := Fr.app M89 N92
            show OG.Go _ _ _ _ _ _ _ (T92.setTop (mkF m 125 #[.val (.int p1), .val (.int p2), .val (.int p3), .val (.int p4), .val (.int (0 : Int32)), .val (.ref w2), .val (.int (22 : Int32)), .val (.int vA), .val (.int vB), .val (.int vC), .val (.ref b3), .val (.ref b11), .val (.ref b22), .val (.int (1 : Int32)), .unset, .unset, .unset, .unset] [(.int (1 : Int32))]))
            refine OG.istore (Ls' := #[.val (.int p1), .val (.int p2), .val (.int p3), .val (.int p4), .val (.int (0 : Int32)), .val (.ref w2), .val (.int (22 : Int32)), .val (.int vA), .val (.int vB), .val (.int vC), .val (.ref b3), .val (.ref b11), .val (.ref b22), .val (.int (1 : Int32)), .val (.int (1 : Int32)), .unset, .unset, .unset]) X92 hx hby at_125 rfl rfl ?_
            refine OG.aload X92 hx hby at_127 rfl rfl rfl ?_
            refine OG.aload X92 hx hby at_129 rfl rfl rfl ?_
            have f95 := (Exa.keep (Exa.ext E22 Ea21) K34)
            refine OG.cV X92 hx hZ hby (by rw [hml]; rfl) hown (y := (⟨"com/example/tranchery/tranchery/rating/Rating", "meets", "(Lcom/example/tranchery/tranchery/rating/Rating;)Z"⟩ : MethodName)) (z := (⟨"com/example/tranchery/tranchery/rating/Rating", "meets", "(Lcom/example/tranchery/tranchery/rating/Rating;)Z"⟩ : MethodName)) (hw _ (List.mem_of_getElem? (i := 22) rfl)) (hw _ (List.mem_of_getElem? (i := 23) rfl)) (notFace_of_selects (args := #[]) (mvT hZ (hw _ (List.mem_of_getElem? (i := 25) rfl)))) (hw _ (List.mem_of_getElem? (i := 25) rfl)) (hw _ (List.mem_of_getElem? (i := 24) rfl)) (hw _ (List.mem_of_getElem? (i := 26) rfl)) (hw _ (List.mem_of_getElem? (i := 6) rfl)) (by decide) (own_rm_meets l Z a0 hw [] b11 b3 vB vA (0 : Int32) T34.heap n0 (Nat.le_trans (Nat.le_trans (Nat.le_trans (Nat.le_trans (Nat.le_trans (Nat.le_trans Z0 E3.1) K10.1) E11.1) K21.1) E22.1) K34.1) f93 f90 (by simp [k2])) f95 e92 (argsL := [(.ref b3)]) (stk := [(.ref b3), (.ref b11)]) (st := []) own_pd_2 rfl rfl rfl (W := 0) rfl (by decide) (by decide) (by decide) (by decide) at_131 rfl ?_
            intro T94 L94 v94 X94 q94
            obtain ⟨rfl, N94, e94⟩ := q94
            have M94 := Fr.app M92 N94
            show OG.Go _ _ _ _ _ _ _ (T94.setTop (mkF m 134 #[.val (.int p1), .val (.int p2), .val (.int p3), .val (.int p4), .val (.int (0 : Int32)), .val (.ref w2), .val (.int (22 : Int32)), .val (.int vA), .val (.int vB), .val (.int vC), .val (.ref b3), .val (.ref b11), .val (.ref b22), .val (.int (1 : Int32)), .val (.int (1 : Int32)), .unset, .unset, .unset] [(.int (0 : Int32))]))
            refine OG.istore (Ls' := #[.val (.int p1), .val (.int p2), .val (.int p3), .val (.int p4), .val (.int (0 : Int32)), .val (.ref w2), .val (.int (22 : Int32)), .val (.int vA), .val (.int vB), .val (.int vC), .val (.ref b3), .val (.ref b11), .val (.ref b22), .val (.int (1 : Int32)), .val (.int (1 : Int32)), .val (.int (0 : Int32)), .unset, .unset]) X94 hx hby at_134 rfl rfl ?_
            refine OG.aload X94 hx hby at_136 rfl rfl rfl ?_
            refine OG.aload X94 hx hby at_138 rfl rfl rfl ?_
            refine OG.cV X94 hx hZ hby (by rw [hml]; rfl) hown (y := (⟨"com/example/tranchery/tranchery/rating/Rating", "meets", "(Lcom/example/tranchery/tranchery/rating/Rating;)Z"⟩ : MethodName)) (z := (⟨"com/example/tranchery/tranchery/rating/Rating", "meets", "(Lcom/example/tranchery/tranchery/rating/Rating;)Z"⟩ : MethodName)) (hw _ (List.mem_of_getElem? (i := 22) rfl)) (hw _ (List.mem_of_getElem? (i := 23) rfl)) (notFace_of_selects (args := #[]) (mvT hZ (hw _ (List.mem_of_getElem? (i := 25) rfl)))) (hw _ (List.mem_of_getElem? (i := 25) rfl)) (hw _ (List.mem_of_getElem? (i := 24) rfl)) (hw _ (List.mem_of_getElem? (i := 26) rfl)) (hw _ (List.mem_of_getElem? (i := 6) rfl)) (by decide) (own_rm_meets l Z a0 hw [] b11 b22 vB vC (1 : Int32) T34.heap n0 (Nat.le_trans (Nat.le_trans (Nat.le_trans (Nat.le_trans (Nat.le_trans (Nat.le_trans Z0 E3.1) K10.1) E11.1) K21.1) E22.1) K34.1) f93 Fb34 (by simp [k3])) f95 e94 (argsL := [(.ref b22)]) (stk := [(.ref b22), (.ref b11)]) (st := []) own_pd_2 rfl rfl rfl (W := 0) rfl (by decide) (by decide) (by decide) (by decide) at_140 rfl ?_
            intro T96 L96 v96 X96 q96
            obtain ⟨rfl, N96, e96⟩ := q96
            have M96 := Fr.app M94 N96
            show OG.Go _ _ _ _ _ _ _ (T96.setTop (mkF m 143 #[.val (.int p1), .val (.int p2), .val (.int p3), .val (.int p4), .val (.int (0 : Int32)), .val (.ref w2), .val (.int (22 : Int32)), .val (.int vA), .val (.int vB), .val (.int vC), .val (.ref b3), .val (.ref b11), .val (.ref b22), .val (.int (1 : Int32)), .val (.int (1 : Int32)), .val (.int (0 : Int32)), .unset, .unset] [(.int (1 : Int32))]))
            refine OG.istore (Ls' := #[.val (.int p1), .val (.int p2), .val (.int p3), .val (.int p4), .val (.int (0 : Int32)), .val (.ref w2), .val (.int (22 : Int32)), .val (.int vA), .val (.int vB), .val (.int vC), .val (.ref b3), .val (.ref b11), .val (.ref b22), .val (.int (1 : Int32)), .val (.int (1 : Int32)), .val (.int (0 : Int32)), .val (.int (1 : Int32)), .unset]) X96 hx hby at_143 rfl rfl ?_
            refine OG.aload X96 hx hby at_145 rfl rfl rfl ?_
            refine OG.aload X96 hx hby at_147 rfl rfl rfl ?_
            refine OG.cV X96 hx hZ hby (by rw [hml]; rfl) hown (y := (⟨"com/example/tranchery/tranchery/rating/Rating", "meets", "(Lcom/example/tranchery/tranchery/rating/Rating;)Z"⟩ : MethodName)) (z := (⟨"com/example/tranchery/tranchery/rating/Rating", "meets", "(Lcom/example/tranchery/tranchery/rating/Rating;)Z"⟩ : MethodName)) (hw _ (List.mem_of_getElem? (i := 22) rfl)) (hw _ (List.mem_of_getElem? (i := 23) rfl)) (notFace_of_selects (args := #[]) (mvT hZ (hw _ (List.mem_of_getElem? (i := 25) rfl)))) (hw _ (List.mem_of_getElem? (i := 25) rfl)) (hw _ (List.mem_of_getElem? (i := 24) rfl)) (hw _ (List.mem_of_getElem? (i := 26) rfl)) (hw _ (List.mem_of_getElem? (i := 6) rfl)) (by decide) (own_rm_meets l Z a0 hw [] b3 b22 vA vC (0 : Int32) T34.heap n0 (Nat.le_trans (Nat.le_trans (Nat.le_trans (Nat.le_trans (Nat.le_trans (Nat.le_trans Z0 E3.1) K10.1) E11.1) K21.1) E22.1) K34.1) f90 Fb34 (by simp [k4])) f91 e96 (argsL := [(.ref b22)]) (stk := [(.ref b22), (.ref b3)]) (st := []) own_pd_2 rfl rfl rfl (W := 0) rfl (by decide) (by decide) (by decide) (by decide) at_149 rfl ?_
            intro T97 L97 v97 X97 q97
            obtain ⟨rfl, N97, e97⟩ := q97
            have M97 := Fr.app M96 N97
            show OG.Go _ _ _ _ _ _ _ (T97.setTop (mkF m 152 #[.val (.int p1), .val (.int p2), .val (.int p3), .val (.int p4), .val (.int (0 : Int32)), .val (.ref w2), .val (.int (22 : Int32)), .val (.int vA), .val (.int vB), .val (.int vC), .val (.ref b3), .val (.ref b11), .val (.ref b22), .val (.int (1 : Int32)), .val (.int (1 : Int32)), .val (.int (0 : Int32)), .val (.int (1 : Int32)), .unset] [(.int (0 : Int32))]))
            refine OG.istore (Ls' := #[.val (.int p1), .val (.int p2), .val (.int p3), .val (.int p4), .val (.int (0 : Int32)), .val (.ref w2), .val (.int (22 : Int32)), .val (.int vA), .val (.int vB), .val (.int vC), .val (.ref b3), .val (.ref b11), .val (.ref b22), .val (.int (1 : Int32)), .val (.int (1 : Int32)), .val (.int (0 : Int32)), .val (.int (1 : Int32)), .val (.int (0 : Int32))]) X97 hx hby at_152 rfl rfl ?_
            refine OG.iload X97 hx hby at_154 rfl rfl ?_
            refine OG.ifYes (pc' := 161) X97 hx hby at_156 (feq (by decide)).2 (by decide) (by decide) ?_
            refine OG.iload X97 hx hby at_161 rfl rfl ?_
            refine OG.ifYes (pc' := 173) X97 hx hby at_163 (feq (by decide)).2 (by decide) (by decide) ?_
            refine OG.iload X97 hx hby at_173 rfl rfl ?_
            refine OG.ifNo X97 hx hby at_175 (feq (by decide)).1 rfl ?_
            refine OG.iload X97 hx hby at_178 rfl rfl ?_
            refine OG.ifYes (pc' := 187) X97 hx hby at_180 (teq (by decide)).1 (by decide) (by decide) ?_
            refine OG.iconst (v := (0 : Int32)) X97 hx hby at_187 (by decide) rfl ?_
            refine OG.iload X97 hx hby at_188 rfl rfl ?_
            refine OG.iload X97 hx hby at_190 rfl rfl ?_
            refine OG.icmpYes (pc' := 199) X97 hx hby at_192 (feq k0).2 (by decide) (by decide) ?_
            refine OG.iconst (v := (0 : Int32)) X97 hx hby at_199 (by decide) rfl ?_
            refine OG.icmpYes (pc' := 205) X97 hx hby at_200 (teq (by decide)).1 (by decide) (by decide) ?_
            refine OG.iload X97 hx hby at_205 rfl rfl ?_
            refine OG.iload X97 hx hby at_207 rfl rfl ?_
            refine OG.icmpNo X97 hx hby at_209 (tlt k2).2.1 rfl ?_
            refine OG.iload X97 hx hby at_212 rfl rfl ?_
            refine OG.ifNo X97 hx hby at_214 (feq (by decide)).1 rfl ?_
            refine OG.iload X97 hx hby at_217 rfl rfl ?_
            refine OG.ifYes (pc' := 224) X97 hx hby at_219 (teq (by decide)).1 (by decide) (by decide) ?_
            refine OG.iload X97 hx hby at_224 rfl rfl ?_
            refine OG.iload X97 hx hby at_226 rfl rfl ?_
            refine OG.icmpYes (pc' := 243) X97 hx hby at_228 (flt k1).2.1 (by decide) (by decide) ?_
            refine OG.iload X97 hx hby at_243 rfl rfl ?_
            refine OG.ifNo X97 hx hby at_245 (feq (by decide)).1 rfl ?_
            refine OG.iload X97 hx hby at_248 rfl rfl ?_
            refine OG.ifNo X97 hx hby at_250 (feq (by decide)).1 rfl ?_
            refine OG.iload X97 hx hby at_253 rfl rfl ?_
            refine OG.ifNo X97 hx hby at_255 (teq (by decide)).2 rfl ?_
            refine OG.iconst (v := (0 : Int32)) X97 hx hby at_258 (by decide) rfl ?_
            refine OG.retZ X97 hx hby Bd.returns (by simp) at_259 Bd.notSynchronized (by decide) (by decide) ?_
            exfalso
            simp only [Int32.lt_iff_toInt_lt, ← Int32.toInt_inj] at k0 k1 k2 k3 k4
            omega
          · refine OG.aload X34 hx hby at_109 rfl rfl rfl ?_
            refine OG.aload X34 hx hby at_111 rfl rfl rfl ?_
            have f99 := (Fld.keep (Fld.ext E22 (Fld.keep (Fld.ext E11 Fb10) K21 (ninS ne16 nin0))) K34 (ninS ne28 nin0))
            have f100 := (Exa.keep (Exa.ext E22 f27) K34)
            refine OG.cV X34 hx hZ hby (by rw [hml]; rfl) hown (y := (⟨"com/example/tranchery/tranchery/rating/Rating", "meets", "(Lcom/example/tranchery/tranchery/rating/Rating;)Z"⟩ : MethodName)) (z := (⟨"com/example/tranchery/tranchery/rating/Rating", "meets", "(Lcom/example/tranchery/tranchery/rating/Rating;)Z"⟩ : MethodName)) (hw _ (List.mem_of_getElem? (i := 22) rfl)) (hw _ (List.mem_of_getElem? (i := 23) rfl)) (notFace_of_selects (args := #[]) (mvT hZ (hw _ (List.mem_of_getElem? (i := 25) rfl)))) (hw _ (List.mem_of_getElem? (i := 25) rfl)) (hw _ (List.mem_of_getElem? (i := 24) rfl)) (hw _ (List.mem_of_getElem? (i := 26) rfl)) (hw _ (List.mem_of_getElem? (i := 6) rfl)) (by decide) (own_rm_meets l Z a0 hw [] b3 b3 vA vA (1 : Int32) T34.heap n0 (Nat.le_trans (Nat.le_trans (Nat.le_trans (Nat.le_trans (Nat.le_trans (Nat.le_trans Z0 E3.1) K10.1) E11.1) K21.1) E22.1) K34.1) f99 f99 (by simp)) f100 rfl (argsL := [(.ref b3)]) (stk := [(.ref b3), (.ref b3)]) (st := []) own_pd_2 rfl rfl rfl (W := 0) rfl (by decide) (by decide) (by decide) (by decide) at_113 rfl ?_
            intro T98 L98 v98 X98 q98
            obtain ⟨rfl, N98, e98⟩ := q98
            have M98 := Fr.app M34 N98
            show OG.Go _ _ _ _ _ _ _ (T98.setTop (mkF m 116 #[.val (.int p1), .val (.int p2), .val (.int p3), .val (.int p4), .val (.int (0 : Int32)), .val (.ref w2), .val (.int (22 : Int32)), .val (.int vA), .val (.int vB), .val (.int vC), .val (.ref b3), .val (.ref b11), .val (.ref b22), .unset, .unset, .unset, .unset, .unset] [(.int (1 : Int32))]))
            refine OG.istore (Ls' := #[.val (.int p1), .val (.int p2), .val (.int p3), .val (.int p4), .val (.int (0 : Int32)), .val (.ref w2), .val (.int (22 : Int32)), .val (.int vA), .val (.int vB), .val (.int vC), .val (.ref b3), .val (.ref b11), .val (.ref b22), .val (.int (1 : Int32)), .unset, .unset, .unset, .unset]) X98 hx hby at_116 rfl rfl ?_
            refine OG.aload X98 hx hby at_118 rfl rfl rfl ?_
            refine OG.aload X98 hx hby at_120 rfl rfl rfl ?_
            have f102 := (Fld.keep (Fld.ext E22 Fb21) K34 (ninS ne29 nin0))
            refine OG.cV X98 hx hZ hby (by rw [hml]; rfl) hown (y := (⟨"com/example/tranchery/tranchery/rating/Rating", "meets", "(Lcom/example/tranchery/tranchery/rating/Rating;)Z"⟩ : MethodName)) (z := (⟨"com/example/tranchery/tranchery/rating/Rating", "meets", "(Lcom/example/tranchery/tranchery/rating/Rating;)Z"⟩ : MethodName)) (hw _ (List.mem_of_getElem? (i := 22) rfl)) (hw _ (List.mem_of_getElem? (i := 23) rfl)) (notFace_of_selects (args := #[]) (mvT hZ (hw _ (List.mem_of_getElem? (i := 25) rfl)))) (hw _ (List.mem_of_getElem? (i := 25) rfl)) (hw _ (List.mem_of_getElem? (i := 24) rfl)) (hw _ (List.mem_of_getElem? (i := 26) rfl)) (hw _ (List.mem_of_getElem? (i := 6) rfl)) (by decide) (own_rm_meets l Z a0 hw [] b3 b11 vA vB (1 : Int32) T34.heap n0 (Nat.le_trans (Nat.le_trans (Nat.le_trans (Nat.le_trans (Nat.le_trans (Nat.le_trans Z0 E3.1) K10.1) E11.1) K21.1) E22.1) K34.1) f99 f102 (by simp [k1])) f100 e98 (argsL := [(.ref b11)]) (stk := [(.ref b11), (.ref b3)]) (st := []) own_pd_2 rfl rfl rfl (W := 0) rfl (by decide) (by decide) (by decide) (by decide) at_122 rfl ?_
            intro T101 L101 v101 X101 q101
            obtain ⟨rfl, N101, e101⟩ := q101
            have M101 := Fr.app M98 N101
            show OG.Go _ _ _ _ _ _ _ (T101.setTop (mkF m 125 #[.val (.int p1), .val (.int p2), .val (.int p3), .val (.int p4), .val (.int (0 : Int32)), .val (.ref w2), .val (.int (22 : Int32)), .val (.int vA), .val (.int vB), .val (.int vC), .val (.ref b3), .val (.ref b11), .val (.ref b22), .val (.int (1 : Int32)), .unset, .unset, .unset, .unset] [(.int (1 : Int32))]))
            refine OG.istore (Ls' := #[.val (.int p1), .val (.int p2), .val (.int p3), .val (.int p4), .val (.int (0 : Int32)), .val (.ref w2), .val (.int (22 : Int32)), .val (.int vA), .val (.int vB), .val (.int vC), .val (.ref b3), .val (.ref b11), .val (.ref b22), .val (.int (1 : Int32)), .val (.int (1 : Int32)), .unset, .unset, .unset]) X101 hx hby at_125 rfl rfl ?_
            refine OG.aload X101 hx hby at_127 rfl rfl rfl ?_
            refine OG.aload X101 hx hby at_129 rfl rfl rfl ?_
            have f104 := (Exa.keep (Exa.ext E22 Ea21) K34)
            refine OG.cV X101 hx hZ hby (by rw [hml]; rfl) hown (y := (⟨"com/example/tranchery/tranchery/rating/Rating", "meets", "(Lcom/example/tranchery/tranchery/rating/Rating;)Z"⟩ : MethodName)) (z := (⟨"com/example/tranchery/tranchery/rating/Rating", "meets", "(Lcom/example/tranchery/tranchery/rating/Rating;)Z"⟩ : MethodName)) (hw _ (List.mem_of_getElem? (i := 22) rfl)) (hw _ (List.mem_of_getElem? (i := 23) rfl)) (notFace_of_selects (args := #[]) (mvT hZ (hw _ (List.mem_of_getElem? (i := 25) rfl)))) (hw _ (List.mem_of_getElem? (i := 25) rfl)) (hw _ (List.mem_of_getElem? (i := 24) rfl)) (hw _ (List.mem_of_getElem? (i := 26) rfl)) (hw _ (List.mem_of_getElem? (i := 6) rfl)) (by decide) (own_rm_meets l Z a0 hw [] b11 b3 vB vA (0 : Int32) T34.heap n0 (Nat.le_trans (Nat.le_trans (Nat.le_trans (Nat.le_trans (Nat.le_trans (Nat.le_trans Z0 E3.1) K10.1) E11.1) K21.1) E22.1) K34.1) f102 f99 (by simp [k2])) f104 e101 (argsL := [(.ref b3)]) (stk := [(.ref b3), (.ref b11)]) (st := []) own_pd_2 rfl rfl rfl (W := 0) rfl (by decide) (by decide) (by decide) (by decide) at_131 rfl ?_
            intro T103 L103 v103 X103 q103
            obtain ⟨rfl, N103, e103⟩ := q103
            have M103 := Fr.app M101 N103
            show OG.Go _ _ _ _ _ _ _ (T103.setTop (mkF m 134 #[.val (.int p1), .val (.int p2), .val (.int p3), .val (.int p4), .val (.int (0 : Int32)), .val (.ref w2), .val (.int (22 : Int32)), .val (.int vA), .val (.int vB), .val (.int vC), .val (.ref b3), .val (.ref b11), .val (.ref b22), .val (.int (1 : Int32)), .val (.int (1 : Int32)), .unset, .unset, .unset] [(.int (0 : Int32))]))
            refine OG.istore (Ls' := #[.val (.int p1), .val (.int p2), .val (.int p3), .val (.int p4), .val (.int (0 : Int32)), .val (.ref w2), .val (.int (22 : Int32)), .val (.int vA), .val (.int vB), .val (.int vC), .val (.ref b3), .val (.ref b11), .val (.ref b22), .val (.int (1 : Int32)), .val (.int (1 : Int32)), .val (.int (0 : Int32)), .unset, .unset]) X103 hx hby at_134 rfl rfl ?_
            refine OG.aload X103 hx hby at_136 rfl rfl rfl ?_
            refine OG.aload X103 hx hby at_138 rfl rfl rfl ?_
            refine OG.cV X103 hx hZ hby (by rw [hml]; rfl) hown (y := (⟨"com/example/tranchery/tranchery/rating/Rating", "meets", "(Lcom/example/tranchery/tranchery/rating/Rating;)Z"⟩ : MethodName)) (z := (⟨"com/example/tranchery/tranchery/rating/Rating", "meets", "(Lcom/example/tranchery/tranchery/rating/Rating;)Z"⟩ : MethodName)) (hw _ (List.mem_of_getElem? (i := 22) rfl)) (hw _ (List.mem_of_getElem? (i := 23) rfl)) (notFace_of_selects (args := #[]) (mvT hZ (hw _ (List.mem_of_getElem? (i := 25) rfl)))) (hw _ (List.mem_of_getElem? (i := 25) rfl)) (hw _ (List.mem_of_getElem? (i := 24) rfl)) (hw _ (List.mem_of_getElem? (i := 26) rfl)) (hw _ (List.mem_of_getElem? (i := 6) rfl)) (by decide) (own_rm_meets l Z a0 hw [] b11 b22 vB vC (1 : Int32) T34.heap n0 (Nat.le_trans (Nat.le_trans (Nat.le_trans (Nat.le_trans (Nat.le_trans (Nat.le_trans Z0 E3.1) K10.1) E11.1) K21.1) E22.1) K34.1) f102 Fb34 (by simp [k3])) f104 e103 (argsL := [(.ref b22)]) (stk := [(.ref b22), (.ref b11)]) (st := []) own_pd_2 rfl rfl rfl (W := 0) rfl (by decide) (by decide) (by decide) (by decide) at_140 rfl ?_
            intro T105 L105 v105 X105 q105
            obtain ⟨rfl, N105, e105⟩ := q105
            have M105 := Fr.app M103 N105
            show OG.Go _ _ _ _ _ _ _ (T105.setTop (mkF m 143 #[.val (.int p1), .val (.int p2), .val (.int p3), .val (.int p4), .val (.int (0 : Int32)), .val (.ref w2), .val (.int (22 : Int32)), .val (.int vA), .val (.int vB), .val (.int vC), .val (.ref b3), .val (.ref b11), .val (.ref b22), .val (.int (1 : Int32)), .val (.int (1 : Int32)), .val (.int (0 : Int32)), .unset, .unset] [(.int (1 : Int32))]))
            refine OG.istore (Ls' := #[.val (.int p1), .val (.int p2), .val (.int p3), .val (.int p4), .val (.int (0 : Int32)), .val (.ref w2), .val (.int (22 : Int32)), .val (.int vA), .val (.int vB), .val (.int vC), .val (.ref b3), .val (.ref b11), .val (.ref b22), .val (.int (1 : Int32)), .val (.int (1 : Int32)), .val (.int (0 : Int32)), .val (.int (1 : Int32)), .unset]) X105 hx hby at_143 rfl rfl ?_
            refine OG.aload X105 hx hby at_145 rfl rfl rfl ?_
            refine OG.aload X105 hx hby at_147 rfl rfl rfl ?_
            refine OG.cV X105 hx hZ hby (by rw [hml]; rfl) hown (y := (⟨"com/example/tranchery/tranchery/rating/Rating", "meets", "(Lcom/example/tranchery/tranchery/rating/Rating;)Z"⟩ : MethodName)) (z := (⟨"com/example/tranchery/tranchery/rating/Rating", "meets", "(Lcom/example/tranchery/tranchery/rating/Rating;)Z"⟩ : MethodName)) (hw _ (List.mem_of_getElem? (i := 22) rfl)) (hw _ (List.mem_of_getElem? (i := 23) rfl)) (notFace_of_selects (args := #[]) (mvT hZ (hw _ (List.mem_of_getElem? (i := 25) rfl)))) (hw _ (List.mem_of_getElem? (i := 25) rfl)) (hw _ (List.mem_of_getElem? (i := 24) rfl)) (hw _ (List.mem_of_getElem? (i := 26) rfl)) (hw _ (List.mem_of_getElem? (i := 6) rfl)) (by decide) (own_rm_meets l Z a0 hw [] b3 b22 vA vC (1 : Int32) T34.heap n0 (Nat.le_trans (Nat.le_trans (Nat.le_trans (Nat.le_trans (Nat.le_trans (Nat.le_trans Z0 E3.1) K10.1) E11.1) K21.1) E22.1) K34.1) f99 Fb34 (by simp [k4])) f100 e105 (argsL := [(.ref b22)]) (stk := [(.ref b22), (.ref b3)]) (st := []) own_pd_2 rfl rfl rfl (W := 0) rfl (by decide) (by decide) (by decide) (by decide) at_149 rfl ?_
            intro T106 L106 v106 X106 q106
            obtain ⟨rfl, N106, e106⟩ := q106
            have M106 := Fr.app M105 N106
            show OG.Go _ _ _ _ _ _ _ (T106.setTop (mkF m 152 #[.val (.int p1), .val (.int p2), .val (.int p3), .val (.int p4), .val (.int (0 : Int32)), .val (.ref w2), .val (.int (22 : Int32)), .val (.int vA), .val (.int vB), .val (.int vC), .val (.ref b3), .val (.ref b11), .val (.ref b22), .val (.int (1 : Int32)), .val (.int (1 : Int32)), .val (.int (0 : Int32)), .val (.int (1 : Int32)), .unset] [(.int (1 : Int32))]))
            refine OG.istore (Ls' := #[.val (.int p1), .val (.int p2), .val (.int p3), .val (.int p4), .val (.int (0 : Int32)), .val (.ref w2), .val (.int (22 : Int32)), .val (.int vA), .val (.int vB), .val (.int vC), .val (.ref b3), .val (.ref b11), .val (.ref b22), .val (.int (1 : Int32)), .val (.int (1 : Int32)), .val (.int (0 : Int32)), .val (.int (1 : Int32)), .val (.int (1 : Int32))]) X106 hx hby at_152 rfl rfl ?_
            refine OG.iload X106 hx hby at_154 rfl rfl ?_
            refine OG.ifYes (pc' := 161) X106 hx hby at_156 (feq (by decide)).2 (by decide) (by decide) ?_
            refine OG.iload X106 hx hby at_161 rfl rfl ?_
            refine OG.ifYes (pc' := 173) X106 hx hby at_163 (feq (by decide)).2 (by decide) (by decide) ?_
            refine OG.iload X106 hx hby at_173 rfl rfl ?_
            refine OG.ifNo X106 hx hby at_175 (feq (by decide)).1 rfl ?_
            refine OG.iload X106 hx hby at_178 rfl rfl ?_
            refine OG.ifYes (pc' := 187) X106 hx hby at_180 (teq (by decide)).1 (by decide) (by decide) ?_
            refine OG.iconst (v := (0 : Int32)) X106 hx hby at_187 (by decide) rfl ?_
            refine OG.iload X106 hx hby at_188 rfl rfl ?_
            refine OG.iload X106 hx hby at_190 rfl rfl ?_
            refine OG.icmpYes (pc' := 199) X106 hx hby at_192 (feq k0).2 (by decide) (by decide) ?_
            refine OG.iconst (v := (0 : Int32)) X106 hx hby at_199 (by decide) rfl ?_
            refine OG.icmpYes (pc' := 205) X106 hx hby at_200 (teq (by decide)).1 (by decide) (by decide) ?_
            refine OG.iload X106 hx hby at_205 rfl rfl ?_
            refine OG.iload X106 hx hby at_207 rfl rfl ?_
            refine OG.icmpNo X106 hx hby at_209 (tlt k2).2.1 rfl ?_
            refine OG.iload X106 hx hby at_212 rfl rfl ?_
            refine OG.ifNo X106 hx hby at_214 (feq (by decide)).1 rfl ?_
            refine OG.iload X106 hx hby at_217 rfl rfl ?_
            refine OG.ifYes (pc' := 224) X106 hx hby at_219 (teq (by decide)).1 (by decide) (by decide) ?_
            refine OG.iload X106 hx hby at_224 rfl rfl ?_
            refine OG.iload X106 hx hby at_226 rfl rfl ?_
            refine OG.icmpYes (pc' := 243) X106 hx hby at_228 (flt k1).2.1 (by decide) (by decide) ?_
            refine OG.iload X106 hx hby at_243 rfl rfl ?_
            refine OG.ifNo X106 hx hby at_245 (feq (by decide)).1 rfl ?_
            refine OG.iload X106 hx hby at_248 rfl rfl ?_
            refine OG.ifNo X106 hx hby at_250 (feq (by decide)).1 rfl ?_
            refine OG.iload X106 hx hby at_253 rfl rfl ?_
            refine OG.ifYes (pc' := 260) X106 hx hby at_255 (feq (by decide)).2 (by decide) (by decide) ?_
            refine OG.iconst (v := (1 : Int32)) X106 hx hby at_260 (by decide) rfl ?_
            refine OG.retZ X106 hx hby Bd.returns (by simp) at_261 Bd.notSynchronized (by decide) (by decide) ?_
            exact ⟨rfl, M106⟩
      · have k0 : vA = vB := Int32.le_antisymm (Int32.not_lt.mp k1) (Int32.not_lt.mp k2)
        by_cases k3 : vC < vB
        · by_cases k4 : vC < vA
          · refine OG.aload X34 hx hby at_109 rfl rfl rfl ?_
            refine OG.aload X34 hx hby at_111 rfl rfl rfl ?_
            have f108 := (Fld.keep (Fld.ext E22 (Fld.keep (Fld.ext E11 Fb10) K21 (ninS ne16 nin0))) K34 (ninS ne28 nin0))
            have f109 := (Exa.keep (Exa.ext E22 f27) K34)
            refine OG.cV X34 hx hZ hby (by rw [hml]; rfl) hown (y := (⟨"com/example/tranchery/tranchery/rating/Rating", "meets", "(Lcom/example/tranchery/tranchery/rating/Rating;)Z"⟩ : MethodName)) (z := (⟨"com/example/tranchery/tranchery/rating/Rating", "meets", "(Lcom/example/tranchery/tranchery/rating/Rating;)Z"⟩ : MethodName)) (hw _ (List.mem_of_getElem? (i := 22) rfl)) (hw _ (List.mem_of_getElem? (i := 23) rfl)) (notFace_of_selects (args := #[]) (mvT hZ (hw _ (List.mem_of_getElem? (i := 25) rfl)))) (hw _ (List.mem_of_getElem? (i := 25) rfl)) (hw _ (List.mem_of_getElem? (i := 24) rfl)) (hw _ (List.mem_of_getElem? (i := 26) rfl)) (hw _ (List.mem_of_getElem? (i := 6) rfl)) (by decide) (own_rm_meets l Z a0 hw [] b3 b3 vA vA (1 : Int32) T34.heap n0 (Nat.le_trans (Nat.le_trans (Nat.le_trans (Nat.le_trans (Nat.le_trans (Nat.le_trans Z0 E3.1) K10.1) E11.1) K21.1) E22.1) K34.1) f108 f108 (by simp)) f109 rfl (argsL := [(.ref b3)]) (stk := [(.ref b3), (.ref b3)]) (st := []) own_pd_2 rfl rfl rfl (W := 0) rfl (by decide) (by decide) (by decide) (by decide) at_113 rfl ?_
            intro T107 L107 v107 X107 q107
            obtain ⟨rfl, N107, e107⟩ := q107
            have M107 := Fr.app M34 N107
            show OG.Go _ _ _ _ _ _ _ (T107.setTop (mkF m 116 #[.val (.int p1), .val (.int p2), .val (.int p3), .val (.int p4), .val (.int (0 : Int32)), .val (.ref w2), .val (.int (22 : Int32)), .val (.int vA), .val (.int vB), .val (.int vC), .val (.ref b3), .val (.ref b11), .val (.ref b22), .unset, .unset, .unset, .unset, .unset] [(.int (1 : Int32))]))
            refine OG.istore (Ls' := #[.val (.int p1), .val (.int p2), .val (.int p3), .val (.int p4), .val (.int (0 : Int32)), .val (.ref w2), .val (.int (22 : Int32)), .val (.int vA), .val (.int vB), .val (.int vC), .val (.ref b3), .val (.ref b11), .val (.ref b22), .val (.int (1 : Int32)), .unset, .unset, .unset, .unset]) X107 hx hby at_116 rfl rfl ?_
            refine OG.aload X107 hx hby at_118 rfl rfl rfl ?_
            refine OG.aload X107 hx hby at_120 rfl rfl rfl ?_
            have f111 := (Fld.keep (Fld.ext E22 Fb21) K34 (ninS ne29 nin0))
            refine OG.cV X107 hx hZ hby (by rw [hml]; rfl) hown (y := (⟨"com/example/tranchery/tranchery/rating/Rating", "meets", "(Lcom/example/tranchery/tranchery/rating/Rating;)Z"⟩ : MethodName)) (z := (⟨"com/example/tranchery/tranchery/rating/Rating", "meets", "(Lcom/example/tranchery/tranchery/rating/Rating;)Z"⟩ : MethodName)) (hw _ (List.mem_of_getElem? (i := 22) rfl)) (hw _ (List.mem_of_getElem? (i := 23) rfl)) (notFace_of_selects (args := #[]) (mvT hZ (hw _ (List.mem_of_getElem? (i := 25) rfl)))) (hw _ (List.mem_of_getElem? (i := 25) rfl)) (hw _ (List.mem_of_getElem? (i := 24) rfl)) (hw _ (List.mem_of_getElem? (i := 26) rfl)) (hw _ (List.mem_of_getElem? (i := 6) rfl)) (by decide) (own_rm_meets l Z a0 hw [] b3 b11 vA vB (1 : Int32) T34.heap n0 (Nat.le_trans (Nat.le_trans (Nat.le_trans (Nat.le_trans (Nat.le_trans (Nat.le_trans Z0 E3.1) K10.1) E11.1) K21.1) E22.1) K34.1) f108 f111 (by simp [k1])) f109 e107 (argsL := [(.ref b11)]) (stk := [(.ref b11), (.ref b3)]) (st := []) own_pd_2 rfl rfl rfl (W := 0) rfl (by decide) (by decide) (by decide) (by decide) at_122 rfl ?_
            intro T110 L110 v110 X110 q110
            obtain ⟨rfl, N110, e110⟩ := q110
            have M110 := Fr.app M107 N110
            show OG.Go _ _ _ _ _ _ _ (T110.setTop (mkF m 125 #[.val (.int p1), .val (.int p2), .val (.int p3), .val (.int p4), .val (.int (0 : Int32)), .val (.ref w2), .val (.int (22 : Int32)), .val (.int vA), .val (.int vB), .val (.int vC), .val (.ref b3), .val (.ref b11), .val (.ref b22), .val (.int (1 : Int32)), .unset, .unset, .unset, .unset] [(.int (1 : Int32))]))
            refine OG.istore (Ls' := #[.val (.int p1), .val (.int p2), .val (.int p3), .val (.int p4), .val (.int (0 : Int32)), .val (.ref w2), .val (.int (22 : Int32)), .val (.int vA), .val (.int vB), .val (.int vC), .val (.ref b3), .val (.ref b11), .val (.ref b22), .val (.int (1 : Int32)), .val (.int (1 : Int32)), .unset, .unset, .unset]) X110 hx hby at_125 rfl rfl ?_
            refine OG.aload X110 hx hby at_127 rfl rfl rfl ?_
            refine OG.aload X110 hx hby at_129 rfl rfl rfl ?_
            have f113 := (Exa.keep (Exa.ext E22 Ea21) K34)
            refine OG.cV X110 hx hZ hby (by rw [hml]; rfl) hown (y := (⟨"com/example/tranchery/tranchery/rating/Rating", "meets", "(Lcom/example/tranchery/tranchery/rating/Rating;)Z"⟩ : MethodName)) (z := (⟨"com/example/tranchery/tranchery/rating/Rating", "meets", "(Lcom/example/tranchery/tranchery/rating/Rating;)Z"⟩ : MethodName)) (hw _ (List.mem_of_getElem? (i := 22) rfl)) (hw _ (List.mem_of_getElem? (i := 23) rfl)) (notFace_of_selects (args := #[]) (mvT hZ (hw _ (List.mem_of_getElem? (i := 25) rfl)))) (hw _ (List.mem_of_getElem? (i := 25) rfl)) (hw _ (List.mem_of_getElem? (i := 24) rfl)) (hw _ (List.mem_of_getElem? (i := 26) rfl)) (hw _ (List.mem_of_getElem? (i := 6) rfl)) (by decide) (own_rm_meets l Z a0 hw [] b11 b3 vB vA (1 : Int32) T34.heap n0 (Nat.le_trans (Nat.le_trans (Nat.le_trans (Nat.le_trans (Nat.le_trans (Nat.le_trans Z0 E3.1) K10.1) E11.1) K21.1) E22.1) K34.1) f111 f108 (by simp [k2])) f113 e110 (argsL := [(.ref b3)]) (stk := [(.ref b3), (.ref b11)]) (st := []) own_pd_2 rfl rfl rfl (W := 0) rfl (by decide) (by decide) (by decide) (by decide) at_131 rfl ?_
            intro T112 L112 v112 X112 q112
            obtain ⟨rfl, N112, e112⟩ := q112
            have M112 := Fr.app M110 N112
            show OG.Go _ _ _ _ _ _ _ (T112.setTop (mkF m 134 #[.val (.int p1), .val (.int p2), .val (.int p3), .val (.int p4), .val (.int (0 : Int32)), .val (.ref w2), .val (.int (22 : Int32)), .val (.int vA), .val (.int vB), .val (.int vC), .val (.ref b3), .val (.ref b11), .val (.ref b22), .val (.int (1 : Int32)), .val (.int (1 : Int32)), .unset, .unset, .unset] [(.int (1 : Int32))]))
            refine OG.istore (Ls' := #[.val (.int p1), .val (.int p2), .val (.int p3), .val (.int p4), .val (.int (0 : Int32)), .val (.ref w2), .val (.int (22 : Int32)), .val (.int vA), .val (.int vB), .val (.int vC), .val (.ref b3), .val (.ref b11), .val (.ref b22), .val (.int (1 : Int32)), .val (.int (1 : Int32)), .val (.int (1 : Int32)), .unset, .unset]) X112 hx hby at_134 rfl rfl ?_
            refine OG.aload X112 hx hby at_136 rfl rfl rfl ?_
            refine OG.aload X112 hx hby at_138 rfl rfl rfl ?_
            refine OG.cV X112 hx hZ hby (by rw [hml]; rfl) hown (y := (⟨"com/example/tranchery/tranchery/rating/Rating", "meets", "(Lcom/example/tranchery/tranchery/rating/Rating;)Z"⟩ : MethodName)) (z := (⟨"com/example/tranchery/tranchery/rating/Rating", "meets", "(Lcom/example/tranchery/tranchery/rating/Rating;)Z"⟩ : MethodName)) (hw _ (List.mem_of_getElem? (i := 22) rfl)) (hw _ (List.mem_of_getElem? (i := 23) rfl)) (notFace_of_selects (args := #[]) (mvT hZ (hw _ (List.mem_of_getElem? (i := 25) rfl)))) (hw _ (List.mem_of_getElem? (i := 25) rfl)) (hw _ (List.mem_of_getElem? (i := 24) rfl)) (hw _ (List.mem_of_getElem? (i := 26) rfl)) (hw _ (List.mem_of_getElem? (i := 6) rfl)) (by decide) (own_rm_meets l Z a0 hw [] b11 b22 vB vC (0 : Int32) T34.heap n0 (Nat.le_trans (Nat.le_trans (Nat.le_trans (Nat.le_trans (Nat.le_trans (Nat.le_trans Z0 E3.1) K10.1) E11.1) K21.1) E22.1) K34.1) f111 Fb34 (by simp [k3])) f113 e112 (argsL := [(.ref b22)]) (stk := [(.ref b22), (.ref b11)]) (st := []) own_pd_2 rfl rfl rfl (W := 0) rfl (by decide) (by decide) (by decide) (by decide) at_140 rfl ?_
            intro T114 L114 v114 X114 q114
            obtain ⟨rfl, N114, e114⟩ := q114
            have M114 := Fr.app M112 N114
            show OG.Go _ _ _ _ _ _ _ (T114.setTop (mkF m 143 #[.val (.int p1), .val (.int p2), .val (.int p3), .val (.int p4), .val (.int (0 : Int32)), .val (.ref w2), .val (.int (22 : Int32)), .val (.int vA), .val (.int vB), .val (.int vC), .val (.ref b3), .val (.ref b11), .val (.ref b22), .val (.int (1 : Int32)), .val (.int (1 : Int32)), .val (.int (1 : Int32)), .unset, .unset] [(.int (0 : Int32))]))
            refine OG.istore (Ls' := #[.val (.int p1), .val (.int p2), .val (.int p3), .val (.int p4), .val (.int (0 : Int32)), .val (.ref w2), .val (.int (22 : Int32)), .val (.int vA), .val (.int vB), .val (.int vC), .val (.ref b3), .val (.ref b11), .val (.ref b22), .val (.int (1 : Int32)), .val (.int (1 : Int32)), .val (.int (1 : Int32)), .val (.int (0 : Int32)), .unset]) X114 hx hby at_143 rfl rfl ?_
            refine OG.aload X114 hx hby at_145 rfl rfl rfl ?_
            refine OG.aload X114 hx hby at_147 rfl rfl rfl ?_
            refine OG.cV X114 hx hZ hby (by rw [hml]; rfl) hown (y := (⟨"com/example/tranchery/tranchery/rating/Rating", "meets", "(Lcom/example/tranchery/tranchery/rating/Rating;)Z"⟩ : MethodName)) (z := (⟨"com/example/tranchery/tranchery/rating/Rating", "meets", "(Lcom/example/tranchery/tranchery/rating/Rating;)Z"⟩ : MethodName)) (hw _ (List.mem_of_getElem? (i := 22) rfl)) (hw _ (List.mem_of_getElem? (i := 23) rfl)) (notFace_of_selects (args := #[]) (mvT hZ (hw _ (List.mem_of_getElem? (i := 25) rfl)))) (hw _ (List.mem_of_getElem? (i := 25) rfl)) (hw _ (List.mem_of_getElem? (i := 24) rfl)) (hw _ (List.mem_of_getElem? (i := 26) rfl)) (hw _ (List.mem_of_getElem? (i := 6) rfl)) (by decide) (own_rm_meets l Z a0 hw [] b3 b22 vA vC (0 : Int32) T34.heap n0 (Nat.le_trans (Nat.le_trans (Nat.le_trans (Nat.le_trans (Nat.le_trans (Nat.le_trans Z0 E3.1) K10.1) E11.1) K21.1) E22.1) K34.1) f108 Fb34 (by simp [k4])) f109 e114 (argsL := [(.ref b22)]) (stk := [(.ref b22), (.ref b3)]) (st := []) own_pd_2 rfl rfl rfl (W := 0) rfl (by decide) (by decide) (by decide) (by decide) at_149 rfl ?_
            intro T115 L115 v115 X115 q115
            obtain ⟨rfl, N115, e115⟩ := q115
            have M115 := Fr.app M114 N115
            show OG.Go _ _ _ _ _ _ _ (T115.setTop (mkF m 152 #[.val (.int p1), .val (.int p2), .val (.int p3), .val (.int p4), .val (.int (0 : Int32)), .val (.ref w2), .val (.int (22 : Int32)), .val (.int vA), .val (.int vB), .val (.int vC), .val (.ref b3), .val (.ref b11), .val (.ref b22), .val (.int (1 : Int32)), .val (.int (1 : Int32)), .val (.int (1 : Int32)), .val (.int (0 : Int32)), .unset] [(.int (0 : Int32))]))
            refine OG.istore (Ls' := #[.val (.int p1), .val (.int p2), .val (.int p3), .val (.int p4), .val (.int (0 : Int32)), .val (.ref w2), .val (.int (22 : Int32)), .val (.int vA), .val (.int vB), .val (.int vC), .val (.ref b3), .val (.ref b11), .val (.ref b22), .val (.int (1 : Int32)), .val (.int (1 : Int32)), .val (.int (1 : Int32)), .val (.int (0 : Int32)), .val (.int (0 : Int32))]) X115 hx hby at_152 rfl rfl ?_
            refine OG.iload X115 hx hby at_154 rfl rfl ?_
            refine OG.ifYes (pc' := 161) X115 hx hby at_156 (feq (by decide)).2 (by decide) (by decide) ?_
            refine OG.iload X115 hx hby at_161 rfl rfl ?_
            refine OG.ifYes (pc' := 173) X115 hx hby at_163 (feq (by decide)).2 (by decide) (by decide) ?_
            refine OG.iload X115 hx hby at_173 rfl rfl ?_
            refine OG.ifNo X115 hx hby at_175 (feq (by decide)).1 rfl ?_
            refine OG.iload X115 hx hby at_178 rfl rfl ?_
            refine OG.ifNo X115 hx hby at_180 (feq (by decide)).1 rfl ?_
            refine OG.iconst (v := (1 : Int32)) X115 hx hby at_183 (by decide) rfl ?_
            refine OG.goto (pc' := 188) X115 hx hby at_184 (by decide) (by decide) ?_
            refine OG.iload X115 hx hby at_188 rfl rfl ?_
            refine OG.iload X115 hx hby at_190 rfl rfl ?_
            refine OG.icmpNo X115 hx hby at_192 (teq k0).2 rfl ?_
            refine OG.iconst (v := (1 : Int32)) X115 hx hby at_195 (by decide) rfl ?_
            refine OG.goto (pc' := 200) X115 hx hby at_196 (by decide) (by decide) ?_
            refine OG.icmpYes (pc' := 205) X115 hx hby at_200 (teq (by decide)).1 (by decide) (by decide) ?_
            refine OG.iload X115 hx hby at_205 rfl rfl ?_
            refine OG.iload X115 hx hby at_207 rfl rfl ?_
            refine OG.icmpYes (pc' := 224) X115 hx hby at_209 (flt k2).2.1 (by decide) (by decide) ?_
            refine OG.iload X115 hx hby at_224 rfl rfl ?_
            refine OG.iload X115 hx hby at_226 rfl rfl ?_
            refine OG.icmpYes (pc' := 243) X115 hx hby at_228 (flt k1).2.1 (by decide) (by decide) ?_
            refine OG.iload X115 hx hby at_243 rfl rfl ?_
            refine OG.ifNo X115 hx hby at_245 (feq (by decide)).1 rfl ?_
            refine OG.iload X115 hx hby at_248 rfl rfl ?_
            refine OG.ifYes (pc' := 260) X115 hx hby at_250 (teq (by decide)).1 (by decide) (by decide) ?_
            refine OG.iconst (v := (1 : Int32)) X115 hx hby at_260 (by decide) rfl ?_
            refine OG.retZ X115 hx hby Bd.returns (by simp) at_261 Bd.notSynchronized (by decide) (by decide) ?_
            exact ⟨rfl, M115⟩
          · refine OG.aload X34 hx hby at_109 rfl rfl rfl ?_
            refine OG.aload X34 hx hby at_111 rfl rfl rfl ?_
            have f117 := (Fld.keep (Fld.ext E22 (Fld.keep (Fld.ext E11 Fb10) K21 (ninS ne16 nin0))) K34 (ninS ne28 nin0))
            have f118 := (Exa.keep (Exa.ext E22 f27) K34)
            refine OG.cV X34 hx hZ hby (by rw [hml]; rfl) hown (y := (⟨"com/example/tranchery/tranchery/rating/Rating", "meets", "(Lcom/example/tranchery/tranchery/rating/Rating;)Z"⟩ : MethodName)) (z := (⟨"com/example/tranchery/tranchery/rating/Rating", "meets", "(Lcom/example/tranchery/tranchery/rating/Rating;)Z"⟩ : MethodName)) (hw _ (List.mem_of_getElem? (i := 22) rfl)) (hw _ (List.mem_of_getElem? (i := 23) rfl)) (notFace_of_selects (args := #[]) (mvT hZ (hw _ (List.mem_of_getElem? (i := 25) rfl)))) (hw _ (List.mem_of_getElem? (i := 25) rfl)) (hw _ (List.mem_of_getElem? (i := 24) rfl)) (hw _ (List.mem_of_getElem? (i := 26) rfl)) (hw _ (List.mem_of_getElem? (i := 6) rfl)) (by decide) (own_rm_meets l Z a0 hw [] b3 b3 vA vA (1 : Int32) T34.heap n0 (Nat.le_trans (Nat.le_trans (Nat.le_trans (Nat.le_trans (Nat.le_trans (Nat.le_trans Z0 E3.1) K10.1) E11.1) K21.1) E22.1) K34.1) f117 f117 (by simp)) f118 rfl (argsL := [(.ref b3)]) (stk := [(.ref b3), (.ref b3)]) (st := []) own_pd_2 rfl rfl rfl (W := 0) rfl (by decide) (by decide) (by decide) (by decide) at_113 rfl ?_
            intro T116 L116 v116 X116 q116
            obtain ⟨rfl, N116, e116⟩ := q116
            have M116 := Fr.app M34 N116
            show OG.Go _ _ _ _ _ _ _ (T116.setTop (mkF m 116 #[.val (.int p1), .val (.int p2), .val (.int p3), .val (.int p4), .val (.int (0 : Int32)), .val (.ref w2), .val (.int (22 : Int32)), .val (.int vA), .val (.int vB), .val (.int vC), .val (.ref b3), .val (.ref b11), .val (.ref b22), .unset, .unset, .unset, .unset, .unset] [(.int (1 : Int32))]))
            refine OG.istore (Ls' := #[.val (.int p1), .val (.int p2), .val (.int p3), .val (.int p4), .val (.int (0 : Int32)), .val (.ref w2), .val (.int (22 : Int32)), .val (.int vA), .val (.int vB), .val (.int vC), .val (.ref b3), .val (.ref b11), .val (.ref b22), .val (.int (1 : Int32)), .unset, .unset, .unset, .unset]) X116 hx hby at_116 rfl rfl ?_
            refine OG.aload X116 hx hby at_118 rfl rfl rfl ?_
            refine OG.aload X116 hx hby at_120 rfl rfl rfl ?_
            have f120 := (Fld.keep (Fld.ext E22 Fb21) K34 (ninS ne29 nin0))
            refine OG.cV X116 hx hZ hby (by rw [hml]; rfl) hown (y := (⟨"com/example/tranchery/tranchery/rating/Rating", "meets", "(Lcom/example/tranchery/tranchery/rating/Rating;)Z"⟩ : MethodName)) (z := (⟨"com/example/tranchery/tranchery/rating/Rating", "meets", "(Lcom/example/tranchery/tranchery/rating/Rating;)Z"⟩ : MethodName)) (hw _ (List.mem_of_getElem? (i := 22) rfl)) (hw _ (List.mem_of_getElem? (i := 23) rfl)) (notFace_of_selects (args := #[]) (mvT hZ (hw _ (List.mem_of_getElem? (i := 25) rfl)))) (hw _ (List.mem_of_getElem? (i := 25) rfl)) (hw _ (List.mem_of_getElem? (i := 24) rfl)) (hw _ (List.mem_of_getElem? (i := 26) rfl)) (hw _ (List.mem_of_getElem? (i := 6) rfl)) (by decide) (own_rm_meets l Z a0 hw [] b3 b11 vA vB (1 : Int32) T34.heap n0 (Nat.le_trans (Nat.le_trans (Nat.le_trans (Nat.le_trans (Nat.le_trans (Nat.le_trans Z0 E3.1) K10.1) E11.1) K21.1) E22.1) K34.1) f117 f120 (by simp [k1])) f118 e116 (argsL := [(.ref b11)]) (stk := [(.ref b11), (.ref b3)]) (st := []) own_pd_2 rfl rfl rfl (W := 0) rfl (by decide) (by decide) (by decide) (by decide) at_122 rfl ?_
            intro T119 L119 v119 X119 q119
            obtain ⟨rfl, N119, e119⟩ := q119
            have M119 := Fr.app M116 N119
            show OG.Go _ _ _ _ _ _ _ (T119.setTop (mkF m 125 #[.val (.int p1), .val (.int p2), .val (.int p3), .val (.int p4), .val (.int (0 : Int32)), .val (.ref w2), .val (.int (22 : Int32)), .val (.int vA), .val (.int vB), .val (.int vC), .val (.ref b3), .val (.ref b11), .val (.ref b22), .val (.int (1 : Int32)), .unset, .unset, .unset, .unset] [(.int (1 : Int32))]))
            refine OG.istore (Ls' := #[.val (.int p1), .val (.int p2), .val (.int p3), .val (.int p4), .val (.int (0 : Int32)), .val (.ref w2), .val (.int (22 : Int32)), .val (.int vA), .val (.int vB), .val (.int vC), .val (.ref b3), .val (.ref b11), .val (.ref b22), .val (.int (1 : Int32)), .val (.int (1 : Int32)), .unset, .unset, .unset]) X119 hx hby at_125 rfl rfl ?_
            refine OG.aload X119 hx hby at_127 rfl rfl rfl ?_
            refine OG.aload X119 hx hby at_129 rfl rfl rfl ?_
            have f122 := (Exa.keep (Exa.ext E22 Ea21) K34)
            refine OG.cV X119 hx hZ hby (by rw [hml]; rfl) hown (y := (⟨"com/example/tranchery/tranchery/rating/Rating", "meets", "(Lcom/example/tranchery/tranchery/rating/Rating;)Z"⟩ : MethodName)) (z := (⟨"com/example/tranchery/tranchery/rating/Rating", "meets", "(Lcom/example/tranchery/tranchery/rating/Rating;)Z"⟩ : MethodName)) (hw _ (List.mem_of_getElem? (i := 22) rfl)) (hw _ (List.mem_of_getElem? (i := 23) rfl)) (notFace_of_selects (args := #[]) (mvT hZ (hw _ (List.mem_of_getElem? (i := 25) rfl)))) (hw _ (List.mem_of_getElem? (i := 25) rfl)) (hw _ (List.mem_of_getElem? (i := 24) rfl)) (hw _ (List.mem_of_getElem? (i := 26) rfl)) (hw _ (List.mem_of_getElem? (i := 6) rfl)) (by decide) (own_rm_meets l Z a0 hw [] b11 b3 vB vA (1 : Int32) T34.heap n0 (Nat.le_trans (Nat.le_trans (Nat.le_trans (Nat.le_trans (Nat.le_trans (Nat.le_trans Z0 E3.1) K10.1) E11.1) K21.1) E22.1) K34.1) f120 f117 (by simp [k2])) f122 e119 (argsL := [(.ref b3)]) (stk := [(.ref b3), (.ref b11)]) (st := []) own_pd_2 rfl rfl rfl (W := 0) rfl (by decide) (by decide) (by decide) (by decide) at_131 rfl ?_
            intro T121 L121 v121 X121 q121
            obtain ⟨rfl, N121, e121⟩ := q121
            have M121 := Fr.app M119 N121
            show OG.Go _ _ _ _ _ _ _ (T121.setTop (mkF m 134 #[.val (.int p1), .val (.int p2), .val (.int p3), .val (.int p4), .val (.int (0 : Int32)), .val (.ref w2), .val (.int (22 : Int32)), .val (.int vA), .val (.int vB), .val (.int vC), .val (.ref b3), .val (.ref b11), .val (.ref b22), .val (.int (1 : Int32)), .val (.int (1 : Int32)), .unset, .unset, .unset] [(.int (1 : Int32))]))
            refine OG.istore (Ls' := #[.val (.int p1), .val (.int p2), .val (.int p3), .val (.int p4), .val (.int (0 : Int32)), .val (.ref w2), .val (.int (22 : Int32)), .val (.int vA), .val (.int vB), .val (.int vC), .val (.ref b3), .val (.ref b11), .val (.ref b22), .val (.int (1 : Int32)), .val (.int (1 : Int32)), .val (.int (1 : Int32)), .unset, .unset]) X121 hx hby at_134 rfl rfl ?_
            refine OG.aload X121 hx hby at_136 rfl rfl rfl ?_
            refine OG.aload X121 hx hby at_138 rfl rfl rfl ?_
            refine OG.cV X121 hx hZ hby (by rw [hml]; rfl) hown (y := (⟨"com/example/tranchery/tranchery/rating/Rating", "meets", "(Lcom/example/tranchery/tranchery/rating/Rating;)Z"⟩ : MethodName)) (z := (⟨"com/example/tranchery/tranchery/rating/Rating", "meets", "(Lcom/example/tranchery/tranchery/rating/Rating;)Z"⟩ : MethodName)) (hw _ (List.mem_of_getElem? (i := 22) rfl)) (hw _ (List.mem_of_getElem? (i := 23) rfl)) (notFace_of_selects (args := #[]) (mvT hZ (hw _ (List.mem_of_getElem? (i := 25) rfl)))) (hw _ (List.mem_of_getElem? (i := 25) rfl)) (hw _ (List.mem_of_getElem? (i := 24) rfl)) (hw _ (List.mem_of_getElem? (i := 26) rfl)) (hw _ (List.mem_of_getElem? (i := 6) rfl)) (by decide) (own_rm_meets l Z a0 hw [] b11 b22 vB vC (0 : Int32) T34.heap n0 (Nat.le_trans (Nat.le_trans (Nat.le_trans (Nat.le_trans (Nat.le_trans (Nat.le_trans Z0 E3.1) K10.1) E11.1) K21.1) E22.1) K34.1) f120 Fb34 (by simp [k3])) f122 e121 (argsL := [(.ref b22)]) (stk := [(.ref b22), (.ref b11)]) (st := []) own_pd_2 rfl rfl rfl (W := 0) rfl (by decide) (by decide) (by decide) (by decide) at_140 rfl ?_
            intro T123 L123 v123 X123 q123
            obtain ⟨rfl, N123, e123⟩ := q123
            have M123 := Fr.app M121 N123
            show OG.Go _ _ _ _ _ _ _ (T123.setTop (mkF m 143 #[.val (.int p1), .val (.int p2), .val (.int p3), .val (.int p4), .val (.int (0 : Int32)), .val (.ref w2), .val (.int (22 : Int32)), .val (.int vA), .val (.int vB), .val (.int vC), .val (.ref b3), .val (.ref b11), .val (.ref b22), .val (.int (1 : Int32)), .val (.int (1 : Int32)), .val (.int (1 : Int32)), .unset, .unset] [(.int (0 : Int32))]))
            refine OG.istore (Ls' := #[.val (.int p1), .val (.int p2), .val (.int p3), .val (.int p4), .val (.int (0 : Int32)), .val (.ref w2), .val (.int (22 : Int32)), .val (.int vA), .val (.int vB), .val (.int vC), .val (.ref b3), .val (.ref b11), .val (.ref b22), .val (.int (1 : Int32)), .val (.int (1 : Int32)), .val (.int (1 : Int32)), .val (.int (0 : Int32)), .unset]) X123 hx hby at_143 rfl rfl ?_
            refine OG.aload X123 hx hby at_145 rfl rfl rfl ?_
            refine OG.aload X123 hx hby at_147 rfl rfl rfl ?_
            refine OG.cV X123 hx hZ hby (by rw [hml]; rfl) hown (y := (⟨"com/example/tranchery/tranchery/rating/Rating", "meets", "(Lcom/example/tranchery/tranchery/rating/Rating;)Z"⟩ : MethodName)) (z := (⟨"com/example/tranchery/tranchery/rating/Rating", "meets", "(Lcom/example/tranchery/tranchery/rating/Rating;)Z"⟩ : MethodName)) (hw _ (List.mem_of_getElem? (i := 22) rfl)) (hw _ (List.mem_of_getElem? (i := 23) rfl)) (notFace_of_selects (args := #[]) (mvT hZ (hw _ (List.mem_of_getElem? (i := 25) rfl)))) (hw _ (List.mem_of_getElem? (i := 25) rfl)) (hw _ (List.mem_of_getElem? (i := 24) rfl)) (hw _ (List.mem_of_getElem? (i := 26) rfl)) (hw _ (List.mem_of_getElem? (i := 6) rfl)) (by decide) (own_rm_meets l Z a0 hw [] b3 b22 vA vC (1 : Int32) T34.heap n0 (Nat.le_trans (Nat.le_trans (Nat.le_trans (Nat.le_trans (Nat.le_trans (Nat.le_trans Z0 E3.1) K10.1) E11.1) K21.1) E22.1) K34.1) f117 Fb34 (by simp [k4])) f118 e123 (argsL := [(.ref b22)]) (stk := [(.ref b22), (.ref b3)]) (st := []) own_pd_2 rfl rfl rfl (W := 0) rfl (by decide) (by decide) (by decide) (by decide) at_149 rfl ?_
            intro T124 L124 v124 X124 q124
            obtain ⟨rfl, N124, e124⟩ := q124
            have M124 := Fr.app M123 N124
            show OG.Go _ _ _ _ _ _ _ (T124.setTop (mkF m 152 #[.val (.int p1), .val (.int p2), .val (.int p3), .val (.int p4), .val (.int (0 : Int32)), .val (.ref w2), .val (.int (22 : Int32)), .val (.int vA), .val (.int vB), .val (.int vC), .val (.ref b3), .val (.ref b11), .val (.ref b22), .val (.int (1 : Int32)), .val (.int (1 : Int32)), .val (.int (1 : Int32)), .val (.int (0 : Int32)), .unset] [(.int (1 : Int32))]))
            refine OG.istore (Ls' := #[.val (.int p1), .val (.int p2), .val (.int p3), .val (.int p4), .val (.int (0 : Int32)), .val (.ref w2), .val (.int (22 : Int32)), .val (.int vA), .val (.int vB), .val (.int vC), .val (.ref b3), .val (.ref b11), .val (.ref b22), .val (.int (1 : Int32)), .val (.int (1 : Int32)), .val (.int (1 : Int32)), .val (.int (0 : Int32)), .val (.int (1 : Int32))]) X124 hx hby at_152 rfl rfl ?_
            refine OG.iload X124 hx hby at_154 rfl rfl ?_
            refine OG.ifYes (pc' := 161) X124 hx hby at_156 (feq (by decide)).2 (by decide) (by decide) ?_
            refine OG.iload X124 hx hby at_161 rfl rfl ?_
            refine OG.ifYes (pc' := 173) X124 hx hby at_163 (feq (by decide)).2 (by decide) (by decide) ?_
            refine OG.iload X124 hx hby at_173 rfl rfl ?_
            refine OG.ifNo X124 hx hby at_175 (feq (by decide)).1 rfl ?_
            refine OG.iload X124 hx hby at_178 rfl rfl ?_
            refine OG.ifNo X124 hx hby at_180 (feq (by decide)).1 rfl ?_
            refine OG.iconst (v := (1 : Int32)) X124 hx hby at_183 (by decide) rfl ?_
            refine OG.goto (pc' := 188) X124 hx hby at_184 (by decide) (by decide) ?_
            refine OG.iload X124 hx hby at_188 rfl rfl ?_
            refine OG.iload X124 hx hby at_190 rfl rfl ?_
            refine OG.icmpNo X124 hx hby at_192 (teq k0).2 rfl ?_
            refine OG.iconst (v := (1 : Int32)) X124 hx hby at_195 (by decide) rfl ?_
            refine OG.goto (pc' := 200) X124 hx hby at_196 (by decide) (by decide) ?_
            refine OG.icmpYes (pc' := 205) X124 hx hby at_200 (teq (by decide)).1 (by decide) (by decide) ?_
            refine OG.iload X124 hx hby at_205 rfl rfl ?_
            refine OG.iload X124 hx hby at_207 rfl rfl ?_
            refine OG.icmpYes (pc' := 224) X124 hx hby at_209 (flt k2).2.1 (by decide) (by decide) ?_
            refine OG.iload X124 hx hby at_224 rfl rfl ?_
            refine OG.iload X124 hx hby at_226 rfl rfl ?_
            refine OG.icmpYes (pc' := 243) X124 hx hby at_228 (flt k1).2.1 (by decide) (by decide) ?_
            refine OG.iload X124 hx hby at_243 rfl rfl ?_
            refine OG.ifNo X124 hx hby at_245 (feq (by decide)).1 rfl ?_
            refine OG.iload X124 hx hby at_248 rfl rfl ?_
            refine OG.ifYes (pc' := 260) X124 hx hby at_250 (teq (by decide)).1 (by decide) (by decide) ?_
            refine OG.iconst (v := (1 : Int32)) X124 hx hby at_260 (by decide) rfl ?_
            refine OG.retZ X124 hx hby Bd.returns (by simp) at_261 Bd.notSynchronized (by decide) (by decide) ?_
            exact ⟨rfl, M124⟩
        · by_cases k4 : vC < vA
          · refine OG.aload X34 hx hby at_109 rfl rfl rfl ?_
            refine OG.aload X34 hx hby at_111 rfl rfl rfl ?_
            have f126 := (Fld.keep (Fld.ext E22 (Fld.keep (Fld.ext E11 Fb10) K21 (ninS ne16 nin0))) K34 (ninS ne28 nin0))
            have f127 := (Exa.keep (Exa.ext E22 f27) K34)
            refine OG.cV X34 hx hZ hby (by rw [hml]; rfl) hown (y := (⟨"com/example/tranchery/tranchery/rating/Rating", "meets", "(Lcom/example/tranchery/tranchery/rating/Rating;)Z"⟩ : MethodName)) (z := (⟨"com/example/tranchery/tranchery/rating/Rating", "meets", "(Lcom/example/tranchery/tranchery/rating/Rating;)Z"⟩ : MethodName)) (hw _ (List.mem_of_getElem? (i := 22) rfl)) (hw _ (List.mem_of_getElem? (i := 23) rfl)) (notFace_of_selects (args := #[]) (mvT hZ (hw _ (List.mem_of_getElem? (i := 25) rfl)))) (hw _ (List.mem_of_getElem? (i := 25) rfl)) (hw _ (List.mem_of_getElem? (i := 24) rfl)) (hw _ (List.mem_of_getElem? (i := 26) rfl)) (hw _ (List.mem_of_getElem? (i := 6) rfl)) (by decide) (own_rm_meets l Z a0 hw [] b3 b3 vA vA (1 : Int32) T34.heap n0 (Nat.le_trans (Nat.le_trans (Nat.le_trans (Nat.le_trans (Nat.le_trans (Nat.le_trans Z0 E3.1) K10.1) E11.1) K21.1) E22.1) K34.1) f126 f126 (by simp)) f127 rfl (argsL := [(.ref b3)]) (stk := [(.ref b3), (.ref b3)]) (st := []) own_pd_2 rfl rfl rfl (W := 0) rfl (by decide) (by decide) (by decide) (by decide) at_113 rfl ?_
            intro T125 L125 v125 X125 q125
            obtain ⟨rfl, N125, e125⟩ := q125
            have M125 := Fr.app M34 N125
            show OG.Go _ _ _ _ _ _ _ (T125.setTop (mkF m 116 #[.val (.int p1), .val (.int p2), .val (.int p3), .val (.int p4), .val (.int (0 : Int32)), .val (.ref w2), .val (.int (22 : Int32)), .val (.int vA), .val (.int vB), .val (.int vC), .val (.ref b3), .val (.ref b11), .val (.ref b22), .unset, .unset, .unset, .unset, .unset] [(.int (1 : Int32))]))
            refine OG.istore (Ls' := #[.val (.int p1), .val (.int p2), .val (.int p3), .val (.int p4), .val (.int (0 : Int32)), .val (.ref w2), .val (.int (22 : Int32)), .val (.int vA), .val (.int vB), .val (.int vC), .val (.ref b3), .val (.ref b11), .val (.ref b22), .val (.int (1 : Int32)), .unset, .unset, .unset, .unset]) X125 hx hby at_116 rfl rfl ?_
            refine OG.aload X125 hx hby at_118 rfl rfl rfl ?_
            refine OG.aload X125 hx hby at_120 rfl rfl rfl ?_
            have f129 := (Fld.keep (Fld.ext E22 Fb21) K34 (ninS ne29 nin0))
            refine OG.cV X125 hx hZ hby (by rw [hml]; rfl) hown (y := (⟨"com/example/tranchery/tranchery/rating/Rating", "meets", "(Lcom/example/tranchery/tranchery/rating/Rating;)Z"⟩ : MethodName)) (z := (⟨"com/example/tranchery/tranchery/rating/Rating", "meets", "(Lcom/example/tranchery/tranchery/rating/Rating;)Z"⟩ : MethodName)) (hw _ (List.mem_of_getElem? (i := 22) rfl)) (hw _ (List.mem_of_getElem? (i := 23) rfl)) (notFace_of_selects (args := #[]) (mvT hZ (hw _ (List.mem_of_getElem? (i := 25) rfl)))) (hw _ (List.mem_of_getElem? (i := 25) rfl)) (hw _ (List.mem_of_getElem? (i := 24) rfl)) (hw _ (List.mem_of_getElem? (i := 26) rfl)) (hw _ (List.mem_of_getElem? (i := 6) rfl)) (by decide) (own_rm_meets l Z a0 hw [] b3 b11 vA vB (1 : Int32) T34.heap n0 (Nat.le_trans (Nat.le_trans (Nat.le_trans (Nat.le_trans (Nat.le_trans (Nat.le_trans Z0 E3.1) K10.1) E11.1) K21.1) E22.1) K34.1) f126 f129 (by simp [k1])) f127 e125 (argsL := [(.ref b11)]) (stk := [(.ref b11), (.ref b3)]) (st := []) own_pd_2 rfl rfl rfl (W := 0) rfl (by decide) (by decide) (by decide) (by decide) at_122 rfl ?_
            intro T128 L128 v128 X128 q128
            obtain ⟨rfl, N128, e128⟩ := q128
            have M128 := Fr.app M125 N128
            show OG.Go _ _ _ _ _ _ _ (T128.setTop (mkF m 125 #[.val (.int p1), .val (.int p2), .val (.int p3), .val (.int p4), .val (.int (0 : Int32)), .val (.ref w2), .val (.int (22 : Int32)), .val (.int vA), .val (.int vB), .val (.int vC), .val (.ref b3), .val (.ref b11), .val (.ref b22), .val (.int (1 : Int32)), .unset, .unset, .unset, .unset] [(.int (1 : Int32))]))
            refine OG.istore (Ls' := #[.val (.int p1), .val (.int p2), .val (.int p3), .val (.int p4), .val (.int (0 : Int32)), .val (.ref w2), .val (.int (22 : Int32)), .val (.int vA), .val (.int vB), .val (.int vC), .val (.ref b3), .val (.ref b11), .val (.ref b22), .val (.int (1 : Int32)), .val (.int (1 : Int32)), .unset, .unset, .unset]) X128 hx hby at_125 rfl rfl ?_
            refine OG.aload X128 hx hby at_127 rfl rfl rfl ?_
            refine OG.aload X128 hx hby at_129 rfl rfl rfl ?_
            have f131 := (Exa.keep (Exa.ext E22 Ea21) K34)
            refine OG.cV X128 hx hZ hby (by rw [hml]; rfl) hown (y := (⟨"com/example/tranchery/tranchery/rating/Rating", "meets", "(Lcom/example/tranchery/tranchery/rating/Rating;)Z"⟩ : MethodName)) (z := (⟨"com/example/tranchery/tranchery/rating/Rating", "meets", "(Lcom/example/tranchery/tranchery/rating/Rating;)Z"⟩ : MethodName)) (hw _ (List.mem_of_getElem? (i := 22) rfl)) (hw _ (List.mem_of_getElem? (i := 23) rfl)) (notFace_of_selects (args := #[]) (mvT hZ (hw _ (List.mem_of_getElem? (i := 25) rfl)))) (hw _ (List.mem_of_getElem? (i := 25) rfl)) (hw _ (List.mem_of_getElem? (i := 24) rfl)) (hw _ (List.mem_of_getElem? (i := 26) rfl)) (hw _ (List.mem_of_getElem? (i := 6) rfl)) (by decide) (own_rm_meets l Z a0 hw [] b11 b3 vB vA (1 : Int32) T34.heap n0 (Nat.le_trans (Nat.le_trans (Nat.le_trans (Nat.le_trans (Nat.le_trans (Nat.le_trans Z0 E3.1) K10.1) E11.1) K21.1) E22.1) K34.1) f129 f126 (by simp [k2])) f131 e128 (argsL := [(.ref b3)]) (stk := [(.ref b3), (.ref b11)]) (st := []) own_pd_2 rfl rfl rfl (W := 0) rfl (by decide) (by decide) (by decide) (by decide) at_131 rfl ?_
            intro T130 L130 v130 X130 q130
            obtain ⟨rfl, N130, e130⟩ := q130
            have M130 := Fr.app M128 N130
            show OG.Go _ _ _ _ _ _ _ (T130.setTop (mkF m 134 #[.val (.int p1), .val (.int p2), .val (.int p3), .val (.int p4), .val (.int (0 : Int32)), .val (.ref w2), .val (.int (22 : Int32)), .val (.int vA), .val (.int vB), .val (.int vC), .val (.ref b3), .val (.ref b11), .val (.ref b22), .val (.int (1 : Int32)), .val (.int (1 : Int32)), .unset, .unset, .unset] [(.int (1 : Int32))]))
            refine OG.istore (Ls' := #[.val (.int p1), .val (.int p2), .val (.int p3), .val (.int p4), .val (.int (0 : Int32)), .val (.ref w2), .val (.int (22 : Int32)), .val (.int vA), .val (.int vB), .val (.int vC), .val (.ref b3), .val (.ref b11), .val (.ref b22), .val (.int (1 : Int32)), .val (.int (1 : Int32)), .val (.int (1 : Int32)), .unset, .unset]) X130 hx hby at_134 rfl rfl ?_
            refine OG.aload X130 hx hby at_136 rfl rfl rfl ?_
            refine OG.aload X130 hx hby at_138 rfl rfl rfl ?_
            refine OG.cV X130 hx hZ hby (by rw [hml]; rfl) hown (y := (⟨"com/example/tranchery/tranchery/rating/Rating", "meets", "(Lcom/example/tranchery/tranchery/rating/Rating;)Z"⟩ : MethodName)) (z := (⟨"com/example/tranchery/tranchery/rating/Rating", "meets", "(Lcom/example/tranchery/tranchery/rating/Rating;)Z"⟩ : MethodName)) (hw _ (List.mem_of_getElem? (i := 22) rfl)) (hw _ (List.mem_of_getElem? (i := 23) rfl)) (notFace_of_selects (args := #[]) (mvT hZ (hw _ (List.mem_of_getElem? (i := 25) rfl)))) (hw _ (List.mem_of_getElem? (i := 25) rfl)) (hw _ (List.mem_of_getElem? (i := 24) rfl)) (hw _ (List.mem_of_getElem? (i := 26) rfl)) (hw _ (List.mem_of_getElem? (i := 6) rfl)) (by decide) (own_rm_meets l Z a0 hw [] b11 b22 vB vC (1 : Int32) T34.heap n0 (Nat.le_trans (Nat.le_trans (Nat.le_trans (Nat.le_trans (Nat.le_trans (Nat.le_trans Z0 E3.1) K10.1) E11.1) K21.1) E22.1) K34.1) f129 Fb34 (by simp [k3])) f131 e130 (argsL := [(.ref b22)]) (stk := [(.ref b22), (.ref b11)]) (st := []) own_pd_2 rfl rfl rfl (W := 0) rfl (by decide) (by decide) (by decide) (by decide) at_140 rfl ?_
            intro T132 L132 v132 X132 q132
            obtain ⟨rfl, N132, e132⟩ := q132
            have M132 := Fr.app M130 N132
            show OG.Go _ _ _ _ _ _ _ (T132.setTop (mkF m 143 #[.val (.int p1), .val (.int p2), .val (.int p3), .val (.int p4), .val (.int (0 : Int32)), .val (.ref w2), .val (.int (22 : Int32)), .val (.int vA), .val (.int vB), .val (.int vC), .val (.ref b3), .val (.ref b11), .val (.ref b22), .val (.int (1 : Int32)), .val (.int (1 : Int32)), .val (.int (1 : Int32)), .unset, .unset] [(.int (1 : Int32))]))
            refine OG.istore (Ls' := #[.val (.int p1), .val (.int p2), .val (.int p3), .val (.int p4), .val (.int (0 : Int32)), .val (.ref w2), .val (.int (22 : Int32)), .val (.int vA), .val (.int vB), .val (.int vC), .val (.ref b3), .val (.ref b11), .val (.ref b22), .val (.int (1 : Int32)), .val (.int (1 : Int32)), .val (.int (1 : Int32)), .val (.int (1 : Int32)), .unset]) X132 hx hby at_143 rfl rfl ?_
            refine OG.aload X132 hx hby at_145 rfl rfl rfl ?_
            refine OG.aload X132 hx hby at_147 rfl rfl rfl ?_
            refine OG.cV X132 hx hZ hby (by rw [hml]; rfl) hown (y := (⟨"com/example/tranchery/tranchery/rating/Rating", "meets", "(Lcom/example/tranchery/tranchery/rating/Rating;)Z"⟩ : MethodName)) (z := (⟨"com/example/tranchery/tranchery/rating/Rating", "meets", "(Lcom/example/tranchery/tranchery/rating/Rating;)Z"⟩ : MethodName)) (hw _ (List.mem_of_getElem? (i := 22) rfl)) (hw _ (List.mem_of_getElem? (i := 23) rfl)) (notFace_of_selects (args := #[]) (mvT hZ (hw _ (List.mem_of_getElem? (i := 25) rfl)))) (hw _ (List.mem_of_getElem? (i := 25) rfl)) (hw _ (List.mem_of_getElem? (i := 24) rfl)) (hw _ (List.mem_of_getElem? (i := 26) rfl)) (hw _ (List.mem_of_getElem? (i := 6) rfl)) (by decide) (own_rm_meets l Z a0 hw [] b3 b22 vA vC (0 : Int32) T34.heap n0 (Nat.le_trans (Nat.le_trans (Nat.le_trans (Nat.le_trans (Nat.le_trans (Nat.le_trans Z0 E3.1) K10.1) E11.1) K21.1) E22.1) K34.1) f126 Fb34 (by simp [k4])) f127 e132 (argsL := [(.ref b22)]) (stk := [(.ref b22), (.ref b3)]) (st := []) own_pd_2 rfl rfl rfl (W := 0) rfl (by decide) (by decide) (by decide) (by decide) at_149 rfl ?_
            intro T133 L133 v133 X133 q133
            obtain ⟨rfl, N133, e133⟩ := q133
            have M133 := Fr.app M132 N133
            show OG.Go _ _ _ _ _ _ _ (T133.setTop (mkF m 152 #[.val (.int p1), .val (.int p2), .val (.int p3), .val (.int p4), .val (.int (0 : Int32)), .val (.ref w2), .val (.int (22 : Int32)), .val (.int vA), .val (.int vB), .val (.int vC), .val (.ref b3), .val (.ref b11), .val (.ref b22), .val (.int (1 : Int32)), .val (.int (1 : Int32)), .val (.int (1 : Int32)), .val (.int (1 : Int32)), .unset] [(.int (0 : Int32))]))
            refine OG.istore (Ls' := #[.val (.int p1), .val (.int p2), .val (.int p3), .val (.int p4), .val (.int (0 : Int32)), .val (.ref w2), .val (.int (22 : Int32)), .val (.int vA), .val (.int vB), .val (.int vC), .val (.ref b3), .val (.ref b11), .val (.ref b22), .val (.int (1 : Int32)), .val (.int (1 : Int32)), .val (.int (1 : Int32)), .val (.int (1 : Int32)), .val (.int (0 : Int32))]) X133 hx hby at_152 rfl rfl ?_
            refine OG.iload X133 hx hby at_154 rfl rfl ?_
            refine OG.ifYes (pc' := 161) X133 hx hby at_156 (feq (by decide)).2 (by decide) (by decide) ?_
            refine OG.iload X133 hx hby at_161 rfl rfl ?_
            refine OG.ifYes (pc' := 173) X133 hx hby at_163 (feq (by decide)).2 (by decide) (by decide) ?_
            refine OG.iload X133 hx hby at_173 rfl rfl ?_
            refine OG.ifNo X133 hx hby at_175 (feq (by decide)).1 rfl ?_
            refine OG.iload X133 hx hby at_178 rfl rfl ?_
            refine OG.ifNo X133 hx hby at_180 (feq (by decide)).1 rfl ?_
            refine OG.iconst (v := (1 : Int32)) X133 hx hby at_183 (by decide) rfl ?_
            refine OG.goto (pc' := 188) X133 hx hby at_184 (by decide) (by decide) ?_
            refine OG.iload X133 hx hby at_188 rfl rfl ?_
            refine OG.iload X133 hx hby at_190 rfl rfl ?_
            refine OG.icmpNo X133 hx hby at_192 (teq k0).2 rfl ?_
            refine OG.iconst (v := (1 : Int32)) X133 hx hby at_195 (by decide) rfl ?_
            refine OG.goto (pc' := 200) X133 hx hby at_196 (by decide) (by decide) ?_
            refine OG.icmpYes (pc' := 205) X133 hx hby at_200 (teq (by decide)).1 (by decide) (by decide) ?_
            refine OG.iload X133 hx hby at_205 rfl rfl ?_
            refine OG.iload X133 hx hby at_207 rfl rfl ?_
            refine OG.icmpYes (pc' := 224) X133 hx hby at_209 (flt k2).2.1 (by decide) (by decide) ?_
            refine OG.iload X133 hx hby at_224 rfl rfl ?_
            refine OG.iload X133 hx hby at_226 rfl rfl ?_
            refine OG.icmpYes (pc' := 243) X133 hx hby at_228 (flt k1).2.1 (by decide) (by decide) ?_
            refine OG.iload X133 hx hby at_243 rfl rfl ?_
            refine OG.ifNo X133 hx hby at_245 (feq (by decide)).1 rfl ?_
            refine OG.iload X133 hx hby at_248 rfl rfl ?_
            refine OG.ifNo X133 hx hby at_250 (feq (by decide)).1 rfl ?_
            refine OG.iload X133 hx hby at_253 rfl rfl ?_
            refine OG.ifNo X133 hx hby at_255 (teq (by decide)).2 rfl ?_
            refine OG.iconst (v := (0 : Int32)) X133 hx hby at_258 (by decide) rfl ?_
            refine OG.retZ X133 hx hby Bd.returns (by simp) at_259 Bd.notSynchronized (by decide) (by decide) ?_
            exfalso
            simp only [Int32.lt_iff_toInt_lt, ← Int32.toInt_inj] at k0 k1 k2 k3 k4
            omega
          · refine OG.aload X34 hx hby at_109 rfl rfl rfl ?_
            refine OG.aload X34 hx hby at_111 rfl rfl rfl ?_
            have f135 := (Fld.keep (Fld.ext E22 (Fld.keep (Fld.ext E11 Fb10) K21 (ninS ne16 nin0))) K34 (ninS ne28 nin0))
            have f136 := (Exa.keep (Exa.ext E22 f27) K34)
            refine OG.cV X34 hx hZ hby (by rw [hml]; rfl) hown (y := (⟨"com/example/tranchery/tranchery/rating/Rating", "meets", "(Lcom/example/tranchery/tranchery/rating/Rating;)Z"⟩ : MethodName)) (z := (⟨"com/example/tranchery/tranchery/rating/Rating", "meets", "(Lcom/example/tranchery/tranchery/rating/Rating;)Z"⟩ : MethodName)) (hw _ (List.mem_of_getElem? (i := 22) rfl)) (hw _ (List.mem_of_getElem? (i := 23) rfl)) (notFace_of_selects (args := #[]) (mvT hZ (hw _ (List.mem_of_getElem? (i := 25) rfl)))) (hw _ (List.mem_of_getElem? (i := 25) rfl)) (hw _ (List.mem_of_getElem? (i := 24) rfl)) (hw _ (List.mem_of_getElem? (i := 26) rfl)) (hw _ (List.mem_of_getElem? (i := 6) rfl)) (by decide) (own_rm_meets l Z a0 hw [] b3 b3 vA vA (1 : Int32) T34.heap n0 (Nat.le_trans (Nat.le_trans (Nat.le_trans (Nat.le_trans (Nat.le_trans (Nat.le_trans Z0 E3.1) K10.1) E11.1) K21.1) E22.1) K34.1) f135 f135 (by simp)) f136 rfl (argsL := [(.ref b3)]) (stk := [(.ref b3), (.ref b3)]) (st := []) own_pd_2 rfl rfl rfl (W := 0) rfl (by decide) (by decide) (by decide) (by decide) at_113 rfl ?_
            intro T134 L134 v134 X134 q134
            obtain ⟨rfl, N134, e134⟩ := q134
            have M134 := Fr.app M34 N134
            show OG.Go _ _ _ _ _ _ _ (T134.setTop (mkF m 116 #[.val (.int p1), .val (.int p2), .val (.int p3), .val (.int p4), .val (.int (0 : Int32)), .val (.ref w2), .val (.int (22 : Int32)), .val (.int vA), .val (.int vB), .val (.int vC), .val (.ref b3), .val (.ref b11), .val (.ref b22), .unset, .unset, .unset, .unset, .unset] [(.int (1 : Int32))]))
            refine OG.istore (Ls' := #[.val (.int p1), .val (.int p2), .val (.int p3), .val (.int p4), .val (.int (0 : Int32)), .val (.ref w2), .val (.int (22 : Int32)), .val (.int vA), .val (.int vB), .val (.int vC), .val (.ref b3), .val (.ref b11), .val (.ref b22), .val (.int (1 : Int32)), .unset, .unset, .unset, .unset]) X134 hx hby at_116 rfl rfl ?_
            refine OG.aload X134 hx hby at_118 rfl rfl rfl ?_
            refine OG.aload X134 hx hby at_120 rfl rfl rfl ?_
            have f138 := (Fld.keep (Fld.ext E22 Fb21) K34 (ninS ne29 nin0))
            refine OG.cV X134 hx hZ hby (by rw [hml]; rfl) hown (y := (⟨"com/example/tranchery/tranchery/rating/Rating", "meets", "(Lcom/example/tranchery/tranchery/rating/Rating;)Z"⟩ : MethodName)) (z := (⟨"com/example/tranchery/tranchery/rating/Rating", "meets", "(Lcom/example/tranchery/tranchery/rating/Rating;)Z"⟩ : MethodName)) (hw _ (List.mem_of_getElem? (i := 22) rfl)) (hw _ (List.mem_of_getElem? (i := 23) rfl)) (notFace_of_selects (args := #[]) (mvT hZ (hw _ (List.mem_of_getElem? (i := 25) rfl)))) (hw _ (List.mem_of_getElem? (i := 25) rfl)) (hw _ (List.mem_of_getElem? (i := 24) rfl)) (hw _ (List.mem_of_getElem? (i := 26) rfl)) (hw _ (List.mem_of_getElem? (i := 6) rfl)) (by decide) (own_rm_meets l Z a0 hw [] b3 b11 vA vB (1 : Int32) T34.heap n0 (Nat.le_trans (Nat.le_trans (Nat.le_trans (Nat.le_trans (Nat.le_trans (Nat.le_trans Z0 E3.1) K10.1) E11.1) K21.1) E22.1) K34.1) f135 f138 (by simp [k1])) f136 e134 (argsL := [(.ref b11)]) (stk := [(.ref b11), (.ref b3)]) (st := []) own_pd_2 rfl rfl rfl (W := 0) rfl (by decide) (by decide) (by decide) (by decide) at_122 rfl ?_
            intro T137 L137 v137 X137 q137
            obtain ⟨rfl, N137, e137⟩ := q137
            have M137 := Fr.app M134 N137
            show OG.Go _ _ _ _ _ _ _ (T137.setTop (mkF m 125 #[.val (.int p1), .val (.int p2), .val (.int p3), .val (.int p4), .val (.int (0 : Int32)), .val (.ref w2), .val (.int (22 : Int32)), .val (.int vA), .val (.int vB), .val (.int vC), .val (.ref b3), .val (.ref b11), .val (.ref b22), .val (.int (1 : Int32)), .unset, .unset, .unset, .unset] [(.int (1 : Int32))]))
            refine OG.istore (Ls' := #[.val (.int p1), .val (.int p2), .val (.int p3), .val (.int p4), .val (.int (0 : Int32)), .val (.ref w2), .val (.int (22 : Int32)), .val (.int vA), .val (.int vB), .val (.int vC), .val (.ref b3), .val (.ref b11), .val (.ref b22), .val (.int (1 : Int32)), .val (.int (1 : Int32)), .unset, .unset, .unset]) X137 hx hby at_125 rfl rfl ?_
            refine OG.aload X137 hx hby at_127 rfl rfl rfl ?_
            refine OG.aload X137 hx hby at_129 rfl rfl rfl ?_
            have f140 := (Exa.keep (Exa.ext E22 Ea21) K34)
            refine OG.cV X137 hx hZ hby (by rw [hml]; rfl) hown (y := (⟨"com/example/tranchery/tranchery/rating/Rating", "meets", "(Lcom/example/tranchery/tranchery/rating/Rating;)Z"⟩ : MethodName)) (z := (⟨"com/example/tranchery/tranchery/rating/Rating", "meets", "(Lcom/example/tranchery/tranchery/rating/Rating;)Z"⟩ : MethodName)) (hw _ (List.mem_of_getElem? (i := 22) rfl)) (hw _ (List.mem_of_getElem? (i := 23) rfl)) (notFace_of_selects (args := #[]) (mvT hZ (hw _ (List.mem_of_getElem? (i := 25) rfl)))) (hw _ (List.mem_of_getElem? (i := 25) rfl)) (hw _ (List.mem_of_getElem? (i := 24) rfl)) (hw _ (List.mem_of_getElem? (i := 26) rfl)) (hw _ (List.mem_of_getElem? (i := 6) rfl)) (by decide) (own_rm_meets l Z a0 hw [] b11 b3 vB vA (1 : Int32) T34.heap n0 (Nat.le_trans (Nat.le_trans (Nat.le_trans (Nat.le_trans (Nat.le_trans (Nat.le_trans Z0 E3.1) K10.1) E11.1) K21.1) E22.1) K34.1) f138 f135 (by simp [k2])) f140 e137 (argsL := [(.ref b3)]) (stk := [(.ref b3), (.ref b11)]) (st := []) own_pd_2 rfl rfl rfl (W := 0) rfl (by decide) (by decide) (by decide) (by decide) at_131 rfl ?_
            intro T139 L139 v139 X139 q139
            obtain ⟨rfl, N139, e139⟩ := q139
            have M139 := Fr.app M137 N139
            show OG.Go _ _ _ _ _ _ _ (T139.setTop (mkF m 134 #[.val (.int p1), .val (.int p2), .val (.int p3), .val (.int p4), .val (.int (0 : Int32)), .val (.ref w2), .val (.int (22 : Int32)), .val (.int vA), .val (.int vB), .val (.int vC), .val (.ref b3), .val (.ref b11), .val (.ref b22), .val (.int (1 : Int32)), .val (.int (1 : Int32)), .unset, .unset, .unset] [(.int (1 : Int32))]))
            refine OG.istore (Ls' := #[.val (.int p1), .val (.int p2), .val (.int p3), .val (.int p4), .val (.int (0 : Int32)), .val (.ref w2), .val (.int (22 : Int32)), .val (.int vA), .val (.int vB), .val (.int vC), .val (.ref b3), .val (.ref b11), .val (.ref b22), .val (.int (1 : Int32)), .val (.int (1 : Int32)), .val (.int (1 : Int32)), .unset, .unset]) X139 hx hby at_134 rfl rfl ?_
            refine OG.aload X139 hx hby at_136 rfl rfl rfl ?_
            refine OG.aload X139 hx hby at_138 rfl rfl rfl ?_
            refine OG.cV X139 hx hZ hby (by rw [hml]; rfl) hown (y := (⟨"com/example/tranchery/tranchery/rating/Rating", "meets", "(Lcom/example/tranchery/tranchery/rating/Rating;)Z"⟩ : MethodName)) (z := (⟨"com/example/tranchery/tranchery/rating/Rating", "meets", "(Lcom/example/tranchery/tranchery/rating/Rating;)Z"⟩ : MethodName)) (hw _ (List.mem_of_getElem? (i := 22) rfl)) (hw _ (List.mem_of_getElem? (i := 23) rfl)) (notFace_of_selects (args := #[]) (mvT hZ (hw _ (List.mem_of_getElem? (i := 25) rfl)))) (hw _ (List.mem_of_getElem? (i := 25) rfl)) (hw _ (List.mem_of_getElem? (i := 24) rfl)) (hw _ (List.mem_of_getElem? (i := 26) rfl)) (hw _ (List.mem_of_getElem? (i := 6) rfl)) (by decide) (own_rm_meets l Z a0 hw [] b11 b22 vB vC (1 : Int32) T34.heap n0 (Nat.le_trans (Nat.le_trans (Nat.le_trans (Nat.le_trans (Nat.le_trans (Nat.le_trans Z0 E3.1) K10.1) E11.1) K21.1) E22.1) K34.1) f138 Fb34 (by simp [k3])) f140 e139 (argsL := [(.ref b22)]) (stk := [(.ref b22), (.ref b11)]) (st := []) own_pd_2 rfl rfl rfl (W := 0) rfl (by decide) (by decide) (by decide) (by decide) at_140 rfl ?_
            intro T141 L141 v141 X141 q141
            obtain ⟨rfl, N141, e141⟩ := q141
            have M141 := Fr.app M139 N141
            show OG.Go _ _ _ _ _ _ _ (T141.setTop (mkF m 143 #[.val (.int p1), .val (.int p2), .val (.int p3), .val (.int p4), .val (.int (0 : Int32)), .val (.ref w2), .val (.int (22 : Int32)), .val (.int vA), .val (.int vB), .val (.int vC), .val (.ref b3), .val (.ref b11), .val (.ref b22), .val (.int (1 : Int32)), .val (.int (1 : Int32)), .val (.int (1 : Int32)), .unset, .unset] [(.int (1 : Int32))]))
            refine OG.istore (Ls' := #[.val (.int p1), .val (.int p2), .val (.int p3), .val (.int p4), .val (.int (0 : Int32)), .val (.ref w2), .val (.int (22 : Int32)), .val (.int vA), .val (.int vB), .val (.int vC), .val (.ref b3), .val (.ref b11), .val (.ref b22), .val (.int (1 : Int32)), .val (.int (1 : Int32)), .val (.int (1 : Int32)), .val (.int (1 : Int32)), .unset]) X141 hx hby at_143 rfl rfl ?_
            refine OG.aload X141 hx hby at_145 rfl rfl rfl ?_
            refine OG.aload X141 hx hby at_147 rfl rfl rfl ?_
            refine OG.cV X141 hx hZ hby (by rw [hml]; rfl) hown (y := (⟨"com/example/tranchery/tranchery/rating/Rating", "meets", "(Lcom/example/tranchery/tranchery/rating/Rating;)Z"⟩ : MethodName)) (z := (⟨"com/example/tranchery/tranchery/rating/Rating", "meets", "(Lcom/example/tranchery/tranchery/rating/Rating;)Z"⟩ : MethodName)) (hw _ (List.mem_of_getElem? (i := 22) rfl)) (hw _ (List.mem_of_getElem? (i := 23) rfl)) (notFace_of_selects (args := #[]) (mvT hZ (hw _ (List.mem_of_getElem? (i := 25) rfl)))) (hw _ (List.mem_of_getElem? (i := 25) rfl)) (hw _ (List.mem_of_getElem? (i := 24) rfl)) (hw _ (List.mem_of_getElem? (i := 26) rfl)) (hw _ (List.mem_of_getElem? (i := 6) rfl)) (by decide) (own_rm_meets l Z a0 hw [] b3 b22 vA vC (1 : Int32) T34.heap n0 (Nat.le_trans (Nat.le_trans (Nat.le_trans (Nat.le_trans (Nat.le_trans (Nat.le_trans Z0 E3.1) K10.1) E11.1) K21.1) E22.1) K34.1) f135 Fb34 (by simp [k4])) f136 e141 (argsL := [(.ref b22)]) (stk := [(.ref b22), (.ref b3)]) (st := []) own_pd_2 rfl rfl rfl (W := 0) rfl (by decide) (by decide) (by decide) (by decide) at_149 rfl ?_
            intro T142 L142 v142 X142 q142
            obtain ⟨rfl, N142, e142⟩ := q142
            have M142 := Fr.app M141 N142
            show OG.Go _ _ _ _ _ _ _ (T142.setTop (mkF m 152 #[.val (.int p1), .val (.int p2), .val (.int p3), .val (.int p4), .val (.int (0 : Int32)), .val (.ref w2), .val (.int (22 : Int32)), .val (.int vA), .val (.int vB), .val (.int vC), .val (.ref b3), .val (.ref b11), .val (.ref b22), .val (.int (1 : Int32)), .val (.int (1 : Int32)), .val (.int (1 : Int32)), .val (.int (1 : Int32)), .unset] [(.int (1 : Int32))]))
            refine OG.istore (Ls' := #[.val (.int p1), .val (.int p2), .val (.int p3), .val (.int p4), .val (.int (0 : Int32)), .val (.ref w2), .val (.int (22 : Int32)), .val (.int vA), .val (.int vB), .val (.int vC), .val (.ref b3), .val (.ref b11), .val (.ref b22), .val (.int (1 : Int32)), .val (.int (1 : Int32)), .val (.int (1 : Int32)), .val (.int (1 : Int32)), .val (.int (1 : Int32))]) X142 hx hby at_152 rfl rfl ?_
            refine OG.iload X142 hx hby at_154 rfl rfl ?_
            refine OG.ifYes (pc' := 161) X142 hx hby at_156 (feq (by decide)).2 (by decide) (by decide) ?_
            refine OG.iload X142 hx hby at_161 rfl rfl ?_
            refine OG.ifYes (pc' := 173) X142 hx hby at_163 (feq (by decide)).2 (by decide) (by decide) ?_
            refine OG.iload X142 hx hby at_173 rfl rfl ?_
            refine OG.ifNo X142 hx hby at_175 (feq (by decide)).1 rfl ?_
            refine OG.iload X142 hx hby at_178 rfl rfl ?_
            refine OG.ifNo X142 hx hby at_180 (feq (by decide)).1 rfl ?_
            refine OG.iconst (v := (1 : Int32)) X142 hx hby at_183 (by decide) rfl ?_
            refine OG.goto (pc' := 188) X142 hx hby at_184 (by decide) (by decide) ?_
            refine OG.iload X142 hx hby at_188 rfl rfl ?_
            refine OG.iload X142 hx hby at_190 rfl rfl ?_
            refine OG.icmpNo X142 hx hby at_192 (teq k0).2 rfl ?_
            refine OG.iconst (v := (1 : Int32)) X142 hx hby at_195 (by decide) rfl ?_
            refine OG.goto (pc' := 200) X142 hx hby at_196 (by decide) (by decide) ?_
            refine OG.icmpYes (pc' := 205) X142 hx hby at_200 (teq (by decide)).1 (by decide) (by decide) ?_
            refine OG.iload X142 hx hby at_205 rfl rfl ?_
            refine OG.iload X142 hx hby at_207 rfl rfl ?_
            refine OG.icmpYes (pc' := 224) X142 hx hby at_209 (flt k2).2.1 (by decide) (by decide) ?_
            refine OG.iload X142 hx hby at_224 rfl rfl ?_
            refine OG.iload X142 hx hby at_226 rfl rfl ?_
            refine OG.icmpYes (pc' := 243) X142 hx hby at_228 (flt k1).2.1 (by decide) (by decide) ?_
            refine OG.iload X142 hx hby at_243 rfl rfl ?_
            refine OG.ifNo X142 hx hby at_245 (feq (by decide)).1 rfl ?_
            refine OG.iload X142 hx hby at_248 rfl rfl ?_
            refine OG.ifNo X142 hx hby at_250 (feq (by decide)).1 rfl ?_
            refine OG.iload X142 hx hby at_253 rfl rfl ?_
            refine OG.ifYes (pc' := 260) X142 hx hby at_255 (feq (by decide)).2 (by decide) (by decide) ?_
            refine OG.iconst (v := (1 : Int32)) X142 hx hby at_260 (by decide) rfl ?_
            refine OG.retZ X142 hx hby Bd.returns (by simp) at_261 Bd.notSynchronized (by decide) (by decide) ?_
            exact ⟨rfl, M142⟩
  · refine OG.ifNo X0 hx hby at_3 (feq hc3_1).1 rfl ?_
    refine OG.iconst (v := (1 : Int32)) X0 hx hby at_6 (by decide) rfl ?_
    refine OG.goto (pc' := 11) X0 hx hby at_7 (by decide) (by decide) ?_
    refine OG.istore (Ls' := #[.val (.int p1), .val (.int p2), .val (.int p3), .val (.int p4), .val (.int (1 : Int32)), .unset, .unset, .unset, .unset, .unset, .unset, .unset, .unset, .unset, .unset, .unset, .unset, .unset]) X0 hx hby at_11 rfl rfl ?_
    refine OG.iload X0 hx hby at_13 rfl rfl ?_
    refine OG.ifNo X0 hx hby at_15 (feq (by decide)).1 rfl ?_
    refine OG.gS X0 hx hZ hby hown (hw _ (List.mem_of_getElem? (i := 27) rfl)) Via.refl e0 S_MOODYS at_18 rfl ?_
    intro T143 X143 e143
    refine OG.goto (pc' := 27) X143 hx hby at_21 (by decide) (by decide) ?_
    refine OG.astore (Ls' := #[.val (.int p1), .val (.int p2), .val (.int p3), .val (.int p4), .val (.int (1 : Int32)), .val (.ref w1), .unset, .unset, .unset, .unset, .unset, .unset, .unset, .unset, .unset, .unset, .unset, .unset]) X143 hx hby at_27 rfl rfl rfl ?_
    refine OG.iload X143 hx hby at_29 rfl rfl ?_
    refine OG.ifNo X143 hx hby at_31 (feq (by decide)).1 rfl ?_
    refine OG.bipush (v := (21 : Int32)) X143 hx hby at_34 (by decide) rfl ?_
    refine OG.goto (pc' := 41) X143 hx hby at_36 (by decide) (by decide) ?_
    refine OG.istore (Ls' := #[.val (.int p1), .val (.int p2), .val (.int p3), .val (.int p4), .val (.int (1 : Int32)), .val (.ref w1), .val (.int (21 : Int32)), .unset, .unset, .unset, .unset, .unset, .unset, .unset, .unset, .unset, .unset, .unset]) X143 hx hby at_41 rfl rfl ?_
    refine OG.iloadN X143 hx hby at_43 rfl rfl ?_
    refine OG.ldcI (v := (2147483647 : Int32)) X143 hx hZ hby hown (hw _ (List.mem_of_getElem? (i := 3) rfl)) at_44 rfl ?_
    refine OG.iand X143 hx hby at_46 rfl ?_
    refine OG.iload X143 hx hby at_47 rfl rfl ?_
    refine OG.irem X143 hx hby at_49 (by decide) rfl ?_
    generalize ((p2 &&& (2147483647 : Int32)) % (21 : Int32)) = vA
    refine OG.istore (Ls' := #[.val (.int p1), .val (.int p2), .val (.int p3), .val (.int p4), .val (.int (1 : Int32)), .val (.ref w1), .val (.int (21 : Int32)), .val (.int vA), .unset, .unset, .unset, .unset, .unset, .unset, .unset, .unset, .unset, .unset]) X143 hx hby at_50 rfl rfl ?_
    refine OG.iloadN X143 hx hby at_52 rfl rfl ?_
    refine OG.ldcI (v := (2147483647 : Int32)) X143 hx hZ hby hown (hw _ (List.mem_of_getElem? (i := 3) rfl)) at_53 rfl ?_
    refine OG.iand X143 hx hby at_55 rfl ?_
    refine OG.iload X143 hx hby at_56 rfl rfl ?_
    refine OG.irem X143 hx hby at_58 (by decide) rfl ?_
    generalize ((p3 &&& (2147483647 : Int32)) % (21 : Int32)) = vB
    refine OG.istore (Ls' := #[.val (.int p1), .val (.int p2), .val (.int p3), .val (.int p4), .val (.int (1 : Int32)), .val (.ref w1), .val (.int (21 : Int32)), .val (.int vA), .val (.int vB), .unset, .unset, .unset, .unset, .unset, .unset, .unset, .unset, .unset]) X143 hx hby at_59 rfl rfl ?_
    refine OG.iloadN X143 hx hby at_61 rfl rfl ?_
    refine OG.ldcI (v := (2147483647 : Int32)) X143 hx hZ hby hown (hw _ (List.mem_of_getElem? (i := 3) rfl)) at_62 rfl ?_
    refine OG.iand X143 hx hby at_64 rfl ?_
    refine OG.iload X143 hx hby at_65 rfl rfl ?_
    refine OG.irem X143 hx hby at_67 (by decide) rfl ?_
    generalize ((p4 &&& (2147483647 : Int32)) % (21 : Int32)) = vC
    refine OG.istore (Ls' := #[.val (.int p1), .val (.int p2), .val (.int p3), .val (.int p4), .val (.int (1 : Int32)), .val (.ref w1), .val (.int (21 : Int32)), .val (.int vA), .val (.int vB), .val (.int vC), .unset, .unset, .unset, .unset, .unset, .unset, .unset, .unset]) X143 hx hby at_68 rfl rfl ?_
    refine OG.nO X143 hx hZ hby hown (hw _ (List.mem_of_getElem? (i := 4) rfl)) (hw _ (List.mem_of_getElem? (i := 5) rfl)) (hw _ (List.mem_of_getElem? (i := 6) rfl)) e143 at_70 (by decide) (by decide) rfl ?_
    intro T144 h144 b144 g144 X144 e144 E144 A144 D144
    have ne145 : w1 ≠ b144 := Nat.ne_of_lt (Nat.lt_of_lt_of_le (Exa.lt E_MOODYS) (Nat.le_of_eq g144.symm))
    have ne146 : w2 ≠ b144 := Nat.ne_of_lt (Nat.lt_of_lt_of_le (Exa.lt E_S_AND_P) (Nat.le_of_eq g144.symm))
    have gn147 : n0 ≤ b144 := Nat.le_trans Z0 (Nat.le_of_eq g144.symm)
    have sz148 : h0.size ≤ b144 := Nat.le_trans (Nat.le_refl _) (Nat.le_of_eq g144.symm)
    have f149 : Fld Z h144 b144 "com/example/tranchery/tranchery/rating/Rating" "agency" "Lcom/example/tranchery/tranchery/rating/Agency;" .null := D144 (Or.inr (hw _ (List.mem_of_getElem? (i := 19) rfl))) (ty := (.object "com/example/tranchery/tranchery/rating/Agency")) (by decide)
    have f150 : Fld Z h144 b144 "com/example/tranchery/tranchery/rating/Rating" "rank" "I" (.int (0 : Int32)) := D144 (Or.inr (hw _ (List.mem_of_getElem? (i := 21) rfl))) (ty := .int) (by decide)
    refine OG.dup X144 hx hby at_73 rfl rfl ?_
    refine OG.aload X144 hx hby at_74 rfl rfl rfl ?_
    refine OG.iload X144 hx hby at_76 rfl rfl ?_
    refine OG.cN X144 hx hZ hby (by rw [hml]; rfl) hown (y := (⟨"com/example/tranchery/tranchery/rating/Rating", "<init>", "(Lcom/example/tranchery/tranchery/rating/Agency;I)V"⟩ : MethodName)) rfl rfl (hw _ (List.mem_of_getElem? (i := 7) rfl)) (hw _ (List.mem_of_getElem? (i := 8) rfl)) (hw _ (List.mem_of_getElem? (i := 9) rfl)) (hw _ (List.mem_of_getElem? (i := 6) rfl)) (by decide) (own_rm_rinit l Z a0 hw [] b144 w1 vA h144 n0 (Nat.le_trans Z0 E144.1) A144 f149 f150 gn147) e144 (argsL := [(.ref w1), (.int vA)]) (stk := [(.int vA), (.ref w1), (.ref b144), (.ref b144)]) (st := [(.ref b144)]) own_pd_1 rfl rfl rfl (W := 1) rfl (by decide) (by decide) (by decide) (by decide) at_78 rfl ?_
    intro T151 L151 v151 X151 q151
    obtain ⟨rfl, N151, K151, Ea151, Fa151, Fb151⟩ := q151
    have M151 := Fr.app N0 N151
    show OG.Go _ _ _ _ _ _ _ (T151.setTop (mkF m 81 #[.val (.int p1), .val (.int p2), .val (.int p3), .val (.int p4), .val (.int (1 : Int32)), .val (.ref w1), .val (.int (21 : Int32)), .val (.int vA), .val (.int vB), .val (.int vC), .unset, .unset, .unset, .unset, .unset, .unset, .unset, .unset] [(.ref b144)]))
    refine OG.astore (Ls' := #[.val (.int p1), .val (.int p2), .val (.int p3), .val (.int p4), .val (.int (1 : Int32)), .val (.ref w1), .val (.int (21 : Int32)), .val (.int vA), .val (.int vB), .val (.int vC), .val (.ref b144), .unset, .unset, .unset, .unset, .unset, .unset, .unset]) X151 hx hby at_81 rfl rfl rfl ?_
    refine OG.nO X151 hx hZ hby hown (hw _ (List.mem_of_getElem? (i := 4) rfl)) (hw _ (List.mem_of_getElem? (i := 5) rfl)) (hw _ (List.mem_of_getElem? (i := 6) rfl)) rfl at_83 (by decide) (by decide) rfl ?_
    intro T152 h152 b152 g152 X152 e152 E152 A152 D152
    have f153 := (Exa.keep (Exa.ext E144 E_MOODYS) K151)
    have ne154 : w1 ≠ b152 := Nat.ne_of_lt (Nat.lt_of_lt_of_le (Exa.lt f153) (Nat.le_of_eq g152.symm))
    have f155 := (Exa.keep (Exa.ext E144 E_S_AND_P) K151)
    have ne156 : w2 ≠ b152 := Nat.ne_of_lt (Nat.lt_of_lt_of_le (Exa.lt f155) (Nat.le_of_eq g152.symm))
    have ne157 : b144 ≠ b152 := Nat.ne_of_lt (Nat.lt_of_lt_of_le (Exa.lt Ea151) (Nat.le_of_eq g152.symm))
    have gn158 : n0 ≤ b152 := Nat.le_trans (Nat.le_trans (Nat.le_trans Z0 E144.1) K151.1) (Nat.le_of_eq g152.symm)
    have sz159 : h0.size ≤ b152 := Nat.le_trans (Nat.le_trans (Nat.le_trans (Nat.le_refl _) E144.1) K151.1) (Nat.le_of_eq g152.symm)
    have f160 : Fld Z h152 b152 "com/example/tranchery/tranchery/rating/Rating" "agency" "Lcom/example/tranchery/tranchery/rating/Agency;" .null := D152 (Or.inr (hw _ (List.mem_of_getElem? (i := 19) rfl))) (ty := (.object "com/example/tranchery/tranchery/rating/Agency")) (by decide)
    have f161 : Fld Z h152 b152 "com/example/tranchery/tranchery/rating/Rating" "rank" "I" (.int (0 : Int32)) := D152 (Or.inr (hw _ (List.mem_of_getElem? (i := 21) rfl))) (ty := .int) (by decide)
    refine OG.dup X152 hx hby at_86 rfl rfl ?_
    refine OG.aload X152 hx hby at_87 rfl rfl rfl ?_
    refine OG.iload X152 hx hby at_89 rfl rfl ?_
    refine OG.cN X152 hx hZ hby (by rw [hml]; rfl) hown (y := (⟨"com/example/tranchery/tranchery/rating/Rating", "<init>", "(Lcom/example/tranchery/tranchery/rating/Agency;I)V"⟩ : MethodName)) rfl rfl (hw _ (List.mem_of_getElem? (i := 7) rfl)) (hw _ (List.mem_of_getElem? (i := 8) rfl)) (hw _ (List.mem_of_getElem? (i := 9) rfl)) (hw _ (List.mem_of_getElem? (i := 6) rfl)) (by decide) (own_rm_rinit l Z a0 hw [] b152 w1 vB h152 n0 (Nat.le_trans (Nat.le_trans (Nat.le_trans Z0 E144.1) K151.1) E152.1) A152 f160 f161 gn158) e152 (argsL := [(.ref w1), (.int vB)]) (stk := [(.int vB), (.ref w1), (.ref b152), (.ref b152)]) (st := [(.ref b152)]) own_pd_1 rfl rfl rfl (W := 1) rfl (by decide) (by decide) (by decide) (by decide) at_91 rfl ?_
    intro T162 L162 v162 X162 q162
    obtain ⟨rfl, N162, K162, Ea162, Fa162, Fb162⟩ := q162
    have M162 := Fr.app M151 N162
    show OG.Go _ _ _ _ _ _ _ (T162.setTop (mkF m 94 #[.val (.int p1), .val (.int p2), .val (.int p3), .val (.int p4), .val (.int (1 : Int32)), .val (.ref w1), .val (.int (21 : Int32)), .val (.int vA), .val (.int vB), .val (.int vC), .val (.ref b144), .unset, .unset, .unset, .unset, .unset, .unset, .unset] [(.ref b152)]))
    refine OG.astore (Ls' := #[.val (.int p1), .val (.int p2), .val (.int p3), .val (.int p4), .val (.int (1 : Int32)), .val (.ref w1), .val (.int (21 : Int32)), .val (.int vA), .val (.int vB), .val (.int vC), .val (.ref b144), .val (.ref b152), .unset, .unset, .unset, .unset, .unset, .unset]) X162 hx hby at_94 rfl rfl rfl ?_
    refine OG.nO X162 hx hZ hby hown (hw _ (List.mem_of_getElem? (i := 4) rfl)) (hw _ (List.mem_of_getElem? (i := 5) rfl)) (hw _ (List.mem_of_getElem? (i := 6) rfl)) rfl at_96 (by decide) (by decide) rfl ?_
    intro T163 h163 b163 g163 X163 e163 E163 A163 D163
    have f164 := (Exa.keep (Exa.ext E152 f153) K162)
    have ne165 : w1 ≠ b163 := Nat.ne_of_lt (Nat.lt_of_lt_of_le (Exa.lt f164) (Nat.le_of_eq g163.symm))
    have f166 := (Exa.keep (Exa.ext E152 f155) K162)
    have ne167 : w2 ≠ b163 := Nat.ne_of_lt (Nat.lt_of_lt_of_le (Exa.lt f166) (Nat.le_of_eq g163.symm))
    have f168 := (Exa.keep (Exa.ext E152 Ea151) K162)
    have ne169 : b144 ≠ b163 := Nat.ne_of_lt (Nat.lt_of_lt_of_le (Exa.lt f168) (Nat.le_of_eq g163.symm))
    have ne170 : b152 ≠ b163 := Nat.ne_of_lt (Nat.lt_of_lt_of_le (Exa.lt Ea162) (Nat.le_of_eq g163.symm))
    have gn171 : n0 ≤ b163 := Nat.le_trans (Nat.le_trans (Nat.le_trans (Nat.le_trans (Nat.le_trans Z0 E144.1) K151.1) E152.1) K162.1) (Nat.le_of_eq g163.symm)
    have sz172 : h0.size ≤ b163 := Nat.le_trans (Nat.le_trans (Nat.le_trans (Nat.le_trans (Nat.le_trans (Nat.le_refl _) E144.1) K151.1) E152.1) K162.1) (Nat.le_of_eq g163.symm)
    have f173 : Fld Z h163 b163 "com/example/tranchery/tranchery/rating/Rating" "agency" "Lcom/example/tranchery/tranchery/rating/Agency;" .null := D163 (Or.inr (hw _ (List.mem_of_getElem? (i := 19) rfl))) (ty := (.object "com/example/tranchery/tranchery/rating/Agency")) (by decide)
    have f174 : Fld Z h163 b163 "com/example/tranchery/tranchery/rating/Rating" "rank" "I" (.int (0 : Int32)) := D163 (Or.inr (hw _ (List.mem_of_getElem? (i := 21) rfl))) (ty := .int) (by decide)
    refine OG.dup X163 hx hby at_99 rfl rfl ?_
    refine OG.aload X163 hx hby at_100 rfl rfl rfl ?_
    refine OG.iload X163 hx hby at_102 rfl rfl ?_
    refine OG.cN X163 hx hZ hby (by rw [hml]; rfl) hown (y := (⟨"com/example/tranchery/tranchery/rating/Rating", "<init>", "(Lcom/example/tranchery/tranchery/rating/Agency;I)V"⟩ : MethodName)) rfl rfl (hw _ (List.mem_of_getElem? (i := 7) rfl)) (hw _ (List.mem_of_getElem? (i := 8) rfl)) (hw _ (List.mem_of_getElem? (i := 9) rfl)) (hw _ (List.mem_of_getElem? (i := 6) rfl)) (by decide) (own_rm_rinit l Z a0 hw [] b163 w1 vC h163 n0 (Nat.le_trans (Nat.le_trans (Nat.le_trans (Nat.le_trans (Nat.le_trans Z0 E144.1) K151.1) E152.1) K162.1) E163.1) A163 f173 f174 gn171) e163 (argsL := [(.ref w1), (.int vC)]) (stk := [(.int vC), (.ref w1), (.ref b163), (.ref b163)]) (st := [(.ref b163)]) own_pd_1 rfl rfl rfl (W := 1) rfl (by decide) (by decide) (by decide) (by decide) at_104 rfl ?_
    intro T175 L175 v175 X175 q175
    obtain ⟨rfl, N175, K175, Ea175, Fa175, Fb175⟩ := q175
    have M175 := Fr.app M162 N175
    show OG.Go _ _ _ _ _ _ _ (T175.setTop (mkF m 107 #[.val (.int p1), .val (.int p2), .val (.int p3), .val (.int p4), .val (.int (1 : Int32)), .val (.ref w1), .val (.int (21 : Int32)), .val (.int vA), .val (.int vB), .val (.int vC), .val (.ref b144), .val (.ref b152), .unset, .unset, .unset, .unset, .unset, .unset] [(.ref b163)]))
    refine OG.astore (Ls' := #[.val (.int p1), .val (.int p2), .val (.int p3), .val (.int p4), .val (.int (1 : Int32)), .val (.ref w1), .val (.int (21 : Int32)), .val (.int vA), .val (.int vB), .val (.int vC), .val (.ref b144), .val (.ref b152), .val (.ref b163), .unset, .unset, .unset, .unset, .unset]) X175 hx hby at_107 rfl rfl rfl ?_
    by_cases k1 : vB < vA
    · have k2 : ¬ vA < vB := Int32.not_lt.mpr (Int32.le_of_lt k1)
      have k0 : ¬ vA = vB := fun q => by subst q; exact Int32.lt_irrefl k1
      by_cases k3 : vC < vB
      · by_cases k4 : vC < vA
        · refine OG.aload X175 hx hby at_109 rfl rfl rfl ?_
          refine OG.aload X175 hx hby at_111 rfl rfl rfl ?_
          have f177 := (Fld.keep (Fld.ext E163 (Fld.keep (Fld.ext E152 Fb151) K162 (ninS ne157 nin0))) K175 (ninS ne169 nin0))
          have f178 := (Exa.keep (Exa.ext E163 f168) K175)
          refine OG.cV X175 hx hZ hby (by rw [hml]; rfl) hown (y := (⟨"com/example/tranchery/tranchery/rating/Rating", "meets", "(Lcom/example/tranchery/tranchery/rating/Rating;)Z"⟩ : MethodName)) (z := (⟨"com/example/tranchery/tranchery/rating/Rating", "meets", "(Lcom/example/tranchery/tranchery/rating/Rating;)Z"⟩ : MethodName)) (hw _ (List.mem_of_getElem? (i := 22) rfl)) (hw _ (List.mem_of_getElem? (i := 23) rfl)) (notFace_of_selects (args := #[]) (mvT hZ (hw _ (List.mem_of_getElem? (i := 25) rfl)))) (hw _ (List.mem_of_getElem? (i := 25) rfl)) (hw _ (List.mem_of_getElem? (i := 24) rfl)) (hw _ (List.mem_of_getElem? (i := 26) rfl)) (hw _ (List.mem_of_getElem? (i := 6) rfl)) (by decide) (own_rm_meets l Z a0 hw [] b144 b144 vA vA (1 : Int32) T175.heap n0 (Nat.le_trans (Nat.le_trans (Nat.le_trans (Nat.le_trans (Nat.le_trans (Nat.le_trans Z0 E144.1) K151.1) E152.1) K162.1) E163.1) K175.1) f177 f177 (by simp)) f178 rfl (argsL := [(.ref b144)]) (stk := [(.ref b144), (.ref b144)]) (st := []) own_pd_2 rfl rfl rfl (W := 0) rfl (by decide) (by decide) (by decide) (by decide) at_113 rfl ?_
          intro T176 L176 v176 X176 q176
          obtain ⟨rfl, N176, e176⟩ := q176
          have M176 := Fr.app M175 N176
          show OG.Go _ _ _ _ _ _ _ (T176.setTop (mkF m 116 #[.val (.int p1), .val (.int p2), .val (.int p3), .val (.int p4), .val (.int (1 : Int32)), .val (.ref w1), .val (.int (21 : Int32)), .val (.int vA), .val (.int vB), .val (.int vC), .val (.ref b144), .val (.ref b152), .val (.ref b163), .unset, .unset, .unset, .unset, .unset] [(.int (1 : Int32))]))
          refine OG.istore (Ls' := #[.val (.int p1), .val (.int p2), .val (.int p3), .val (.int p4), .val (.int (1 : Int32)), .val (.ref w1), .val (.int (21 : Int32)), .val (.int vA), .val (.int vB), .val (.int vC), .val (.ref b144), .val (.ref b152), .val (.ref b163), .val (.int (1 : Int32)), .unset, .unset, .unset, .unset]) X176 hx hby at_116 rfl rfl ?_
          refine OG.aload X176 hx hby at_118 rfl rfl rfl ?_
          refine OG.aload X176 hx hby at_120 rfl rfl rfl ?_
          have f180 := (Fld.keep (Fld.ext E163 Fb162) K175 (ninS ne170 nin0))
          refine OG.cV X176 hx hZ hby (by rw [hml]; rfl) hown (y := (⟨"com/example/tranchery/tranchery/rating/Rating", "meets", "(Lcom/example/tranchery/tranchery/rating/Rating;)Z"⟩ : MethodName)) (z := (⟨"com/example/tranchery/tranchery/rating/Rating", "meets", "(Lcom/example/tranchery/tranchery/rating/Rating;)Z"⟩ : MethodName)) (hw _ (List.mem_of_getElem? (i := 22) rfl)) (hw _ (List.mem_of_getElem? (i := 23) rfl)) (notFace_of_selects (args := #[]) (mvT hZ (hw _ (List.mem_of_getElem? (i := 25) rfl)))) (hw _ (List.mem_of_getElem? (i := 25) rfl)) (hw _ (List.mem_of_getElem? (i := 24) rfl)) (hw _ (List.mem_of_getElem? (i := 26) rfl)) (hw _ (List.mem_of_getElem? (i := 6) rfl)) (by decide) (own_rm_meets l Z a0 hw [] b144 b152 vA vB (0 : Int32) T175.heap n0 (Nat.le_trans (Nat.le_trans (Nat.le_trans (Nat.le_trans (Nat.le_trans (Nat.le_trans Z0 E144.1) K151.1) E152.1) K162.1) E163.1) K175.1) f177 f180 (by simp [k1])) f178 e176 (argsL := [(.ref b152)]) (stk := [(.ref b152), (.ref b144)]) (st := []) own_pd_2 rfl rfl rfl (W := 0) rfl (by decide) (by decide) (by decide) (by decide) at_122 rfl ?_
          intro T179 L179 v179 X179 q179
          obtain ⟨rfl, N179, e179⟩ := q179
          have M179 := Fr.app M176 N179
          show OG.Go _ _ _ _ _ _ _ (T179.setTop (mkF m 125 #[.val (.int p1), .val (.int p2), .val (.int p3), .val (.int p4), .val (.int (1 : Int32)), .val (.ref w1), .val (.int (21 : Int32)), .val (.int vA), .val (.int vB), .val (.int vC), .val (.ref b144), .val (.ref b152), .val (.ref b163), .val (.int (1 : Int32)), .unset, .unset, .unset, .unset] [(.int (0 : Int32))]))
          refine OG.istore (Ls' := #[.val (.int p1), .val (.int p2), .val (.int p3), .val (.int p4), .val (.int (1 : Int32)), .val (.ref w1), .val (.int (21 : Int32)), .val (.int vA), .val (.int vB), .val (.int vC), .val (.ref b144), .val (.ref b152), .val (.ref b163), .val (.int (1 : Int32)), .val (.int (0 : Int32)), .unset, .unset, .unset]) X179 hx hby at_125 rfl rfl ?_
          refine OG.aload X179 hx hby at_127 rfl rfl rfl ?_
          refine OG.aload X179 hx hby at_129 rfl rfl rfl ?_
          have f182 := (Exa.keep (Exa.ext E163 Ea162) K175)
          refine OG.cV X179 hx hZ hby (by rw [hml]; rfl) hown (y := (⟨"com/example/tranchery/tranchery/rating/Rating", "meets", "(Lcom/example/tranchery/tranchery/rating/Rating;)Z"⟩ : MethodName)) (z := (⟨"com/example/tranchery/tranchery/rating/Rating", "meets", "(Lcom/example/tranchery/tranchery/rating/Rating;)Z"⟩ : MethodName)) (hw _ (List.mem_of_getElem? (i := 22) rfl)) (hw _ (List.mem_of_getElem? (i := 23) rfl)) (notFace_of_selects (args := #[]) (mvT hZ (hw _ (List.mem_of_getElem? (i := 25) rfl)))) (hw _ (List.mem_of_getElem? (i := 25) rfl)) (hw _ (List.mem_of_getElem? (i := 24) rfl)) (hw _ (List.mem_of_getElem? (i := 26) rfl)) (hw _ (List.mem_of_getElem? (i := 6) rfl)) (by decide) (own_rm_meets l Z a0 hw [] b152 b144 vB vA (1 : Int32) T175.heap n0 (Nat.le_trans (Nat.le_trans (Nat.le_trans (Nat.le_trans (Nat.le_trans (Nat.le_trans Z0 E144.1) K151.1) E152.1) K162.1) E163.1) K175.1) f180 f177 (by simp [k2])) f182 e179 (argsL := [(.ref b144)]) (stk := [(.ref b144), (.ref b152)]) (st := []) own_pd_2 rfl rfl rfl (W := 0) rfl (by decide) (by decide) (by decide) (by decide) at_131 rfl ?_
          intro T181 L181 v181 X181 q181
          obtain ⟨rfl, N181, e181⟩ := q181
          have M181 := Fr.app M179 N181
          show OG.Go _ _ _ _ _ _ _ (T181.setTop (mkF m 134 #[.val (.int p1), .val (.int p2), .val (.int p3), .val (.int p4), .val (.int (1 : Int32)), .val (.ref w1), .val (.int (21 : Int32)), .val (.int vA), .val (.int vB), .val (.int vC), .val (.ref b144), .val (.ref b152), .val (.ref b163), .val (.int (1 : Int32)), .val (.int (0 : Int32)), .unset, .unset, .unset] [(.int (1 : Int32))]))
          refine OG.istore (Ls' := #[.val (.int p1), .val (.int p2), .val (.int p3), .val (.int p4), .val (.int (1 : Int32)), .val (.ref w1), .val (.int (21 : Int32)), .val (.int vA), .val (.int vB), .val (.int vC), .val (.ref b144), .val (.ref b152), .val (.ref b163), .val (.int (1 : Int32)), .val (.int (0 : Int32)), .val (.int (1 : Int32)), .unset, .unset]) X181 hx hby at_134 rfl rfl ?_
          refine OG.aload X181 hx hby at_136 rfl rfl rfl ?_
          refine OG.aload X181 hx hby at_138 rfl rfl rfl ?_
          refine OG.cV X181 hx hZ hby (by rw [hml]; rfl) hown (y := (⟨"com/example/tranchery/tranchery/rating/Rating", "meets", "(Lcom/example/tranchery/tranchery/rating/Rating;)Z"⟩ : MethodName)) (z := (⟨"com/example/tranchery/tranchery/rating/Rating", "meets", "(Lcom/example/tranchery/tranchery/rating/Rating;)Z"⟩ : MethodName)) (hw _ (List.mem_of_getElem? (i := 22) rfl)) (hw _ (List.mem_of_getElem? (i := 23) rfl)) (notFace_of_selects (args := #[]) (mvT hZ (hw _ (List.mem_of_getElem? (i := 25) rfl)))) (hw _ (List.mem_of_getElem? (i := 25) rfl)) (hw _ (List.mem_of_getElem? (i := 24) rfl)) (hw _ (List.mem_of_getElem? (i := 26) rfl)) (hw _ (List.mem_of_getElem? (i := 6) rfl)) (by decide) (own_rm_meets l Z a0 hw [] b152 b163 vB vC (0 : Int32) T175.heap n0 (Nat.le_trans (Nat.le_trans (Nat.le_trans (Nat.le_trans (Nat.le_trans (Nat.le_trans Z0 E144.1) K151.1) E152.1) K162.1) E163.1) K175.1) f180 Fb175 (by simp [k3])) f182 e181 (argsL := [(.ref b163)]) (stk := [(.ref b163), (.ref b152)]) (st := []) own_pd_2 rfl rfl rfl (W := 0) rfl (by decide) (by decide) (by decide) (by decide) at_140 rfl ?_
          intro T183 L183 v183 X183 q183
          obtain ⟨rfl, N183, e183⟩ := q183
          have M183 := Fr.app M181 N183
          show OG.Go _ _ _ _ _ _ _ (T183.setTop (mkF m 143 #[.val (.int p1), .val (.int p2), .val (.int p3), .val (.int p4), .val (.int (1 : Int32)), .val (.ref w1), .val (.int (21 : Int32)), .val (.int vA), .val (.int vB), .val (.int vC), .val (.ref b144), .val (.ref b152), .val (.ref b163), .val (.int (1 : Int32)), .val (.int (0 : Int32)), .val (.int (1 : Int32)), .unset, .unset] [(.int (0 : Int32))]))
          refine OG.istore (Ls' := #[.val (.int p1), .val (.int p2), .val (.int p3), .val (.int p4), .val (.int (1 : Int32)), .val (.ref w1), .val (.int (21 : Int32)), .val (.int vA), .val (.int vB), .val (.int vC), .val (.ref b144), .val (.ref b152), .val (.ref b163), .val (.int (1 : Int32)), .val (.int (0 : Int32)), .val (.int (1 : Int32)), .val (.int (0 : Int32)), .unset]) X183 hx hby at_143 rfl rfl ?_
          refine OG.aload X183 hx hby at_145 rfl rfl rfl ?_
          refine OG.aload X183 hx hby at_147 rfl rfl rfl ?_
          refine OG.cV X183 hx hZ hby (by rw [hml]; rfl) hown (y := (⟨"com/example/tranchery/tranchery/rating/Rating", "meets", "(Lcom/example/tranchery/tranchery/rating/Rating;)Z"⟩ : MethodName)) (z := (⟨"com/example/tranchery/tranchery/rating/Rating", "meets", "(Lcom/example/tranchery/tranchery/rating/Rating;)Z"⟩ : MethodName)) (hw _ (List.mem_of_getElem? (i := 22) rfl)) (hw _ (List.mem_of_getElem? (i := 23) rfl)) (notFace_of_selects (args := #[]) (mvT hZ (hw _ (List.mem_of_getElem? (i := 25) rfl)))) (hw _ (List.mem_of_getElem? (i := 25) rfl)) (hw _ (List.mem_of_getElem? (i := 24) rfl)) (hw _ (List.mem_of_getElem? (i := 26) rfl)) (hw _ (List.mem_of_getElem? (i := 6) rfl)) (by decide) (own_rm_meets l Z a0 hw [] b144 b163 vA vC (0 : Int32) T175.heap n0 (Nat.le_trans (Nat.le_trans (Nat.le_trans (Nat.le_trans (Nat.le_trans (Nat.le_trans Z0 E144.1) K151.1) E152.1) K162.1) E163.1) K175.1) f177 Fb175 (by simp [k4])) f178 e183 (argsL := [(.ref b163)]) (stk := [(.ref b163), (.ref b144)]) (st := []) own_pd_2 rfl rfl rfl (W := 0) rfl (by decide) (by decide) (by decide) (by decide) at_149 rfl ?_
          intro T184 L184 v184 X184 q184
          obtain ⟨rfl, N184, e184⟩ := q184
          have M184 := Fr.app M183 N184
          show OG.Go _ _ _ _ _ _ _ (T184.setTop (mkF m 152 #[.val (.int p1), .val (.int p2), .val (.int p3), .val (.int p4), .val (.int (1 : Int32)), .val (.ref w1), .val (.int (21 : Int32)), .val (.int vA), .val (.int vB), .val (.int vC), .val (.ref b144), .val (.ref b152), .val (.ref b163), .val (.int (1 : Int32)), .val (.int (0 : Int32)), .val (.int (1 : Int32)), .val (.int (0 : Int32)), .unset] [(.int (0 : Int32))]))
          refine OG.istore (Ls' := #[.val (.int p1), .val (.int p2), .val (.int p3), .val (.int p4), .val (.int (1 : Int32)), .val (.ref w1), .val (.int (21 : Int32)), .val (.int vA), .val (.int vB), .val (.int vC), .val (.ref b144), .val (.ref b152), .val (.ref b163), .val (.int (1 : Int32)), .val (.int (0 : Int32)), .val (.int (1 : Int32)), .val (.int (0 : Int32)), .val (.int (0 : Int32))]) X184 hx hby at_152 rfl rfl ?_
          refine OG.iload X184 hx hby at_154 rfl rfl ?_
          refine OG.ifYes (pc' := 161) X184 hx hby at_156 (feq (by decide)).2 (by decide) (by decide) ?_
          refine OG.iload X184 hx hby at_161 rfl rfl ?_
          refine OG.ifNo X184 hx hby at_163 (teq (by decide)).2 rfl ?_
          refine OG.iload X184 hx hby at_166 rfl rfl ?_
          refine OG.ifYes (pc' := 173) X184 hx hby at_168 (feq (by decide)).2 (by decide) (by decide) ?_
          refine OG.iload X184 hx hby at_173 rfl rfl ?_
          refine OG.ifYes (pc' := 187) X184 hx hby at_175 (teq (by decide)).1 (by decide) (by decide) ?_
          refine OG.iconst (v := (0 : Int32)) X184 hx hby at_187 (by decide) rfl ?_
          refine OG.iload X184 hx hby at_188 rfl rfl ?_
          refine OG.iload X184 hx hby at_190 rfl rfl ?_
          refine OG.icmpYes (pc' := 199) X184 hx hby at_192 (feq k0).2 (by decide) (by decide) ?_
          refine OG.iconst (v := (0 : Int32)) X184 hx hby at_199 (by decide) rfl ?_
          refine OG.icmpYes (pc' := 205) X184 hx hby at_200 (teq (by decide)).1 (by decide) (by decide) ?_
          refine OG.iload X184 hx hby at_205 rfl rfl ?_
          refine OG.iload X184 hx hby at_207 rfl rfl ?_
          refine OG.icmpYes (pc' := 224) X184 hx hby at_209 (flt k2).2.1 (by decide) (by decide) ?_
          refine OG.iload X184 hx hby at_224 rfl rfl ?_
          refine OG.iload X184 hx hby at_226 rfl rfl ?_
          refine OG.icmpNo X184 hx hby at_228 (tlt k1).2.1 rfl ?_
          refine OG.iload X184 hx hby at_231 rfl rfl ?_
          refine OG.ifNo X184 hx hby at_233 (feq (by decide)).1 rfl ?_
          refine OG.iload X184 hx hby at_236 rfl rfl ?_
          refine OG.ifYes (pc' := 243) X184 hx hby at_238 (teq (by decide)).1 (by decide) (by decide) ?_
          refine OG.iload X184 hx hby at_243 rfl rfl ?_
          refine OG.ifYes (pc' := 260) X184 hx hby at_245 (teq (by decide)).1 (by decide) (by decide) ?_
          refine OG.iconst (v := (1 : Int32)) X184 hx hby at_260 (by decide) rfl ?_
          refine OG.retZ X184 hx hby Bd.returns (by simp) at_261 Bd.notSynchronized (by decide) (by decide) ?_
          exact ⟨rfl, M184⟩
        · refine OG.aload X175 hx hby at_109 rfl rfl rfl ?_
          refine OG.aload X175 hx hby at_111 rfl rfl rfl ?_
          have f186 := (Fld.keep (Fld.ext E163 (Fld.keep (Fld.ext E152 Fb151) K162 (ninS ne157 nin0))) K175 (ninS ne169 nin0))
          have f187 := (Exa.keep (Exa.ext E163 f168) K175)
          refine OG.cV X175 hx hZ hby (by rw [hml]; rfl) hown (y := (⟨"com/example/tranchery/tranchery/rating/Rating", "meets", "(Lcom/example/tranchery/tranchery/rating/Rating;)Z"⟩ : MethodName)) (z := (⟨"com/example/tranchery/tranchery/rating/Rating", "meets", "(Lcom/example/tranchery/tranchery/rating/Rating;)Z"⟩ : MethodName)) (hw _ (List.mem_of_getElem? (i := 22) rfl)) (hw _ (List.mem_of_getElem? (i := 23) rfl)) (notFace_of_selects (args := #[]) (mvT hZ (hw _ (List.mem_of_getElem? (i := 25) rfl)))) (hw _ (List.mem_of_getElem? (i := 25) rfl)) (hw _ (List.mem_of_getElem? (i := 24) rfl)) (hw _ (List.mem_of_getElem? (i := 26) rfl)) (hw _ (List.mem_of_getElem? (i := 6) rfl)) (by decide) (own_rm_meets l Z a0 hw [] b144 b144 vA vA (1 : Int32) T175.heap n0 (Nat.le_trans (Nat.le_trans (Nat.le_trans (Nat.le_trans (Nat.le_trans (Nat.le_trans Z0 E144.1) K151.1) E152.1) K162.1) E163.1) K175.1) f186 f186 (by simp)) f187 rfl (argsL := [(.ref b144)]) (stk := [(.ref b144), (.ref b144)]) (st := []) own_pd_2 rfl rfl rfl (W := 0) rfl (by decide) (by decide) (by decide) (by decide) at_113 rfl ?_
          intro T185 L185 v185 X185 q185
          obtain ⟨rfl, N185, e185⟩ := q185
          have M185 := Fr.app M175 N185
          show OG.Go _ _ _ _ _ _ _ (T185.setTop (mkF m 116 #[.val (.int p1), .val (.int p2), .val (.int p3), .val (.int p4), .val (.int (1 : Int32)), .val (.ref w1), .val (.int (21 : Int32)), .val (.int vA), .val (.int vB), .val (.int vC), .val (.ref b144), .val (.ref b152), .val (.ref b163), .unset, .unset, .unset, .unset, .unset] [(.int (1 : Int32))]))
          refine OG.istore (Ls' := #[.val (.int p1), .val (.int p2), .val (.int p3), .val (.int p4), .val (.int (1 : Int32)), .val (.ref w1), .val (.int (21 : Int32)), .val (.int vA), .val (.int vB), .val (.int vC), .val (.ref b144), .val (.ref b152), .val (.ref b163), .val (.int (1 : Int32)), .unset, .unset, .unset, .unset]) X185 hx hby at_116 rfl rfl ?_
          refine OG.aload X185 hx hby at_118 rfl rfl rfl ?_
          refine OG.aload X185 hx hby at_120 rfl rfl rfl ?_
          have f189 := (Fld.keep (Fld.ext E163 Fb162) K175 (ninS ne170 nin0))
          refine OG.cV X185 hx hZ hby (by rw [hml]; rfl) hown (y := (⟨"com/example/tranchery/tranchery/rating/Rating", "meets", "(Lcom/example/tranchery/tranchery/rating/Rating;)Z"⟩ : MethodName)) (z := (⟨"com/example/tranchery/tranchery/rating/Rating", "meets", "(Lcom/example/tranchery/tranchery/rating/Rating;)Z"⟩ : MethodName)) (hw _ (List.mem_of_getElem? (i := 22) rfl)) (hw _ (List.mem_of_getElem? (i := 23) rfl)) (notFace_of_selects (args := #[]) (mvT hZ (hw _ (List.mem_of_getElem? (i := 25) rfl)))) (hw _ (List.mem_of_getElem? (i := 25) rfl)) (hw _ (List.mem_of_getElem? (i := 24) rfl)) (hw _ (List.mem_of_getElem? (i := 26) rfl)) (hw _ (List.mem_of_getElem? (i := 6) rfl)) (by decide) (own_rm_meets l Z a0 hw [] b144 b152 vA vB (0 : Int32) T175.heap n0 (Nat.le_trans (Nat.le_trans (Nat.le_trans (Nat.le_trans (Nat.le_trans (Nat.le_trans Z0 E144.1) K151.1) E152.1) K162.1) E163.1) K175.1) f186 f189 (by simp [k1])) f187 e185 (argsL := [(.ref b152)]) (stk := [(.ref b152), (.ref b144)]) (st := []) own_pd_2 rfl rfl rfl (W := 0) rfl (by decide) (by decide) (by decide) (by decide) at_122 rfl ?_
          intro T188 L188 v188 X188 q188
          obtain ⟨rfl, N188, e188⟩ := q188
          have M188 := Fr.app M185 N188
          show OG.Go _ _ _ _ _ _ _ (T188.setTop (mkF m 125 #[.val (.int p1), .val (.int p2), .val (.int p3), .val (.int p4), .val (.int (1 : Int32)), .val (.ref w1), .val (.int (21 : Int32)), .val (.int vA), .val (.int vB), .val (.int vC), .val (.ref b144), .val (.ref b152), .val (.ref b163), .val (.int (1 : Int32)), .unset, .unset, .unset, .unset] [(.int (0 : Int32))]))
          refine OG.istore (Ls' := #[.val (.int p1), .val (.int p2), .val (.int p3), .val (.int p4), .val (.int (1 : Int32)), .val (.ref w1), .val (.int (21 : Int32)), .val (.int vA), .val (.int vB), .val (.int vC), .val (.ref b144), .val (.ref b152), .val (.ref b163), .val (.int (1 : Int32)), .val (.int (0 : Int32)), .unset, .unset, .unset]) X188 hx hby at_125 rfl rfl ?_
          refine OG.aload X188 hx hby at_127 rfl rfl rfl ?_
          refine OG.aload X188 hx hby at_129 rfl rfl rfl ?_
          have f191 := (Exa.keep (Exa.ext E163 Ea162) K175)
          refine OG.cV X188 hx hZ hby (by rw [hml]; rfl) hown (y := (⟨"com/example/tranchery/tranchery/rating/Rating", "meets", "(Lcom/example/tranchery/tranchery/rating/Rating;)Z"⟩ : MethodName)) (z := (⟨"com/example/tranchery/tranchery/rating/Rating", "meets", "(Lcom/example/tranchery/tranchery/rating/Rating;)Z"⟩ : MethodName)) (hw _ (List.mem_of_getElem? (i := 22) rfl)) (hw _ (List.mem_of_getElem? (i := 23) rfl)) (notFace_of_selects (args := #[]) (mvT hZ (hw _ (List.mem_of_getElem? (i := 25) rfl)))) (hw _ (List.mem_of_getElem? (i := 25) rfl)) (hw _ (List.mem_of_getElem? (i := 24) rfl)) (hw _ (List.mem_of_getElem? (i := 26) rfl)) (hw _ (List.mem_of_getElem? (i := 6) rfl)) (by decide) (own_rm_meets l Z a0 hw [] b152 b144 vB vA (1 : Int32) T175.heap n0 (Nat.le_trans (Nat.le_trans (Nat.le_trans (Nat.le_trans (Nat.le_trans (Nat.le_trans Z0 E144.1) K151.1) E152.1) K162.1) E163.1) K175.1) f189 f186 (by simp [k2])) f191 e188 (argsL := [(.ref b144)]) (stk := [(.ref b144), (.ref b152)]) (st := []) own_pd_2 rfl rfl rfl (W := 0) rfl (by decide) (by decide) (by decide) (by decide) at_131 rfl ?_
          intro T190 L190 v190 X190 q190
          obtain ⟨rfl, N190, e190⟩ := q190
          have M190 := Fr.app M188 N190
          show OG.Go _ _ _ _ _ _ _ (T190.setTop (mkF m 134 #[.val (.int p1), .val (.int p2), .val (.int p3), .val (.int p4), .val (.int (1 : Int32)), .val (.ref w1), .val (.int (21 : Int32)), .val (.int vA), .val (.int vB), .val (.int vC), .val (.ref b144), .val (.ref b152), .val (.ref b163), .val (.int (1 : Int32)), .val (.int (0 : Int32)), .unset, .unset, .unset] [(.int (1 : Int32))]))
          refine OG.istore (Ls' := #[.val (.int p1), .val (.int p2), .val (.int p3), .val (.int p4), .val (.int (1 : Int32)), .val (.ref w1), .val (.int (21 : Int32)), .val (.int vA), .val (.int vB), .val (.int vC), .val (.ref b144), .val (.ref b152), .val (.ref b163), .val (.int (1 : Int32)), .val (.int (0 : Int32)), .val (.int (1 : Int32)), .unset, .unset]) X190 hx hby at_134 rfl rfl ?_
          refine OG.aload X190 hx hby at_136 rfl rfl rfl ?_
          refine OG.aload X190 hx hby at_138 rfl rfl rfl ?_
          refine OG.cV X190 hx hZ hby (by rw [hml]; rfl) hown (y := (⟨"com/example/tranchery/tranchery/rating/Rating", "meets", "(Lcom/example/tranchery/tranchery/rating/Rating;)Z"⟩ : MethodName)) (z := (⟨"com/example/tranchery/tranchery/rating/Rating", "meets", "(Lcom/example/tranchery/tranchery/rating/Rating;)Z"⟩ : MethodName)) (hw _ (List.mem_of_getElem? (i := 22) rfl)) (hw _ (List.mem_of_getElem? (i := 23) rfl)) (notFace_of_selects (args := #[]) (mvT hZ (hw _ (List.mem_of_getElem? (i := 25) rfl)))) (hw _ (List.mem_of_getElem? (i := 25) rfl)) (hw _ (List.mem_of_getElem? (i := 24) rfl)) (hw _ (List.mem_of_getElem? (i := 26) rfl)) (hw _ (List.mem_of_getElem? (i := 6) rfl)) (by decide) (own_rm_meets l Z a0 hw [] b152 b163 vB vC (0 : Int32) T175.heap n0 (Nat.le_trans (Nat.le_trans (Nat.le_trans (Nat.le_trans (Nat.le_trans (Nat.le_trans Z0 E144.1) K151.1) E152.1) K162.1) E163.1) K175.1) f189 Fb175 (by simp [k3])) f191 e190 (argsL := [(.ref b163)]) (stk := [(.ref b163), (.ref b152)]) (st := []) own_pd_2 rfl rfl rfl (W := 0) rfl (by decide) (by decide) (by decide) (by decide) at_140 rfl ?_
          intro T192 L192 v192 X192 q192
          obtain ⟨rfl, N192, e192⟩ := q192
          have M192 := Fr.app M190 N192
          show OG.Go _ _ _ _ _ _ _ (T192.setTop (mkF m 143 #[.val (.int p1), .val (.int p2), .val (.int p3), .val (.int p4), .val (.int (1 : Int32)), .val (.ref w1), .val (.int (21 : Int32)), .val (.int vA), .val (.int vB), .val (.int vC), .val (.ref b144), .val (.ref b152), .val (.ref b163), .val (.int (1 : Int32)), .val (.int (0 : Int32)), .val (.int (1 : Int32)), .unset, .unset] [(.int (0 : Int32))]))
          refine OG.istore (Ls' := #[.val (.int p1), .val (.int p2), .val (.int p3), .val (.int p4), .val (.int (1 : Int32)), .val (.ref w1), .val (.int (21 : Int32)), .val (.int vA), .val (.int vB), .val (.int vC), .val (.ref b144), .val (.ref b152), .val (.ref b163), .val (.int (1 : Int32)), .val (.int (0 : Int32)), .val (.int (1 : Int32)), .val (.int (0 : Int32)), .unset]) X192 hx hby at_143 rfl rfl ?_
          refine OG.aload X192 hx hby at_145 rfl rfl rfl ?_
          refine OG.aload X192 hx hby at_147 rfl rfl rfl ?_
          refine OG.cV X192 hx hZ hby (by rw [hml]; rfl) hown (y := (⟨"com/example/tranchery/tranchery/rating/Rating", "meets", "(Lcom/example/tranchery/tranchery/rating/Rating;)Z"⟩ : MethodName)) (z := (⟨"com/example/tranchery/tranchery/rating/Rating", "meets", "(Lcom/example/tranchery/tranchery/rating/Rating;)Z"⟩ : MethodName)) (hw _ (List.mem_of_getElem? (i := 22) rfl)) (hw _ (List.mem_of_getElem? (i := 23) rfl)) (notFace_of_selects (args := #[]) (mvT hZ (hw _ (List.mem_of_getElem? (i := 25) rfl)))) (hw _ (List.mem_of_getElem? (i := 25) rfl)) (hw _ (List.mem_of_getElem? (i := 24) rfl)) (hw _ (List.mem_of_getElem? (i := 26) rfl)) (hw _ (List.mem_of_getElem? (i := 6) rfl)) (by decide) (own_rm_meets l Z a0 hw [] b144 b163 vA vC (1 : Int32) T175.heap n0 (Nat.le_trans (Nat.le_trans (Nat.le_trans (Nat.le_trans (Nat.le_trans (Nat.le_trans Z0 E144.1) K151.1) E152.1) K162.1) E163.1) K175.1) f186 Fb175 (by simp [k4])) f187 e192 (argsL := [(.ref b163)]) (stk := [(.ref b163), (.ref b144)]) (st := []) own_pd_2 rfl rfl rfl (W := 0) rfl (by decide) (by decide) (by decide) (by decide) at_149 rfl ?_
          intro T193 L193 v193 X193 q193
          obtain ⟨rfl, N193, e193⟩ := q193
          have M193 := Fr.app M192 N193
          show OG.Go _ _ _ _ _ _ _ (T193.setTop (mkF m 152 #[.val (.int p1), .val (.int p2), .val (.int p3), .val (.int p4), .val (.int (1 : Int32)), .val (.ref w1), .val (.int (21 : Int32)), .val (.int vA), .val (.int vB), .val (.int vC), .val (.ref b144), .val (.ref b152), .val (.ref b163), .val (.int (1 : Int32)), .val (.int (0 : Int32)), .val (.int (1 : Int32)), .val (.int (0 : Int32)), .unset] [(.int (1 : Int32))]))
          refine OG.istore (Ls' := #[.val (.int p1), .val (.int p2), .val (.int p3), .val (.int p4), .val (.int (1 : Int32)), .val (.ref w1), .val (.int (21 : Int32)), .val (.int vA), .val (.int vB), .val (.int vC), .val (.ref b144), .val (.ref b152), .val (.ref b163), .val (.int (1 : Int32)), .val (.int (0 : Int32)), .val (.int (1 : Int32)), .val (.int (0 : Int32)), .val (.int (1 : Int32))]) X193 hx hby at_152 rfl rfl ?_
          refine OG.iload X193 hx hby at_154 rfl rfl ?_
          refine OG.ifYes (pc' := 161) X193 hx hby at_156 (feq (by decide)).2 (by decide) (by decide) ?_
          refine OG.iload X193 hx hby at_161 rfl rfl ?_
          refine OG.ifNo X193 hx hby at_163 (teq (by decide)).2 rfl ?_
          refine OG.iload X193 hx hby at_166 rfl rfl ?_
          refine OG.ifYes (pc' := 173) X193 hx hby at_168 (feq (by decide)).2 (by decide) (by decide) ?_
          refine OG.iload X193 hx hby at_173 rfl rfl ?_
          refine OG.ifYes (pc' := 187) X193 hx hby at_175 (teq (by decide)).1 (by decide) (by decide) ?_
          refine OG.iconst (v := (0 : Int32)) X193 hx hby at_187 (by decide) rfl ?_
          refine OG.iload X193 hx hby at_188 rfl rfl ?_
          refine OG.iload X193 hx hby at_190 rfl rfl ?_
          refine OG.icmpYes (pc' := 199) X193 hx hby at_192 (feq k0).2 (by decide) (by decide) ?_
          refine OG.iconst (v := (0 : Int32)) X193 hx hby at_199 (by decide) rfl ?_
          refine OG.icmpYes (pc' := 205) X193 hx hby at_200 (teq (by decide)).1 (by decide) (by decide) ?_
          refine OG.iload X193 hx hby at_205 rfl rfl ?_
          refine OG.iload X193 hx hby at_207 rfl rfl ?_
          refine OG.icmpYes (pc' := 224) X193 hx hby at_209 (flt k2).2.1 (by decide) (by decide) ?_
          refine OG.iload X193 hx hby at_224 rfl rfl ?_
          refine OG.iload X193 hx hby at_226 rfl rfl ?_
          refine OG.icmpNo X193 hx hby at_228 (tlt k1).2.1 rfl ?_
          refine OG.iload X193 hx hby at_231 rfl rfl ?_
          refine OG.ifNo X193 hx hby at_233 (feq (by decide)).1 rfl ?_
          refine OG.iload X193 hx hby at_236 rfl rfl ?_
          refine OG.ifYes (pc' := 243) X193 hx hby at_238 (teq (by decide)).1 (by decide) (by decide) ?_
          refine OG.iload X193 hx hby at_243 rfl rfl ?_
          refine OG.ifYes (pc' := 260) X193 hx hby at_245 (teq (by decide)).1 (by decide) (by decide) ?_
          refine OG.iconst (v := (1 : Int32)) X193 hx hby at_260 (by decide) rfl ?_
          refine OG.retZ X193 hx hby Bd.returns (by simp) at_261 Bd.notSynchronized (by decide) (by decide) ?_
          exact ⟨rfl, M193⟩
      · by_cases k4 : vC < vA
        · refine OG.aload X175 hx hby at_109 rfl rfl rfl ?_
          refine OG.aload X175 hx hby at_111 rfl rfl rfl ?_
          have f195 := (Fld.keep (Fld.ext E163 (Fld.keep (Fld.ext E152 Fb151) K162 (ninS ne157 nin0))) K175 (ninS ne169 nin0))
          have f196 := (Exa.keep (Exa.ext E163 f168) K175)
          refine OG.cV X175 hx hZ hby (by rw [hml]; rfl) hown (y := (⟨"com/example/tranchery/tranchery/rating/Rating", "meets", "(Lcom/example/tranchery/tranchery/rating/Rating;)Z"⟩ : MethodName)) (z := (⟨"com/example/tranchery/tranchery/rating/Rating", "meets", "(Lcom/example/tranchery/tranchery/rating/Rating;)Z"⟩ : MethodName)) (hw _ (List.mem_of_getElem? (i := 22) rfl)) (hw _ (List.mem_of_getElem? (i := 23) rfl)) (notFace_of_selects (args := #[]) (mvT hZ (hw _ (List.mem_of_getElem? (i := 25) rfl)))) (hw _ (List.mem_of_getElem? (i := 25) rfl)) (hw _ (List.mem_of_getElem? (i := 24) rfl)) (hw _ (List.mem_of_getElem? (i := 26) rfl)) (hw _ (List.mem_of_getElem? (i := 6) rfl)) (by decide) (own_rm_meets l Z a0 hw [] b144 b144 vA vA (1 : Int32) T175.heap n0 (Nat.le_trans (Nat.le_trans (Nat.le_trans (Nat.le_trans (Nat.le_trans (Nat.le_trans Z0 E144.1) K151.1) E152.1) K162.1) E163.1) K175.1) f195 f195 (by simp)) f196 rfl (argsL := [(.ref b144)]) (stk := [(.ref b144), (.ref b144)]) (st := []) own_pd_2 rfl rfl rfl (W := 0) rfl (by decide) (by decide) (by decide) (by decide) at_113 rfl ?_
          intro T194 L194 v194 X194 q194
          obtain ⟨rfl, N194, e194⟩ := q194
          have M194 := Fr.app M175 N194
          show OG.Go _ _ _ _ _ _ _ (T194.setTop (mkF m 116 #[.val (.int p1), .val (.int p2), .val (.int p3), .val (.int p4), .val (.int (1 : Int32)), .val (.ref w1), .val (.int (21 : Int32)), .val (.int vA), .val (.int vB), .val (.int vC), .val (.ref b144), .val (.ref b152), .val (.ref b163), .unset, .unset, .unset, .unset, .unset] [(.int (1 : Int32))]))
          refine OG.istore (Ls' := #[.val (.int p1), .val (.int p2), .val (.int p3), .val (.int p4), .val (.int (1 : Int32)), .val (.ref w1), .val (.int (21 : Int32)), .val (.int vA), .val (.int vB), .val (.int vC), .val (.ref b144), .val (.ref b152), .val (.ref b163), .val (.int (1 : Int32)), .unset, .unset, .unset, .unset]) X194 hx hby at_116 rfl rfl ?_
          refine OG.aload X194 hx hby at_118 rfl rfl rfl ?_
          refine OG.aload X194 hx hby at_120 rfl rfl rfl ?_
          have f198 := (Fld.keep (Fld.ext E163 Fb162) K175 (ninS ne170 nin0))
          refine OG.cV X194 hx hZ hby (by rw [hml]; rfl) hown (y := (⟨"com/example/tranchery/tranchery/rating/Rating", "meets", "(Lcom/example/tranchery/tranchery/rating/Rating;)Z"⟩ : MethodName)) (z := (⟨"com/example/tranchery/tranchery/rating/Rating", "meets", "(Lcom/example/tranchery/tranchery/rating/Rating;)Z"⟩ : MethodName)) (hw _ (List.mem_of_getElem? (i := 22) rfl)) (hw _ (List.mem_of_getElem? (i := 23) rfl)) (notFace_of_selects (args := #[]) (mvT hZ (hw _ (List.mem_of_getElem? (i := 25) rfl)))) (hw _ (List.mem_of_getElem? (i := 25) rfl)) (hw _ (List.mem_of_getElem? (i := 24) rfl)) (hw _ (List.mem_of_getElem? (i := 26) rfl)) (hw _ (List.mem_of_getElem? (i := 6) rfl)) (by decide) (own_rm_meets l Z a0 hw [] b144 b152 vA vB (0 : Int32) T175.heap n0 (Nat.le_trans (Nat.le_trans (Nat.le_trans (Nat.le_trans (Nat.le_trans (Nat.le_trans Z0 E144.1) K151.1) E152.1) K162.1) E163.1) K175.1) f195 f198 (by simp [k1])) f196 e194 (argsL := [(.ref b152)]) (stk := [(.ref b152), (.ref b144)]) (st := []) own_pd_2 rfl rfl rfl (W := 0) rfl (by decide) (by decide) (by decide) (by decide) at_122 rfl ?_
          intro T197 L197 v197 X197 q197
          obtain ⟨rfl, N197, e197⟩ := q197
          have M197 := Fr.app M194 N197
          show OG.Go _ _ _ _ _ _ _ (T197.setTop (mkF m 125 #[.val (.int p1), .val (.int p2), .val (.int p3), .val (.int p4), .val (.int (1 : Int32)), .val (.ref w1), .val (.int (21 : Int32)), .val (.int vA), .val (.int vB), .val (.int vC), .val (.ref b144), .val (.ref b152), .val (.ref b163), .val (.int (1 : Int32)), .unset, .unset, .unset, .unset] [(.int (0 : Int32))]))
          refine OG.istore (Ls' := #[.val (.int p1), .val (.int p2), .val (.int p3), .val (.int p4), .val (.int (1 : Int32)), .val (.ref w1), .val (.int (21 : Int32)), .val (.int vA), .val (.int vB), .val (.int vC), .val (.ref b144), .val (.ref b152), .val (.ref b163), .val (.int (1 : Int32)), .val (.int (0 : Int32)), .unset, .unset, .unset]) X197 hx hby at_125 rfl rfl ?_
          refine OG.aload X197 hx hby at_127 rfl rfl rfl ?_
          refine OG.aload X197 hx hby at_129 rfl rfl rfl ?_
          have f200 := (Exa.keep (Exa.ext E163 Ea162) K175)
          refine OG.cV X197 hx hZ hby (by rw [hml]; rfl) hown (y := (⟨"com/example/tranchery/tranchery/rating/Rating", "meets", "(Lcom/example/tranchery/tranchery/rating/Rating;)Z"⟩ : MethodName)) (z := (⟨"com/example/tranchery/tranchery/rating/Rating", "meets", "(Lcom/example/tranchery/tranchery/rating/Rating;)Z"⟩ : MethodName)) (hw _ (List.mem_of_getElem? (i := 22) rfl)) (hw _ (List.mem_of_getElem? (i := 23) rfl)) (notFace_of_selects (args := #[]) (mvT hZ (hw _ (List.mem_of_getElem? (i := 25) rfl)))) (hw _ (List.mem_of_getElem? (i := 25) rfl)) (hw _ (List.mem_of_getElem? (i := 24) rfl)) (hw _ (List.mem_of_getElem? (i := 26) rfl)) (hw _ (List.mem_of_getElem? (i := 6) rfl)) (by decide) (own_rm_meets l Z a0 hw [] b152 b144 vB vA (1 : Int32) T175.heap n0 (Nat.le_trans (Nat.le_trans (Nat.le_trans (Nat.le_trans (Nat.le_trans (Nat.le_trans Z0 E144.1) K151.1) E152.1) K162.1) E163.1) K175.1) f198 f195 (by simp [k2])) f200 e197 (argsL := [(.ref b144)]) (stk := [(.ref b144), (.ref b152)]) (st := []) own_pd_2 rfl rfl rfl (W := 0) rfl (by decide) (by decide) (by decide) (by decide) at_131 rfl ?_
          intro T199 L199 v199 X199 q199
          obtain ⟨rfl, N199, e199⟩ := q199
          have M199 := Fr.app M197 N199
          show OG.Go _ _ _ _ _ _ _ (T199.setTop (mkF m 134 #[.val (.int p1), .val (.int p2), .val (.int p3), .val (.int p4), .val (.int (1 : Int32)), .val (.ref w1), .val (.int (21 : Int32)), .val (.int vA), .val (.int vB), .val (.int vC), .val (.ref b144), .val (.ref b152), .val (.ref b163), .val (.int (1 : Int32)), .val (.int (0 : Int32)), .unset, .unset, .unset] [(.int (1 : Int32))]))
          refine OG.istore (Ls' := #[.val (.int p1), .val (.int p2), .val (.int p3), .val (.int p4), .val (.int (1 : Int32)), .val (.ref w1), .val (.int (21 : Int32)), .val (.int vA), .val (.int vB), .val (.int vC), .val (.ref b144), .val (.ref b152), .val (.ref b163), .val (.int (1 : Int32)), .val (.int (0 : Int32)), .val (.int (1 : Int32)), .unset, .unset]) X199 hx hby at_134 rfl rfl ?_
          refine OG.aload X199 hx hby at_136 rfl rfl rfl ?_
          refine OG.aload X199 hx hby at_138 rfl rfl rfl ?_
          refine OG.cV X199 hx hZ hby (by rw [hml]; rfl) hown (y := (⟨"com/example/tranchery/tranchery/rating/Rating", "meets", "(Lcom/example/tranchery/tranchery/rating/Rating;)Z"⟩ : MethodName)) (z := (⟨"com/example/tranchery/tranchery/rating/Rating", "meets", "(Lcom/example/tranchery/tranchery/rating/Rating;)Z"⟩ : MethodName)) (hw _ (List.mem_of_getElem? (i := 22) rfl)) (hw _ (List.mem_of_getElem? (i := 23) rfl)) (notFace_of_selects (args := #[]) (mvT hZ (hw _ (List.mem_of_getElem? (i := 25) rfl)))) (hw _ (List.mem_of_getElem? (i := 25) rfl)) (hw _ (List.mem_of_getElem? (i := 24) rfl)) (hw _ (List.mem_of_getElem? (i := 26) rfl)) (hw _ (List.mem_of_getElem? (i := 6) rfl)) (by decide) (own_rm_meets l Z a0 hw [] b152 b163 vB vC (1 : Int32) T175.heap n0 (Nat.le_trans (Nat.le_trans (Nat.le_trans (Nat.le_trans (Nat.le_trans (Nat.le_trans Z0 E144.1) K151.1) E152.1) K162.1) E163.1) K175.1) f198 Fb175 (by simp [k3])) f200 e199 (argsL := [(.ref b163)]) (stk := [(.ref b163), (.ref b152)]) (st := []) own_pd_2 rfl rfl rfl (W := 0) rfl (by decide) (by decide) (by decide) (by decide) at_140 rfl ?_
          intro T201 L201 v201 X201 q201
          obtain ⟨rfl, N201, e201⟩ := q201
          have M201 := Fr.app M199 N201
          show OG.Go _ _ _ _ _ _ _ (T201.setTop (mkF m 143 #[.val (.int p1), .val (.int p2), .val (.int p3), .val (.int p4), .val (.int (1 : Int32)), .val (.ref w1), .val (.int (21 : Int32)), .val (.int vA), .val (.int vB), .val (.int vC), .val (.ref b144), .val (.ref b152), .val (.ref b163), .val (.int (1 : Int32)), .val (.int (0 : Int32)), .val (.int (1 : Int32)), .unset, .unset] [(.int (1 : Int32))]))
          refine OG.istore (Ls' := #[.val (.int p1), .val (.int p2), .val (.int p3), .val (.int p4), .val (.int (1 : Int32)), .val (.ref w1), .val (.int (21 : Int32)), .val (.int vA), .val (.int vB), .val (.int vC), .val (.ref b144), .val (.ref b152), .val (.ref b163), .val (.int (1 : Int32)), .val (.int (0 : Int32)), .val (.int (1 : Int32)), .val (.int (1 : Int32)), .unset]) X201 hx hby at_143 rfl rfl ?_
          refine OG.aload X201 hx hby at_145 rfl rfl rfl ?_
          refine OG.aload X201 hx hby at_147 rfl rfl rfl ?_
          refine OG.cV X201 hx hZ hby (by rw [hml]; rfl) hown (y := (⟨"com/example/tranchery/tranchery/rating/Rating", "meets", "(Lcom/example/tranchery/tranchery/rating/Rating;)Z"⟩ : MethodName)) (z := (⟨"com/example/tranchery/tranchery/rating/Rating", "meets", "(Lcom/example/tranchery/tranchery/rating/Rating;)Z"⟩ : MethodName)) (hw _ (List.mem_of_getElem? (i := 22) rfl)) (hw _ (List.mem_of_getElem? (i := 23) rfl)) (notFace_of_selects (args := #[]) (mvT hZ (hw _ (List.mem_of_getElem? (i := 25) rfl)))) (hw _ (List.mem_of_getElem? (i := 25) rfl)) (hw _ (List.mem_of_getElem? (i := 24) rfl)) (hw _ (List.mem_of_getElem? (i := 26) rfl)) (hw _ (List.mem_of_getElem? (i := 6) rfl)) (by decide) (own_rm_meets l Z a0 hw [] b144 b163 vA vC (0 : Int32) T175.heap n0 (Nat.le_trans (Nat.le_trans (Nat.le_trans (Nat.le_trans (Nat.le_trans (Nat.le_trans Z0 E144.1) K151.1) E152.1) K162.1) E163.1) K175.1) f195 Fb175 (by simp [k4])) f196 e201 (argsL := [(.ref b163)]) (stk := [(.ref b163), (.ref b144)]) (st := []) own_pd_2 rfl rfl rfl (W := 0) rfl (by decide) (by decide) (by decide) (by decide) at_149 rfl ?_
          intro T202 L202 v202 X202 q202
          obtain ⟨rfl, N202, e202⟩ := q202
          have M202 := Fr.app M201 N202
          show OG.Go _ _ _ _ _ _ _ (T202.setTop (mkF m 152 #[.val (.int p1), .val (.int p2), .val (.int p3), .val (.int p4), .val (.int (1 : Int32)), .val (.ref w1), .val (.int (21 : Int32)), .val (.int vA), .val (.int vB), .val (.int vC), .val (.ref b144), .val (.ref b152), .val (.ref b163), .val (.int (1 : Int32)), .val (.int (0 : Int32)), .val (.int (1 : Int32)), .val (.int (1 : Int32)), .unset] [(.int (0 : Int32))]))
          refine OG.istore (Ls' := #[.val (.int p1), .val (.int p2), .val (.int p3), .val (.int p4), .val (.int (1 : Int32)), .val (.ref w1), .val (.int (21 : Int32)), .val (.int vA), .val (.int vB), .val (.int vC), .val (.ref b144), .val (.ref b152), .val (.ref b163), .val (.int (1 : Int32)), .val (.int (0 : Int32)), .val (.int (1 : Int32)), .val (.int (1 : Int32)), .val (.int (0 : Int32))]) X202 hx hby at_152 rfl rfl ?_
          refine OG.iload X202 hx hby at_154 rfl rfl ?_
          refine OG.ifYes (pc' := 161) X202 hx hby at_156 (feq (by decide)).2 (by decide) (by decide) ?_
          refine OG.iload X202 hx hby at_161 rfl rfl ?_
          refine OG.ifNo X202 hx hby at_163 (teq (by decide)).2 rfl ?_
          refine OG.iload X202 hx hby at_166 rfl rfl ?_
          refine OG.ifYes (pc' := 173) X202 hx hby at_168 (feq (by decide)).2 (by decide) (by decide) ?_
          refine OG.iload X202 hx hby at_173 rfl rfl ?_
          refine OG.ifYes (pc' := 187) X202 hx hby at_175 (teq (by decide)).1 (by decide) (by decide) ?_
          refine OG.iconst (v := (0 : Int32)) X202 hx hby at_187 (by decide) rfl ?_
          refine OG.iload X202 hx hby at_188 rfl rfl ?_
          refine OG.iload X202 hx hby at_190 rfl rfl ?_
          refine OG.icmpYes (pc' := 199) X202 hx hby at_192 (feq k0).2 (by decide) (by decide) ?_
          refine OG.iconst (v := (0 : Int32)) X202 hx hby at_199 (by decide) rfl ?_
          refine OG.icmpYes (pc' := 205) X202 hx hby at_200 (teq (by decide)).1 (by decide) (by decide) ?_
          refine OG.iload X202 hx hby at_205 rfl rfl ?_
          refine OG.iload X202 hx hby at_207 rfl rfl ?_
          refine OG.icmpYes (pc' := 224) X202 hx hby at_209 (flt k2).2.1 (by decide) (by decide) ?_
          refine OG.iload X202 hx hby at_224 rfl rfl ?_
          refine OG.iload X202 hx hby at_226 rfl rfl ?_
          refine OG.icmpNo X202 hx hby at_228 (tlt k1).2.1 rfl ?_
          refine OG.iload X202 hx hby at_231 rfl rfl ?_
          refine OG.ifNo X202 hx hby at_233 (feq (by decide)).1 rfl ?_
          refine OG.iload X202 hx hby at_236 rfl rfl ?_
          refine OG.ifYes (pc' := 243) X202 hx hby at_238 (teq (by decide)).1 (by decide) (by decide) ?_
          refine OG.iload X202 hx hby at_243 rfl rfl ?_
          refine OG.ifYes (pc' := 260) X202 hx hby at_245 (teq (by decide)).1 (by decide) (by decide) ?_
          refine OG.iconst (v := (1 : Int32)) X202 hx hby at_260 (by decide) rfl ?_
          refine OG.retZ X202 hx hby Bd.returns (by simp) at_261 Bd.notSynchronized (by decide) (by decide) ?_
          exact ⟨rfl, M202⟩
        · refine OG.aload X175 hx hby at_109 rfl rfl rfl ?_
          refine OG.aload X175 hx hby at_111 rfl rfl rfl ?_
          have f204 := (Fld.keep (Fld.ext E163 (Fld.keep (Fld.ext E152 Fb151) K162 (ninS ne157 nin0))) K175 (ninS ne169 nin0))
          have f205 := (Exa.keep (Exa.ext E163 f168) K175)
          refine OG.cV X175 hx hZ hby (by rw [hml]; rfl) hown (y := (⟨"com/example/tranchery/tranchery/rating/Rating", "meets", "(Lcom/example/tranchery/tranchery/rating/Rating;)Z"⟩ : MethodName)) (z := (⟨"com/example/tranchery/tranchery/rating/Rating", "meets", "(Lcom/example/tranchery/tranchery/rating/Rating;)Z"⟩ : MethodName)) (hw _ (List.mem_of_getElem? (i := 22) rfl)) (hw _ (List.mem_of_getElem? (i := 23) rfl)) (notFace_of_selects (args := #[]) (mvT hZ (hw _ (List.mem_of_getElem? (i := 25) rfl)))) (hw _ (List.mem_of_getElem? (i := 25) rfl)) (hw _ (List.mem_of_getElem? (i := 24) rfl)) (hw _ (List.mem_of_getElem? (i := 26) rfl)) (hw _ (List.mem_of_getElem? (i := 6) rfl)) (by decide) (own_rm_meets l Z a0 hw [] b144 b144 vA vA (1 : Int32) T175.heap n0 (Nat.le_trans (Nat.le_trans (Nat.le_trans (Nat.le_trans (Nat.le_trans (Nat.le_trans Z0 E144.1) K151.1) E152.1) K162.1) E163.1) K175.1) f204 f204 (by simp)) f205 rfl (argsL := [(.ref b144)]) (stk := [(.ref b144), (.ref b144)]) (st := []) own_pd_2 rfl rfl rfl (W := 0) rfl (by decide) (by decide) (by decide) (by decide) at_113 rfl ?_
          intro T203 L203 v203 X203 q203
          obtain ⟨rfl, N203, e203⟩ := q203
          have M203 := Fr.app M175 N203
          show OG.Go _ _ _ _ _ _ _ (T203.setTop (mkF m 116 #[.val (.int p1), .val (.int p2), .val (.int p3), .val (.int p4), .val (.int (1 : Int32)), .val (.ref w1), .val (.int (21 : Int32)), .val (.int vA), .val (.int vB), .val (.int vC), .val (.ref b144), .val (.ref b152), .val (.ref b163), .unset, .unset, .unset, .unset, .unset] [(.int (1 : Int32))]))
          refine OG.istore (Ls' := #[.val (.int p1), .val (.int p2), .val (.int p3), .val (.int p4), .val (.int (1 : Int32)), .val (.ref w1), .val (.int (21 : Int32)), .val (.int vA), .val (.int vB), .val (.int vC), .val (.ref b144), .val (.ref b152), .val (.ref b163), .val (.int (1 : Int32)), .unset, .unset, .unset, .unset]) X203 hx hby at_116 rfl rfl ?_
          refine OG.aload X203 hx hby at_118 rfl rfl rfl ?_
          refine OG.aload X203 hx hby at_120 rfl rfl rfl ?_
          have f207 := (Fld.keep (Fld.ext E163 Fb162) K175 (ninS ne170 nin0))
          refine OG.cV X203 hx hZ hby (by rw [hml]; rfl) hown (y := (⟨"com/example/tranchery/tranchery/rating/Rating", "meets", "(Lcom/example/tranchery/tranchery/rating/Rating;)Z"⟩ : MethodName)) (z := (⟨"com/example/tranchery/tranchery/rating/Rating", "meets", "(Lcom/example/tranchery/tranchery/rating/Rating;)Z"⟩ : MethodName)) (hw _ (List.mem_of_getElem? (i := 22) rfl)) (hw _ (List.mem_of_getElem? (i := 23) rfl)) (notFace_of_selects (args := #[]) (mvT hZ (hw _ (List.mem_of_getElem? (i := 25) rfl)))) (hw _ (List.mem_of_getElem? (i := 25) rfl)) (hw _ (List.mem_of_getElem? (i := 24) rfl)) (hw _ (List.mem_of_getElem? (i := 26) rfl)) (hw _ (List.mem_of_getElem? (i := 6) rfl)) (by decide) (own_rm_meets l Z a0 hw [] b144 b152 vA vB (0 : Int32) T175.heap n0 (Nat.le_trans (Nat.le_trans (Nat.le_trans (Nat.le_trans (Nat.le_trans (Nat.le_trans Z0 E144.1) K151.1) E152.1) K162.1) E163.1) K175.1) f204 f207 (by simp [k1])) f205 e203 (argsL := [(.ref b152)]) (stk := [(.ref b152), (.ref b144)]) (st := []) own_pd_2 rfl rfl rfl (W := 0) rfl (by decide) (by decide) (by decide) (by decide) at_122 rfl ?_
          intro T206 L206 v206 X206 q206
          obtain ⟨rfl, N206, e206⟩ := q206
          have M206 := Fr.app M203 N206
          show OG.Go _ _ _ _ _ _ _ (T206.setTop (mkF m 125 #[.val (.int p1), .val (.int p2), .val (.int p3), .val (.int p4), .val (.int (1 : Int32)), .val (.ref w1), .val (.int (21 : Int32)), .val (.int vA), .val (.int vB), .val (.int vC), .val (.ref b144), .val (.ref b152), .val (.ref b163), .val (.int (1 : Int32)), .unset, .unset, .unset, .unset] [(.int (0 : Int32))]))
          refine OG.istore (Ls' := #[.val (.int p1), .val (.int p2), .val (.int p3), .val (.int p4), .val (.int (1 : Int32)), .val (.ref w1), .val (.int (21 : Int32)), .val (.int vA), .val (.int vB), .val (.int vC), .val (.ref b144), .val (.ref b152), .val (.ref b163), .val (.int (1 : Int32)), .val (.int (0 : Int32)), .unset, .unset, .unset]) X206 hx hby at_125 rfl rfl ?_
          refine OG.aload X206 hx hby at_127 rfl rfl rfl ?_
          refine OG.aload X206 hx hby at_129 rfl rfl rfl ?_
          have f209 := (Exa.keep (Exa.ext E163 Ea162) K175)
          refine OG.cV X206 hx hZ hby (by rw [hml]; rfl) hown (y := (⟨"com/example/tranchery/tranchery/rating/Rating", "meets", "(Lcom/example/tranchery/tranchery/rating/Rating;)Z"⟩ : MethodName)) (z := (⟨"com/example/tranchery/tranchery/rating/Rating", "meets", "(Lcom/example/tranchery/tranchery/rating/Rating;)Z"⟩ : MethodName)) (hw _ (List.mem_of_getElem? (i := 22) rfl)) (hw _ (List.mem_of_getElem? (i := 23) rfl)) (notFace_of_selects (args := #[]) (mvT hZ (hw _ (List.mem_of_getElem? (i := 25) rfl)))) (hw _ (List.mem_of_getElem? (i := 25) rfl)) (hw _ (List.mem_of_getElem? (i := 24) rfl)) (hw _ (List.mem_of_getElem? (i := 26) rfl)) (hw _ (List.mem_of_getElem? (i := 6) rfl)) (by decide) (own_rm_meets l Z a0 hw [] b152 b144 vB vA (1 : Int32) T175.heap n0 (Nat.le_trans (Nat.le_trans (Nat.le_trans (Nat.le_trans (Nat.le_trans (Nat.le_trans Z0 E144.1) K151.1) E152.1) K162.1) E163.1) K175.1) f207 f204 (by simp [k2])) f209 e206 (argsL := [(.ref b144)]) (stk := [(.ref b144), (.ref b152)]) (st := []) own_pd_2 rfl rfl rfl (W := 0) rfl (by decide) (by decide) (by decide) (by decide) at_131 rfl ?_
          intro T208 L208 v208 X208 q208
          obtain ⟨rfl, N208, e208⟩ := q208
          have M208 := Fr.app M206 N208
          show OG.Go _ _ _ _ _ _ _ (T208.setTop (mkF m 134 #[.val (.int p1), .val (.int p2), .val (.int p3), .val (.int p4), .val (.int (1 : Int32)), .val (.ref w1), .val (.int (21 : Int32)), .val (.int vA), .val (.int vB), .val (.int vC), .val (.ref b144), .val (.ref b152), .val (.ref b163), .val (.int (1 : Int32)), .val (.int (0 : Int32)), .unset, .unset, .unset] [(.int (1 : Int32))]))
          refine OG.istore (Ls' := #[.val (.int p1), .val (.int p2), .val (.int p3), .val (.int p4), .val (.int (1 : Int32)), .val (.ref w1), .val (.int (21 : Int32)), .val (.int vA), .val (.int vB), .val (.int vC), .val (.ref b144), .val (.ref b152), .val (.ref b163), .val (.int (1 : Int32)), .val (.int (0 : Int32)), .val (.int (1 : Int32)), .unset, .unset]) X208 hx hby at_134 rfl rfl ?_
          refine OG.aload X208 hx hby at_136 rfl rfl rfl ?_
          refine OG.aload X208 hx hby at_138 rfl rfl rfl ?_
          refine OG.cV X208 hx hZ hby (by rw [hml]; rfl) hown (y := (⟨"com/example/tranchery/tranchery/rating/Rating", "meets", "(Lcom/example/tranchery/tranchery/rating/Rating;)Z"⟩ : MethodName)) (z := (⟨"com/example/tranchery/tranchery/rating/Rating", "meets", "(Lcom/example/tranchery/tranchery/rating/Rating;)Z"⟩ : MethodName)) (hw _ (List.mem_of_getElem? (i := 22) rfl)) (hw _ (List.mem_of_getElem? (i := 23) rfl)) (notFace_of_selects (args := #[]) (mvT hZ (hw _ (List.mem_of_getElem? (i := 25) rfl)))) (hw _ (List.mem_of_getElem? (i := 25) rfl)) (hw _ (List.mem_of_getElem? (i := 24) rfl)) (hw _ (List.mem_of_getElem? (i := 26) rfl)) (hw _ (List.mem_of_getElem? (i := 6) rfl)) (by decide) (own_rm_meets l Z a0 hw [] b152 b163 vB vC (1 : Int32) T175.heap n0 (Nat.le_trans (Nat.le_trans (Nat.le_trans (Nat.le_trans (Nat.le_trans (Nat.le_trans Z0 E144.1) K151.1) E152.1) K162.1) E163.1) K175.1) f207 Fb175 (by simp [k3])) f209 e208 (argsL := [(.ref b163)]) (stk := [(.ref b163), (.ref b152)]) (st := []) own_pd_2 rfl rfl rfl (W := 0) rfl (by decide) (by decide) (by decide) (by decide) at_140 rfl ?_
          intro T210 L210 v210 X210 q210
          obtain ⟨rfl, N210, e210⟩ := q210
          have M210 := Fr.app M208 N210
          show OG.Go _ _ _ _ _ _ _ (T210.setTop (mkF m 143 #[.val (.int p1), .val (.int p2), .val (.int p3), .val (.int p4), .val (.int (1 : Int32)), .val (.ref w1), .val (.int (21 : Int32)), .val (.int vA), .val (.int vB), .val (.int vC), .val (.ref b144), .val (.ref b152), .val (.ref b163), .val (.int (1 : Int32)), .val (.int (0 : Int32)), .val (.int (1 : Int32)), .unset, .unset] [(.int (1 : Int32))]))
          refine OG.istore (Ls' := #[.val (.int p1), .val (.int p2), .val (.int p3), .val (.int p4), .val (.int (1 : Int32)), .val (.ref w1), .val (.int (21 : Int32)), .val (.int vA), .val (.int vB), .val (.int vC), .val (.ref b144), .val (.ref b152), .val (.ref b163), .val (.int (1 : Int32)), .val (.int (0 : Int32)), .val (.int (1 : Int32)), .val (.int (1 : Int32)), .unset]) X210 hx hby at_143 rfl rfl ?_
          refine OG.aload X210 hx hby at_145 rfl rfl rfl ?_
          refine OG.aload X210 hx hby at_147 rfl rfl rfl ?_
          refine OG.cV X210 hx hZ hby (by rw [hml]; rfl) hown (y := (⟨"com/example/tranchery/tranchery/rating/Rating", "meets", "(Lcom/example/tranchery/tranchery/rating/Rating;)Z"⟩ : MethodName)) (z := (⟨"com/example/tranchery/tranchery/rating/Rating", "meets", "(Lcom/example/tranchery/tranchery/rating/Rating;)Z"⟩ : MethodName)) (hw _ (List.mem_of_getElem? (i := 22) rfl)) (hw _ (List.mem_of_getElem? (i := 23) rfl)) (notFace_of_selects (args := #[]) (mvT hZ (hw _ (List.mem_of_getElem? (i := 25) rfl)))) (hw _ (List.mem_of_getElem? (i := 25) rfl)) (hw _ (List.mem_of_getElem? (i := 24) rfl)) (hw _ (List.mem_of_getElem? (i := 26) rfl)) (hw _ (List.mem_of_getElem? (i := 6) rfl)) (by decide) (own_rm_meets l Z a0 hw [] b144 b163 vA vC (1 : Int32) T175.heap n0 (Nat.le_trans (Nat.le_trans (Nat.le_trans (Nat.le_trans (Nat.le_trans (Nat.le_trans Z0 E144.1) K151.1) E152.1) K162.1) E163.1) K175.1) f204 Fb175 (by simp [k4])) f205 e210 (argsL := [(.ref b163)]) (stk := [(.ref b163), (.ref b144)]) (st := []) own_pd_2 rfl rfl rfl (W := 0) rfl (by decide) (by decide) (by decide) (by decide) at_149 rfl ?_
          intro T211 L211 v211 X211 q211
          obtain ⟨rfl, N211, e211⟩ := q211
          have M211 := Fr.app M210 N211
          show OG.Go _ _ _ _ _ _ _ (T211.setTop (mkF m 152 #[.val (.int p1), .val (.int p2), .val (.int p3), .val (.int p4), .val (.int (1 : Int32)), .val (.ref w1), .val (.int (21 : Int32)), .val (.int vA), .val (.int vB), .val (.int vC), .val (.ref b144), .val (.ref b152), .val (.ref b163), .val (.int (1 : Int32)), .val (.int (0 : Int32)), .val (.int (1 : Int32)), .val (.int (1 : Int32)), .unset] [(.int (1 : Int32))]))
          refine OG.istore (Ls' := #[.val (.int p1), .val (.int p2), .val (.int p3), .val (.int p4), .val (.int (1 : Int32)), .val (.ref w1), .val (.int (21 : Int32)), .val (.int vA), .val (.int vB), .val (.int vC), .val (.ref b144), .val (.ref b152), .val (.ref b163), .val (.int (1 : Int32)), .val (.int (0 : Int32)), .val (.int (1 : Int32)), .val (.int (1 : Int32)), .val (.int (1 : Int32))]) X211 hx hby at_152 rfl rfl ?_
          refine OG.iload X211 hx hby at_154 rfl rfl ?_
          refine OG.ifYes (pc' := 161) X211 hx hby at_156 (feq (by decide)).2 (by decide) (by decide) ?_
          refine OG.iload X211 hx hby at_161 rfl rfl ?_
          refine OG.ifNo X211 hx hby at_163 (teq (by decide)).2 rfl ?_
          refine OG.iload X211 hx hby at_166 rfl rfl ?_
          refine OG.ifYes (pc' := 173) X211 hx hby at_168 (feq (by decide)).2 (by decide) (by decide) ?_
          refine OG.iload X211 hx hby at_173 rfl rfl ?_
          refine OG.ifYes (pc' := 187) X211 hx hby at_175 (teq (by decide)).1 (by decide) (by decide) ?_
          refine OG.iconst (v := (0 : Int32)) X211 hx hby at_187 (by decide) rfl ?_
          refine OG.iload X211 hx hby at_188 rfl rfl ?_
          refine OG.iload X211 hx hby at_190 rfl rfl ?_
          refine OG.icmpYes (pc' := 199) X211 hx hby at_192 (feq k0).2 (by decide) (by decide) ?_
          refine OG.iconst (v := (0 : Int32)) X211 hx hby at_199 (by decide) rfl ?_
          refine OG.icmpYes (pc' := 205) X211 hx hby at_200 (teq (by decide)).1 (by decide) (by decide) ?_
          refine OG.iload X211 hx hby at_205 rfl rfl ?_
          refine OG.iload X211 hx hby at_207 rfl rfl ?_
          refine OG.icmpYes (pc' := 224) X211 hx hby at_209 (flt k2).2.1 (by decide) (by decide) ?_
          refine OG.iload X211 hx hby at_224 rfl rfl ?_
          refine OG.iload X211 hx hby at_226 rfl rfl ?_
          refine OG.icmpNo X211 hx hby at_228 (tlt k1).2.1 rfl ?_
          refine OG.iload X211 hx hby at_231 rfl rfl ?_
          refine OG.ifNo X211 hx hby at_233 (feq (by decide)).1 rfl ?_
          refine OG.iload X211 hx hby at_236 rfl rfl ?_
          refine OG.ifYes (pc' := 243) X211 hx hby at_238 (teq (by decide)).1 (by decide) (by decide) ?_
          refine OG.iload X211 hx hby at_243 rfl rfl ?_
          refine OG.ifYes (pc' := 260) X211 hx hby at_245 (teq (by decide)).1 (by decide) (by decide) ?_
          refine OG.iconst (v := (1 : Int32)) X211 hx hby at_260 (by decide) rfl ?_
          refine OG.retZ X211 hx hby Bd.returns (by simp) at_261 Bd.notSynchronized (by decide) (by decide) ?_
          exact ⟨rfl, M211⟩
    · by_cases k2 : vA < vB
      · have k0 : ¬ vA = vB := fun q => by subst q; exact Int32.lt_irrefl k2
        by_cases k3 : vC < vB
        · by_cases k4 : vC < vA
          · refine OG.aload X175 hx hby at_109 rfl rfl rfl ?_
            refine OG.aload X175 hx hby at_111 rfl rfl rfl ?_
            have f213 := (Fld.keep (Fld.ext E163 (Fld.keep (Fld.ext E152 Fb151) K162 (ninS ne157 nin0))) K175 (ninS ne169 nin0))
            have f214 := (Exa.keep (Exa.ext E163 f168) K175)
            refine OG.cV X175 hx hZ hby (by rw [hml]; rfl) hown (y := (⟨"com/example/tranchery/tranchery/rating/Rating", "meets", "(Lcom/example/tranchery/tranchery/rating/Rating;)Z"⟩ : MethodName)) (z := (⟨"com/example/tranchery/tranchery/rating/Rating", "meets", "(Lcom/example/tranchery/tranchery/rating/Rating;)Z"⟩ : MethodName)) (hw _ (List.mem_of_getElem? (i := 22) rfl)) (hw _ (List.mem_of_getElem? (i := 23) rfl)) (notFace_of_selects (args := #[]) (mvT hZ (hw _ (List.mem_of_getElem? (i := 25) rfl)))) (hw _ (List.mem_of_getElem? (i := 25) rfl)) (hw _ (List.mem_of_getElem? (i := 24) rfl)) (hw _ (List.mem_of_getElem? (i := 26) rfl)) (hw _ (List.mem_of_getElem? (i := 6) rfl)) (by decide) (own_rm_meets l Z a0 hw [] b144 b144 vA vA (1 : Int32) T175.heap n0 (Nat.le_trans (Nat.le_trans (Nat.le_trans (Nat.le_trans (Nat.le_trans (Nat.le_trans Z0 E144.1) K151.1) E152.1) K162.1) E163.1) K175.1) f213 f213 (by simp)) f214 rfl (argsL := [(.ref b144)]) (stk := [(.ref b144), (.ref b144)]) (st := []) own_pd_2 rfl rfl rfl (W := 0) rfl (by decide) (by decide) (by decide) (by decide) at_113 rfl ?_
            intro T212 L212 v212 X212 q212
            obtain ⟨rfl, N212, e212⟩ := q212
            have M212 := Fr.app M175 N212
            show OG.Go _ _ _ _ _ _ _ (T212.setTop (mkF m 116 #[.val (.int p1), .val (.int p2), .val (.int p3), .val (.int p4), .val (.int (1 : Int32)), .val (.ref w1), .val (.int (21 : Int32)), .val (.int vA), .val (.int vB), .val (.int vC), .val (.ref b144), .val (.ref b152), .val (.ref b163), .unset, .unset, .unset, .unset, .unset] [(.int (1 : Int32))]))
            refine OG.istore (Ls' := #[.val (.int p1), .val (.int p2), .val (.int p3), .val (.int p4), .val (.int (1 : Int32)), .val (.ref w1), .val (.int (21 : Int32)), .val (.int vA), .val (.int vB), .val (.int vC), .val (.ref b144), .val (.ref b152), .val (.ref b163), .val (.int (1 : Int32)), .unset, .unset, .unset, .unset]) X212 hx hby at_116 rfl rfl ?_
            refine OG.aload X212 hx hby at_118 rfl rfl rfl ?_
            refine OG.aload X212 hx hby at_120 rfl rfl rfl ?_
            have f216 := (Fld.keep (Fld.ext E163 Fb162) K175 (ninS ne170 nin0))
            refine OG.cV X212 hx hZ hby (by rw [hml]; rfl) hown (y := (⟨"com/example/tranchery/tranchery/rating/Rating", "meets", "(Lcom/example/tranchery/tranchery/rating/Rating;)Z"⟩ : MethodName)) (z := (⟨"com/example/tranchery/tranchery/rating/Rating", "meets", "(Lcom/example/tranchery/tranchery/rating/Rating;)Z"⟩ : MethodName)) (hw _ (List.mem_of_getElem? (i := 22) rfl)) (hw _ (List.mem_of_getElem? (i := 23) rfl)) (notFace_of_selects (args := #[]) (mvT hZ (hw _ (List.mem_of_getElem? (i := 25) rfl)))) (hw _ (List.mem_of_getElem? (i := 25) rfl)) (hw _ (List.mem_of_getElem? (i := 24) rfl)) (hw _ (List.mem_of_getElem? (i := 26) rfl)) (hw _ (List.mem_of_getElem? (i := 6) rfl)) (by decide) (own_rm_meets l Z a0 hw [] b144 b152 vA vB (1 : Int32) T175.heap n0 (Nat.le_trans (Nat.le_trans (Nat.le_trans (Nat.le_trans (Nat.le_trans (Nat.le_trans Z0 E144.1) K151.1) E152.1) K162.1) E163.1) K175.1) f213 f216 (by simp [k1])) f214 e212 (argsL := [(.ref b152)]) (stk := [(.ref b152), (.ref b144)]) (st := []) own_pd_2 rfl rfl rfl (W := 0) rfl (by decide) (by decide) (by decide) (by decide) at_122 rfl ?_
            intro T215 L215 v215 X215 q215
            obtain ⟨rfl, N215, e215⟩ := q215
            have M215 := Fr.app M212 N215
            show OG.Go _ _ _ _ _ _ _ (T215.setTop (mkF m 125 #[.val (.int p1), .val (.int p2), .val (.int p3), .val (.int p4), .val (.int (1 : Int32)), .val (.ref w1), .val (.int (21 : Int32)), .val (.int vA), .val (.int vB), .val (.int vC), .val (.ref b144), .val (.ref b152), .val (.ref b163), .val (.int (1 : Int32)), .unset, .unset, .unset, .unset] [(.int (1 : Int32))]))
            refine OG.istore (Ls' := #[.val (.int p1), .val (.int p2), .val (.int p3), .val (.int p4), .val (.int (1 : Int32)), .val (.ref w1), .val (.int (21 : Int32)), .val (.int vA), .val (.int vB), .val (.int vC), .val (.ref b144), .val (.ref b152), .val (.ref b163), .val (.int (1 : Int32)), .val (.int (1 : Int32)), .unset, .unset, .unset]) X215 hx hby at_125 rfl rfl ?_
            refine OG.aload X215 hx hby at_127 rfl rfl rfl ?_
            refine OG.aload X215 hx hby at_129 rfl rfl rfl ?_
            have f218 := (Exa.keep (Exa.ext E163 Ea162) K175)
            refine OG.cV X215 hx hZ hby (by rw [hml]; rfl) hown (y := (⟨"com/example/tranchery/tranchery/rating/Rating", "meets", "(Lcom/example/tranchery/tranchery/rating/Rating;)Z"⟩ : MethodName)) (z := (⟨"com/example/tranchery/tranchery/rating/Rating", "meets", "(Lcom/example/tranchery/tranchery/rating/Rating;)Z"⟩ : MethodName)) (hw _ (List.mem_of_getElem? (i := 22) rfl)) (hw _ (List.mem_of_getElem? (i := 23) rfl)) (notFace_of_selects (args := #[]) (mvT hZ (hw _ (List.mem_of_getElem? (i := 25) rfl)))) (hw _ (List.mem_of_getElem? (i := 25) rfl)) (hw _ (List.mem_of_getElem? (i := 24) rfl)) (hw _ (List.mem_of_getElem? (i := 26) rfl)) (hw _ (List.mem_of_getElem? (i := 6) rfl)) (by decide) (own_rm_meets l Z a0 hw [] b152 b144 vB vA (0 : Int32) T175.heap n0 (Nat.le_trans (Nat.le_trans (Nat.le_trans (Nat.le_trans (Nat.le_trans (Nat.le_trans Z0 E144.1) K151.1) E152.1) K162.1) E163.1) K175.1) f216 f213 (by simp [k2])) f218 e215 (argsL := [(.ref b144)]) (stk := [(.ref b144), (.ref b152)]) (st := []) own_pd_2 rfl rfl rfl (W := 0) rfl (by decide) (by decide) (by decide) (by decide) at_131 rfl ?_
            intro T217 L217 v217 X217 q217
            obtain ⟨rfl, N217, e217⟩ := q217
            have M217 := Fr.app M215 N217
            show OG.Go _ _ _ _ _ _ _ (T217.setTop (mkF m 134 #[.val (.int p1), .val (.int p2), .val (.int p3), .val (.int p4), .val (.int (1 : Int32)), .val (.ref w1), .val (.int (21 : Int32)), .val (.int vA), .val (.int vB), .val (.int vC), .val (.ref b144), .val (.ref b152), .val (.ref b163), .val (.int (1 : Int32)), .val (.int (1 : Int32)), .unset, .unset, .unset] [(.int (0 : Int32))]))
            refine OG.istore (Ls' := #[.val (.int p1), .val (.int p2), .val (.int p3), .val (.int p4), .val (.int (1 : Int32)), .val (.ref w1), .val (.int (21 : Int32)), .val (.int vA), .val (.int vB), .val (.int vC), .val (.ref b144), .val (.ref b152), .val (.ref b163), .val (.int (1 : Int32)), .val (.int (1 : Int32)), .val (.int (0 : Int32)), .unset, .unset]) X217 hx hby at_134 rfl rfl ?_
            refine OG.aload X217 hx hby at_136 rfl rfl rfl ?_
            refine OG.aload X217 hx hby at_138 rfl rfl rfl ?_
            refine OG.cV X217 hx hZ hby (by rw [hml]; rfl) hown (y := (⟨"com/example/tranchery/tranchery/rating/Rating", "meets", "(Lcom/example/tranchery/tranchery/rating/Rating;)Z"⟩ : MethodName)) (z := (⟨"com/example/tranchery/tranchery/rating/Rating", "meets", "(Lcom/example/tranchery/tranchery/rating/Rating;)Z"⟩ : MethodName)) (hw _ (List.mem_of_getElem? (i := 22) rfl)) (hw _ (List.mem_of_getElem? (i := 23) rfl)) (notFace_of_selects (args := #[]) (mvT hZ (hw _ (List.mem_of_getElem? (i := 25) rfl)))) (hw _ (List.mem_of_getElem? (i := 25) rfl)) (hw _ (List.mem_of_getElem? (i := 24) rfl)) (hw _ (List.mem_of_getElem? (i := 26) rfl)) (hw _ (List.mem_of_getElem? (i := 6) rfl)) (by decide) (own_rm_meets l Z a0 hw [] b152 b163 vB vC (0 : Int32) T175.heap n0 (Nat.le_trans (Nat.le_trans (Nat.le_trans (Nat.le_trans (Nat.le_trans (Nat.le_trans Z0 E144.1) K151.1) E152.1) K162.1) E163.1) K175.1) f216 Fb175 (by simp [k3])) f218 e217 (argsL := [(.ref b163)]) (stk := [(.ref b163), (.ref b152)]) (st := []) own_pd_2 rfl rfl rfl (W := 0) rfl (by decide) (by decide) (by decide) (by decide) at_140 rfl ?_
            intro T219 L219 v219 X219 q219
            obtain ⟨rfl, N219, e219⟩ := q219
            have M219 := Fr.app M217 N219
            show OG.Go _ _ _ _ _ _ _ (T219.setTop (mkF m 143 #[.val (.int p1), .val (.int p2), .val (.int p3), .val (.int p4), .val (.int (1 : Int32)), .val (.ref w1), .val (.int (21 : Int32)), .val (.int vA), .val (.int vB), .val (.int vC), .val (.ref b144), .val (.ref b152), .val (.ref b163), .val (.int (1 : Int32)), .val (.int (1 : Int32)), .val (.int (0 : Int32)), .unset, .unset] [(.int (0 : Int32))]))
            refine OG.istore (Ls' := #[.val (.int p1), .val (.int p2), .val (.int p3), .val (.int p4), .val (.int (1 : Int32)), .val (.ref w1), .val (.int (21 : Int32)), .val (.int vA), .val (.int vB), .val (.int vC), .val (.ref b144), .val (.ref b152), .val (.ref b163), .val (.int (1 : Int32)), .val (.int (1 : Int32)), .val (.int (0 : Int32)), .val (.int (0 : Int32)), .unset]) X219 hx hby at_143 rfl rfl ?_
            refine OG.aload X219 hx hby at_145 rfl rfl rfl ?_
            refine OG.aload X219 hx hby at_147 rfl rfl rfl ?_
            refine OG.cV X219 hx hZ hby (by rw [hml]; rfl) hown (y := (⟨"com/example/tranchery/tranchery/rating/Rating", "meets", "(Lcom/example/tranchery/tranchery/rating/Rating;)Z"⟩ : MethodName)) (z := (⟨"com/example/tranchery/tranchery/rating/Rating", "meets", "(Lcom/example/tranchery/tranchery/rating/Rating;)Z"⟩ : MethodName)) (hw _ (List.mem_of_getElem? (i := 22) rfl)) (hw _ (List.mem_of_getElem? (i := 23) rfl)) (notFace_of_selects (args := #[]) (mvT hZ (hw _ (List.mem_of_getElem? (i := 25) rfl)))) (hw _ (List.mem_of_getElem? (i := 25) rfl)) (hw _ (List.mem_of_getElem? (i := 24) rfl)) (hw _ (List.mem_of_getElem? (i := 26) rfl)) (hw _ (List.mem_of_getElem? (i := 6) rfl)) (by decide) (own_rm_meets l Z a0 hw [] b144 b163 vA vC (0 : Int32) T175.heap n0 (Nat.le_trans (Nat.le_trans (Nat.le_trans (Nat.le_trans (Nat.le_trans (Nat.le_trans Z0 E144.1) K151.1) E152.1) K162.1) E163.1) K175.1) f213 Fb175 (by simp [k4])) f214 e219 (argsL := [(.ref b163)]) (stk := [(.ref b163), (.ref b144)]) (st := []) own_pd_2 rfl rfl rfl (W := 0) rfl (by decide) (by decide) (by decide) (by decide) at_149 rfl ?_
            intro T220 L220 v220 X220 q220
            obtain ⟨rfl, N220, e220⟩ := q220
            have M220 := Fr.app M219 N220
            show OG.Go _ _ _ _ _ _ _ (T220.setTop (mkF m 152 #[.val (.int p1), .val (.int p2), .val (.int p3), .val (.int p4), .val (.int (1 : Int32)), .val (.ref w1), .val (.int (21 : Int32)), .val (.int vA), .val (.int vB), .val (.int vC), .val (.ref b144), .val (.ref b152), .val (.ref b163), .val (.int (1 : Int32)), .val (.int (1 : Int32)), .val (.int (0 : Int32)), .val (.int (0 : Int32)), .unset] [(.int (0 : Int32))]))
            refine OG.istore (Ls' := #[.val (.int p1), .val (.int p2), .val (.int p3), .val (.int p4), .val (.int (1 : Int32)), .val (.ref w1), .val (.int (21 : Int32)), .val (.int vA), .val (.int vB), .val (.int vC), .val (.ref b144), .val (.ref b152), .val (.ref b163), .val (.int (1 : Int32)), .val (.int (1 : Int32)), .val (.int (0 : Int32)), .val (.int (0 : Int32)), .val (.int (0 : Int32))]) X220 hx hby at_152 rfl rfl ?_
            refine OG.iload X220 hx hby at_154 rfl rfl ?_
            refine OG.ifYes (pc' := 161) X220 hx hby at_156 (feq (by decide)).2 (by decide) (by decide) ?_
            refine OG.iload X220 hx hby at_161 rfl rfl ?_
            refine OG.ifYes (pc' := 173) X220 hx hby at_163 (feq (by decide)).2 (by decide) (by decide) ?_
            refine OG.iload X220 hx hby at_173 rfl rfl ?_
            refine OG.ifNo X220 hx hby at_175 (feq (by decide)).1 rfl ?_
            refine OG.iload X220 hx hby at_178 rfl rfl ?_
            refine OG.ifYes (pc' := 187) X220 hx hby at_180 (teq (by decide)).1 (by decide) (by decide) ?_
            refine OG.iconst (v := (0 : Int32)) X220 hx hby at_187 (by decide) rfl ?_
            refine OG.iload X220 hx hby at_188 rfl rfl ?_
            refine OG.iload X220 hx hby at_190 rfl rfl ?_
            refine OG.icmpYes (pc' := 199) X220 hx hby at_192 (feq k0).2 (by decide) (by decide) ?_
            refine OG.iconst (v := (0 : Int32)) X220 hx hby at_199 (by decide) rfl ?_
            refine OG.icmpYes (pc' := 205) X220 hx hby at_200 (teq (by decide)).1 (by decide) (by decide) ?_
            refine OG.iload X220 hx hby at_205 rfl rfl ?_
            refine OG.iload X220 hx hby at_207 rfl rfl ?_
            refine OG.icmpNo X220 hx hby at_209 (tlt k2).2.1 rfl ?_
            refine OG.iload X220 hx hby at_212 rfl rfl ?_
            refine OG.ifNo X220 hx hby at_214 (feq (by decide)).1 rfl ?_
            refine OG.iload X220 hx hby at_217 rfl rfl ?_
            refine OG.ifYes (pc' := 224) X220 hx hby at_219 (teq (by decide)).1 (by decide) (by decide) ?_
            refine OG.iload X220 hx hby at_224 rfl rfl ?_
            refine OG.iload X220 hx hby at_226 rfl rfl ?_
            refine OG.icmpYes (pc' := 243) X220 hx hby at_228 (flt k1).2.1 (by decide) (by decide) ?_
            refine OG.iload X220 hx hby at_243 rfl rfl ?_
            refine OG.ifNo X220 hx hby at_245 (feq (by decide)).1 rfl ?_
            refine OG.iload X220 hx hby at_248 rfl rfl ?_
            refine OG.ifYes (pc' := 260) X220 hx hby at_250 (teq (by decide)).1 (by decide) (by decide) ?_
            refine OG.iconst (v := (1 : Int32)) X220 hx hby at_260 (by decide) rfl ?_
            refine OG.retZ X220 hx hby Bd.returns (by simp) at_261 Bd.notSynchronized (by decide) (by decide) ?_
            exact ⟨rfl, M220⟩
          · refine OG.aload X175 hx hby at_109 rfl rfl rfl ?_
            refine OG.aload X175 hx hby at_111 rfl rfl rfl ?_
            have f222 := (Fld.keep (Fld.ext E163 (Fld.keep (Fld.ext E152 Fb151) K162 (ninS ne157 nin0))) K175 (ninS ne169 nin0))
            have f223 := (Exa.keep (Exa.ext E163 f168) K175)
            refine OG.cV X175 hx hZ hby (by rw [hml]; rfl) hown (y := (⟨"com/example/tranchery/tranchery/rating/Rating", "meets", "(Lcom/example/tranchery/tranchery/rating/Rating;)Z"⟩ : MethodName)) (z := (⟨"com/example/tranchery/tranchery/rating/Rating", "meets", "(Lcom/example/tranchery/tranchery/rating/Rating;)Z"⟩ : MethodName)) (hw _ (List.mem_of_getElem? (i := 22) rfl)) (hw _ (List.mem_of_getElem? (i := 23) rfl)) (notFace_of_selects (args := #[]) (mvT hZ (hw _ (List.mem_of_getElem? (i := 25) rfl)))) (hw _ (List.mem_of_getElem? (i := 25) rfl)) (hw _ (List.mem_of_getElem? (i := 24) rfl)) (hw _ (List.mem_of_getElem? (i := 26) rfl)) (hw _ (List.mem_of_getElem? (i := 6) rfl)) (by decide) (own_rm_meets l Z a0 hw [] b144 b144 vA vA (1 : Int32) T175.heap n0 (Nat.le_trans (Nat.le_trans (Nat.le_trans (Nat.le_trans (Nat.le_trans (Nat.le_trans Z0 E144.1) K151.1) E152.1) K162.1) E163.1) K175.1) f222 f222 (by simp)) f223 rfl (argsL := [(.ref b144)]) (stk := [(.ref b144), (.ref b144)]) (st := []) own_pd_2 rfl rfl rfl (W := 0) rfl (by decide) (by decide) (by decide) (by decide) at_113 rfl ?_
            intro T221 L221 v221 X221 q221
            obtain ⟨rfl, N221, e221⟩ := q221
            have M221 := Fr.app M175 N221
            show OG.Go _ _ _ _ _ _ _ (T221.setTop (mkF m 116 #[.val (.int p1), .val (.int p2), .val (.int p3), .val (.int p4), .val (.int (1 : Int32)), .val (.ref w1), .val (.int (21 : Int32)), .val (.int vA), .val (.int vB), .val (.int vC), .val (.ref b144), .val (.ref b152), .val (.ref b163), .unset, .unset, .unset, .unset, .unset] [(.int (1 : Int32))]))
            refine OG.istore (Ls' := #[.val (.int p1), .val (.int p2), .val (.int p3), .val (.int p4), .val (.int (1 : Int32)), .val (.ref w1), .val (.int (21 : Int32)), .val (.int vA), .val (.int vB), .val (.int vC), .val (.ref b144), .val (.ref b152), .val (.ref b163), .val (.int (1 : Int32)), .unset, .unset, .unset, .unset]) X221 hx hby at_116 rfl rfl ?_
            refine OG.aload X221 hx hby at_118 rfl rfl rfl ?_
            refine OG.aload X221 hx hby at_120 rfl rfl rfl ?_
            have f225 := (Fld.keep (Fld.ext E163 Fb162) K175 (ninS ne170 nin0))
            refine OG.cV X221 hx hZ hby (by rw [hml]; rfl) hown (y := (⟨"com/example/tranchery/tranchery/rating/Rating", "meets", "(Lcom/example/tranchery/tranchery/rating/Rating;)Z"⟩ : MethodName)) (z := (⟨"com/example/tranchery/tranchery/rating/Rating", "meets", "(Lcom/example/tranchery/tranchery/rating/Rating;)Z"⟩ : MethodName)) (hw _ (List.mem_of_getElem? (i := 22) rfl)) (hw _ (List.mem_of_getElem? (i := 23) rfl)) (notFace_of_selects (args := #[]) (mvT hZ (hw _ (List.mem_of_getElem? (i := 25) rfl)))) (hw _ (List.mem_of_getElem? (i := 25) rfl)) (hw _ (List.mem_of_getElem? (i := 24) rfl)) (hw _ (List.mem_of_getElem? (i := 26) rfl)) (hw _ (List.mem_of_getElem? (i := 6) rfl)) (by decide) (own_rm_meets l Z a0 hw [] b144 b152 vA vB (1 : Int32) T175.heap n0 (Nat.le_trans (Nat.le_trans (Nat.le_trans (Nat.le_trans (Nat.le_trans (Nat.le_trans Z0 E144.1) K151.1) E152.1) K162.1) E163.1) K175.1) f222 f225 (by simp [k1])) f223 e221 (argsL := [(.ref b152)]) (stk := [(.ref b152), (.ref b144)]) (st := []) own_pd_2 rfl rfl rfl (W := 0) rfl (by decide) (by decide) (by decide) (by decide) at_122 rfl ?_
            intro T224 L224 v224 X224 q224
            obtain ⟨rfl, N224, e224⟩ := q224
            have M224 := Fr.app M221 N224
            show OG.Go _ _ _ _ _ _ _ (T224.setTop (mkF m 125 #[.val (.int p1), .val (.int p2), .val (.int p3), .val (.int p4), .val (.int (1 : Int32)), .val (.ref w1), .val (.int (21 : Int32)), .val (.int vA), .val (.int vB), .val (.int vC), .val (.ref b144), .val (.ref b152), .val (.ref b163), .val (.int (1 : Int32)), .unset, .unset, .unset, .unset] [(.int (1 : Int32))]))
            refine OG.istore (Ls' := #[.val (.int p1), .val (.int p2), .val (.int p3), .val (.int p4), .val (.int (1 : Int32)), .val (.ref w1), .val (.int (21 : Int32)), .val (.int vA), .val (.int vB), .val (.int vC), .val (.ref b144), .val (.ref b152), .val (.ref b163), .val (.int (1 : Int32)), .val (.int (1 : Int32)), .unset, .unset, .unset]) X224 hx hby at_125 rfl rfl ?_
            refine OG.aload X224 hx hby at_127 rfl rfl rfl ?_
            refine OG.aload X224 hx hby at_129 rfl rfl rfl ?_
            have f227 := (Exa.keep (Exa.ext E163 Ea162) K175)
            refine OG.cV X224 hx hZ hby (by rw [hml]; rfl) hown (y := (⟨"com/example/tranchery/tranchery/rating/Rating", "meets", "(Lcom/example/tranchery/tranchery/rating/Rating;)Z"⟩ : MethodName)) (z := (⟨"com/example/tranchery/tranchery/rating/Rating", "meets", "(Lcom/example/tranchery/tranchery/rating/Rating;)Z"⟩ : MethodName)) (hw _ (List.mem_of_getElem? (i := 22) rfl)) (hw _ (List.mem_of_getElem? (i := 23) rfl)) (notFace_of_selects (args := #[]) (mvT hZ (hw _ (List.mem_of_getElem? (i := 25) rfl)))) (hw _ (List.mem_of_getElem? (i := 25) rfl)) (hw _ (List.mem_of_getElem? (i := 24) rfl)) (hw _ (List.mem_of_getElem? (i := 26) rfl)) (hw _ (List.mem_of_getElem? (i := 6) rfl)) (by decide) (own_rm_meets l Z a0 hw [] b152 b144 vB vA (0 : Int32) T175.heap n0 (Nat.le_trans (Nat.le_trans (Nat.le_trans (Nat.le_trans (Nat.le_trans (Nat.le_trans Z0 E144.1) K151.1) E152.1) K162.1) E163.1) K175.1) f225 f222 (by simp [k2])) f227 e224 (argsL := [(.ref b144)]) (stk := [(.ref b144), (.ref b152)]) (st := []) own_pd_2 rfl rfl rfl (W := 0) rfl (by decide) (by decide) (by decide) (by decide) at_131 rfl ?_
            intro T226 L226 v226 X226 q226
            obtain ⟨rfl, N226, e226⟩ := q226
            have M226 := Fr.app M224 N226
            show OG.Go _ _ _ _ _ _ _ (T226.setTop (mkF m 134 #[.val (.int p1), .val (.int p2), .val (.int p3), .val (.int p4), .val (.int (1 : Int32)), .val (.ref w1), .val (.int (21 : Int32)), .val (.int vA), .val (.int vB), .val (.int vC), .val (.ref b144), .val (.ref b152), .val (.ref b163), .val (.int (1 : Int32)), .val (.int (1 : Int32)), .unset, .unset, .unset] [(.int (0 : Int32))]))
            refine OG.istore (Ls' := #[.val (.int p1), .val (.int p2), .val (.int p3), .val (.int p4), .val (.int (1 : Int32)), .val (.ref w1), .val (.int (21 : Int32)), .val (.int vA), .val (.int vB), .val (.int vC), .val (.ref b144), .val (.ref b152), .val (.ref b163), .val (.int (1 : Int32)), .val (.int (1 : Int32)), .val (.int (0 : Int32)), .unset, .unset]) X226 hx hby at_134 rfl rfl ?_
            refine OG.aload X226 hx hby at_136 rfl rfl rfl ?_
            refine OG.aload X226 hx hby at_138 rfl rfl rfl ?_
            refine OG.cV X226 hx hZ hby (by rw [hml]; rfl) hown (y := (⟨"com/example/tranchery/tranchery/rating/Rating", "meets", "(Lcom/example/tranchery/tranchery/rating/Rating;)Z"⟩ : MethodName)) (z := (⟨"com/example/tranchery/tranchery/rating/Rating", "meets", "(Lcom/example/tranchery/tranchery/rating/Rating;)Z"⟩ : MethodName)) (hw _ (List.mem_of_getElem? (i := 22) rfl)) (hw _ (List.mem_of_getElem? (i := 23) rfl)) (notFace_of_selects (args := #[]) (mvT hZ (hw _ (List.mem_of_getElem? (i := 25) rfl)))) (hw _ (List.mem_of_getElem? (i := 25) rfl)) (hw _ (List.mem_of_getElem? (i := 24) rfl)) (hw _ (List.mem_of_getElem? (i := 26) rfl)) (hw _ (List.mem_of_getElem? (i := 6) rfl)) (by decide) (own_rm_meets l Z a0 hw [] b152 b163 vB vC (0 : Int32) T175.heap n0 (Nat.le_trans (Nat.le_trans (Nat.le_trans (Nat.le_trans (Nat.le_trans (Nat.le_trans Z0 E144.1) K151.1) E152.1) K162.1) E163.1) K175.1) f225 Fb175 (by simp [k3])) f227 e226 (argsL := [(.ref b163)]) (stk := [(.ref b163), (.ref b152)]) (st := []) own_pd_2 rfl rfl rfl (W := 0) rfl (by decide) (by decide) (by decide) (by decide) at_140 rfl ?_
            intro T228 L228 v228 X228 q228
            obtain ⟨rfl, N228, e228⟩ := q228
            have M228 := Fr.app M226 N228
            show OG.Go _ _ _ _ _ _ _ (T228.setTop (mkF m 143 #[.val (.int p1), .val (.int p2), .val (.int p3), .val (.int p4), .val (.int (1 : Int32)), .val (.ref w1), .val (.int (21 : Int32)), .val (.int vA), .val (.int vB), .val (.int vC), .val (.ref b144), .val (.ref b152), .val (.ref b163), .val (.int (1 : Int32)), .val (.int (1 : Int32)), .val (.int (0 : Int32)), .unset, .unset] [(.int (0 : Int32))]))
            refine OG.istore (Ls' := #[.val (.int p1), .val (.int p2), .val (.int p3), .val (.int p4), .val (.int (1 : Int32)), .val (.ref w1), .val (.int (21 : Int32)), .val (.int vA), .val (.int vB), .val (.int vC), .val (.ref b144), .val (.ref b152), .val (.ref b163), .val (.int (1 : Int32)), .val (.int (1 : Int32)), .val (.int (0 : Int32)), .val (.int (0 : Int32)), .unset]) X228 hx hby at_143 rfl rfl ?_
            refine OG.aload X228 hx hby at_145 rfl rfl rfl ?_
            refine OG.aload X228 hx hby at_147 rfl rfl rfl ?_
            refine OG.cV X228 hx hZ hby (by rw [hml]; rfl) hown (y := (⟨"com/example/tranchery/tranchery/rating/Rating", "meets", "(Lcom/example/tranchery/tranchery/rating/Rating;)Z"⟩ : MethodName)) (z := (⟨"com/example/tranchery/tranchery/rating/Rating", "meets", "(Lcom/example/tranchery/tranchery/rating/Rating;)Z"⟩ : MethodName)) (hw _ (List.mem_of_getElem? (i := 22) rfl)) (hw _ (List.mem_of_getElem? (i := 23) rfl)) (notFace_of_selects (args := #[]) (mvT hZ (hw _ (List.mem_of_getElem? (i := 25) rfl)))) (hw _ (List.mem_of_getElem? (i := 25) rfl)) (hw _ (List.mem_of_getElem? (i := 24) rfl)) (hw _ (List.mem_of_getElem? (i := 26) rfl)) (hw _ (List.mem_of_getElem? (i := 6) rfl)) (by decide) (own_rm_meets l Z a0 hw [] b144 b163 vA vC (1 : Int32) T175.heap n0 (Nat.le_trans (Nat.le_trans (Nat.le_trans (Nat.le_trans (Nat.le_trans (Nat.le_trans Z0 E144.1) K151.1) E152.1) K162.1) E163.1) K175.1) f222 Fb175 (by simp [k4])) f223 e228 (argsL := [(.ref b163)]) (stk := [(.ref b163), (.ref b144)]) (st := []) own_pd_2 rfl rfl rfl (W := 0) rfl (by decide) (by decide) (by decide) (by decide) at_149 rfl ?_
            intro T229 L229 v229 X229 q229
            obtain ⟨rfl, N229, e229⟩ := q229
            have M229 := Fr.app M228 N229
            show OG.Go _ _ _ _ _ _ _ (T229.setTop (mkF m 152 #[.val (.int p1), .val (.int p2), .val (.int p3), .val (.int p4), .val (.int (1 : Int32)), .val (.ref w1), .val (.int (21 : Int32)), .val (.int vA), .val (.int vB), .val (.int vC), .val (.ref b144), .val (.ref b152), .val (.ref b163), .val (.int (1 : Int32)), .val (.int (1 : Int32)), .val (.int (0 : Int32)), .val (.int (0 : Int32)), .unset] [(.int (1 : Int32))]))
            refine OG.istore (Ls' := #[.val (.int p1), .val (.int p2), .val (.int p3), .val (.int p4), .val (.int (1 : Int32)), .val (.ref w1), .val (.int (21 : Int32)), .val (.int vA), .val (.int vB), .val (.int vC), .val (.ref b144), .val (.ref b152), .val (.ref b163), .val (.int (1 : Int32)), .val (.int (1 : Int32)), .val (.int (0 : Int32)), .val (.int (0 : Int32)), .val (.int (1 : Int32))]) X229 hx hby at_152 rfl rfl ?_
            refine OG.iload X229 hx hby at_154 rfl rfl ?_
            refine OG.ifYes (pc' := 161) X229 hx hby at_156 (feq (by decide)).2 (by decide) (by decide) ?_
            refine OG.iload X229 hx hby at_161 rfl rfl ?_
            refine OG.ifYes (pc' := 173) X229 hx hby at_163 (feq (by decide)).2 (by decide) (by decide) ?_
            refine OG.iload X229 hx hby at_173 rfl rfl ?_
            refine OG.ifNo X229 hx hby at_175 (feq (by decide)).1 rfl ?_
            refine OG.iload X229 hx hby at_178 rfl rfl ?_
            refine OG.ifYes (pc' := 187) X229 hx hby at_180 (teq (by decide)).1 (by decide) (by decide) ?_
            refine OG.iconst (v := (0 : Int32)) X229 hx hby at_187 (by decide) rfl ?_
            refine OG.iload X229 hx hby at_188 rfl rfl ?_
            refine OG.iload X229 hx hby at_190 rfl rfl ?_
            refine OG.icmpYes (pc' := 199) X229 hx hby at_192 (feq k0).2 (by decide) (by decide) ?_
            refine OG.iconst (v := (0 : Int32)) X229 hx hby at_199 (by decide) rfl ?_
            refine OG.icmpYes (pc' := 205) X229 hx hby at_200 (teq (by decide)).1 (by decide) (by decide) ?_
            refine OG.iload X229 hx hby at_205 rfl rfl ?_
            refine OG.iload X229 hx hby at_207 rfl rfl ?_
            refine OG.icmpNo X229 hx hby at_209 (tlt k2).2.1 rfl ?_
            refine OG.iload X229 hx hby at_212 rfl rfl ?_
            refine OG.ifNo X229 hx hby at_214 (feq (by decide)).1 rfl ?_
            refine OG.iload X229 hx hby at_217 rfl rfl ?_
            refine OG.ifYes (pc' := 224) X229 hx hby at_219 (teq (by decide)).1 (by decide) (by decide) ?_
            refine OG.iload X229 hx hby at_224 rfl rfl ?_
            refine OG.iload X229 hx hby at_226 rfl rfl ?_
            refine OG.icmpYes (pc' := 243) X229 hx hby at_228 (flt k1).2.1 (by decide) (by decide) ?_
            refine OG.iload X229 hx hby at_243 rfl rfl ?_
            refine OG.ifNo X229 hx hby at_245 (feq (by decide)).1 rfl ?_
            refine OG.iload X229 hx hby at_248 rfl rfl ?_
            refine OG.ifYes (pc' := 260) X229 hx hby at_250 (teq (by decide)).1 (by decide) (by decide) ?_
            refine OG.iconst (v := (1 : Int32)) X229 hx hby at_260 (by decide) rfl ?_
            refine OG.retZ X229 hx hby Bd.returns (by simp) at_261 Bd.notSynchronized (by decide) (by decide) ?_
            exact ⟨rfl, M229⟩
        · by_cases k4 : vC < vA
          · refine OG.aload X175 hx hby at_109 rfl rfl rfl ?_
            refine OG.aload X175 hx hby at_111 rfl rfl rfl ?_
            have f231 := (Fld.keep (Fld.ext E163 (Fld.keep (Fld.ext E152 Fb151) K162 (ninS ne157 nin0))) K175 (ninS ne169 nin0))
            have f232 := (Exa.keep (Exa.ext E163 f168) K175)
            refine OG.cV X175 hx hZ hby (by rw [hml]; rfl) hown (y := (⟨"com/example/tranchery/tranchery/rating/Rating", "meets", "(Lcom/example/tranchery/tranchery/rating/Rating;)Z"⟩ : MethodName)) (z := (⟨"com/example/tranchery/tranchery/rating/Rating", "meets", "(Lcom/example/tranchery/tranchery/rating/Rating;)Z"⟩ : MethodName)) (hw _ (List.mem_of_getElem? (i := 22) rfl)) (hw _ (List.mem_of_getElem? (i := 23) rfl)) (notFace_of_selects (args := #[]) (mvT hZ (hw _ (List.mem_of_getElem? (i := 25) rfl)))) (hw _ (List.mem_of_getElem? (i := 25) rfl)) (hw _ (List.mem_of_getElem? (i := 24) rfl)) (hw _ (List.mem_of_getElem? (i := 26) rfl)) (hw _ (List.mem_of_getElem? (i := 6) rfl)) (by decide) (own_rm_meets l Z a0 hw [] b144 b144 vA vA (1 : Int32) T175.heap n0 (Nat.le_trans (Nat.le_trans (Nat.le_trans (Nat.le_trans (Nat.le_trans (Nat.le_trans Z0 E144.1) K151.1) E152.1) K162.1) E163.1) K175.1) f231 f231 (by simp)) f232 rfl (argsL := [(.ref b144)]) (stk := [(.ref b144), (.ref b144)]) (st := []) own_pd_2 rfl rfl rfl (W := 0) rfl (by decide) (by decide) (by decide) (by decide) at_113 rfl ?_
            intro T230 L230 v230 X230 q230
            obtain ⟨rfl, N230, e230⟩ := q230
            have M230 := Fr.app M175 N230
            show OG.Go _ _ _ _ _ _ _ (T230.setTop (mkF m 116 #[.val (.int p1), .val (.int p2), .val (.int p3), .val (.int p4), .val (.int (1 : Int32)), .val (.ref w1), .val (.int (21 : Int32)), .val (.int vA), .val (.int vB), .val (.int vC), .val (.ref b144), .val (.ref b152), .val (.ref b163), .unset, .unset, .unset, .unset, .unset] [(.int (1 : Int32))]))
            refine OG.istore (Ls' := #[.val (.int p1), .val (.int p2), .val (.int p3), .val (.int p4), .val (.int (1 : Int32)), .val (.ref w1), .val (.int (21 : Int32)), .val (.int vA), .val (.int vB), .val (.int vC), .val (.ref b144), .val (.ref b152), .val (.ref b163), .val (.int (1 : Int32)), .unset, .unset, .unset, .unset]) X230 hx hby at_116 rfl rfl ?_
            refine OG.aload X230 hx hby at_118 rfl rfl rfl ?_
            refine OG.aload X230 hx hby at_120 rfl rfl rfl ?_
            have f234 := (Fld.keep (Fld.ext E163 Fb162) K175 (ninS ne170 nin0))
            refine OG.cV X230 hx hZ hby (by rw [hml]; rfl) hown (y := (⟨"com/example/tranchery/tranchery/rating/Rating", "meets", "(Lcom/example/tranchery/tranchery/rating/Rating;)Z"⟩ : MethodName)) (z := (⟨"com/example/tranchery/tranchery/rating/Rating", "meets", "(Lcom/example/tranchery/tranchery/rating/Rating;)Z"⟩ : MethodName)) (hw _ (List.mem_of_getElem? (i := 22) rfl)) (hw _ (List.mem_of_getElem? (i := 23) rfl)) (notFace_of_selects (args := #[]) (mvT hZ (hw _ (List.mem_of_getElem? (i := 25) rfl)))) (hw _ (List.mem_of_getElem? (i := 25) rfl)) (hw _ (List.mem_of_getElem? (i := 24) rfl)) (hw _ (List.mem_of_getElem? (i := 26) rfl)) (hw _ (List.mem_of_getElem? (i := 6) rfl)) (by decide) (own_rm_meets l Z a0 hw [] b144 b152 vA vB (1 : Int32) T175.heap n0 (Nat.le_trans (Nat.le_trans (Nat.le_trans (Nat.le_trans (Nat.le_trans (Nat.le_trans Z0 E144.1) K151.1) E152.1) K162.1) E163.1) K175.1) f231 f234 (by simp [k1])) f232 e230 (argsL := [(.ref b152)]) (stk := [(.ref b152), (.ref b144)]) (st := []) own_pd_2 rfl rfl rfl (W := 0) rfl (by decide) (by decide) (by decide) (by decide) at_122 rfl ?_
            intro T233 L233 v233 X233 q233
            obtain ⟨rfl, N233, e233⟩ := q233
            have M233 := Fr.app M230 N233
            show OG.Go _ _ _ _ _ _ _ (T233.setTop (mkF m 125 #[.val (.int p1), .val (.int p2), .val (.int p3), .val (.int p4), .val (.int (1 : Int32)), .val (.ref w1), .val (.int (21 : Int32)), .val (.int vA), .val (.int vB), .val (.int vC), .val (.ref b144), .val (.ref b152), .val (.ref b163), .val (.int (1 : Int32)), .unset, .unset, .unset, .unset] [(.int (1 : Int32))]))
            refine OG.istore (Ls' := #[.val (.int p1), .val (.int p2), .val (.int p3), .val (.int p4), .val (.int (1 : Int32)), .val (.ref w1), .val (.int (21 : Int32)), .val (.int vA), .val (.int vB), .val (.int vC), .val (.ref b144), .val (.ref b152), .val (.ref b163), .val (.int (1 : Int32)), .val (.int (1 : Int32)), .unset, .unset, .unset]) X233 hx hby at_125 rfl rfl ?_
            refine OG.aload X233 hx hby at_127 rfl rfl rfl ?_
            refine OG.aload X233 hx hby at_129 rfl rfl rfl ?_
            have f236 := (Exa.keep (Exa.ext E163 Ea162) K175)
            refine OG.cV X233 hx hZ hby (by rw [hml]; rfl) hown (y := (⟨"com/example/tranchery/tranchery/rating/Rating", "meets", "(Lcom/example/tranchery/tranchery/rating/Rating;)Z"⟩ : MethodName)) (z := (⟨"com/example/tranchery/tranchery/rating/Rating", "meets", "(Lcom/example/tranchery/tranchery/rating/Rating;)Z"⟩ : MethodName)) (hw _ (List.mem_of_getElem? (i := 22) rfl)) (hw _ (List.mem_of_getElem? (i := 23) rfl)) (notFace_of_selects (args := #[]) (mvT hZ (hw _ (List.mem_of_getElem? (i := 25) rfl)))) (hw _ (List.mem_of_getElem? (i := 25) rfl)) (hw _ (List.mem_of_getElem? (i := 24) rfl)) (hw _ (List.mem_of_getElem? (i := 26) rfl)) (hw _ (List.mem_of_getElem? (i := 6) rfl)) (by decide) (own_rm_meets l Z a0 hw [] b152 b144 vB vA (0 : Int32) T175.heap n0 (Nat.le_trans (Nat.le_trans (Nat.le_trans (Nat.le_trans (Nat.le_trans (Nat.le_trans Z0 E144.1) K151.1) E152.1) K162.1) E163.1) K175.1) f234 f231 (by simp [k2])) f236 e233 (argsL := [(.ref b144)]) (stk := [(.ref b144), (.ref b152)]) (st := []) own_pd_2 rfl rfl rfl (W := 0) rfl (by decide) (by decide) (by decide) (by decide) at_131 rfl ?_
            intro T235 L235 v235 X235 q235
            obtain ⟨rfl, N235, e235⟩ := q235
            have M235 := Fr.app M233 N235
            show OG.Go _ _ _ _ _ _ _ (T235.setTop (mkF m 134 #[.val (.int p1), .val (.int p2), .val (.int p3), .val (.int p4), .val (.int (1 : Int32)), .val (.ref w1), .val (.int (21 : Int32)), .val (.int vA), .val (.int vB), .val (.int vC), .val (.ref b144), .val (.ref b152), .val (.ref b163), .val (.int (1 : Int32)), .val (.int (1 : Int32)), .unset, .unset, .unset] [(.int (0 : Int32))]))
            refine OG.istore (Ls' := #[.val (.int p1), .val (.int p2), .val (.int p3), .val (.int p4), .val (.int (1 : Int32)), .val (.ref w1), .val (.int (21 : Int32)), .val (.int vA), .val (.int vB), .val (.int vC), .val (.ref b144), .val (.ref b152), .val (.ref b163), .val (.int (1 : Int32)), .val (.int (1 : Int32)), .val (.int (0 : Int32)), .unset, .unset]) X235 hx hby at_134 rfl rfl ?_
            refine OG.aload X235 hx hby at_136 rfl rfl rfl ?_
            refine OG.aload X235 hx hby at_138 rfl rfl rfl ?_
            refine OG.cV X235 hx hZ hby (by rw [hml]; rfl) hown (y := (⟨"com/example/tranchery/tranchery/rating/Rating", "meets", "(Lcom/example/tranchery/tranchery/rating/Rating;)Z"⟩ : MethodName)) (z := (⟨"com/example/tranchery/tranchery/rating/Rating", "meets", "(Lcom/example/tranchery/tranchery/rating/Rating;)Z"⟩ : MethodName)) (hw _ (List.mem_of_getElem? (i := 22) rfl)) (hw _ (List.mem_of_getElem? (i := 23) rfl)) (notFace_of_selects (args := #[]) (mvT hZ (hw _ (List.mem_of_getElem? (i := 25) rfl)))) (hw _ (List.mem_of_getElem? (i := 25) rfl)) (hw _ (List.mem_of_getElem? (i := 24) rfl)) (hw _ (List.mem_of_getElem? (i := 26) rfl)) (hw _ (List.mem_of_getElem? (i := 6) rfl)) (by decide) (own_rm_meets l Z a0 hw [] b152 b163 vB vC (1 : Int32) T175.heap n0 (Nat.le_trans (Nat.le_trans (Nat.le_trans (Nat.le_trans (Nat.le_trans (Nat.le_trans Z0 E144.1) K151.1) E152.1) K162.1) E163.1) K175.1) f234 Fb175 (by simp [k3])) f236 e235 (argsL := [(.ref b163)]) (stk := [(.ref b163), (.ref b152)]) (st := []) own_pd_2 rfl rfl rfl (W := 0) rfl (by decide) (by decide) (by decide) (by decide) at_140 rfl ?_
            intro T237 L237 v237 X237 q237
            obtain ⟨rfl, N237, e237⟩ := q237
            have M237 := Fr.app M235 N237
            show OG.Go _ _ _ _ _ _ _ (T237.setTop (mkF m 143 #[.val (.int p1), .val (.int p2), .val (.int p3), .val (.int p4), .val (.int (1 : Int32)), .val (.ref w1), .val (.int (21 : Int32)), .val (.int vA), .val (.int vB), .val (.int vC), .val (.ref b144), .val (.ref b152), .val (.ref b163), .val (.int (1 : Int32)), .val (.int (1 : Int32)), .val (.int (0 : Int32)), .unset, .unset] [(.int (1 : Int32))]))
            refine OG.istore (Ls' := #[.val (.int p1), .val (.int p2), .val (.int p3), .val (.int p4), .val (.int (1 : Int32)), .val (.ref w1), .val (.int (21 : Int32)), .val (.int vA), .val (.int vB), .val (.int vC), .val (.ref b144), .val (.ref b152), .val (.ref b163), .val (.int (1 : Int32)), .val (.int (1 : Int32)), .val (.int (0 : Int32)), .val (.int (1 : Int32)), .unset]) X237 hx hby at_143 rfl rfl ?_
            refine OG.aload X237 hx hby at_145 rfl rfl rfl ?_
            refine OG.aload X237 hx hby at_147 rfl rfl rfl ?_
            refine OG.cV X237 hx hZ hby (by rw [hml]; rfl) hown (y := (⟨"com/example/tranchery/tranchery/rating/Rating", "meets", "(Lcom/example/tranchery/tranchery/rating/Rating;)Z"⟩ : MethodName)) (z := (⟨"com/example/tranchery/tranchery/rating/Rating", "meets", "(Lcom/example/tranchery/tranchery/rating/Rating;)Z"⟩ : MethodName)) (hw _ (List.mem_of_getElem? (i := 22) rfl)) (hw _ (List.mem_of_getElem? (i := 23) rfl)) (notFace_of_selects (args := #[]) (mvT hZ (hw _ (List.mem_of_getElem? (i := 25) rfl)))) (hw _ (List.mem_of_getElem? (i := 25) rfl)) (hw _ (List.mem_of_getElem? (i := 24) rfl)) (hw _ (List.mem_of_getElem? (i := 26) rfl)) (hw _ (List.mem_of_getElem? (i := 6) rfl)) (by decide) (own_rm_meets l Z a0 hw [] b144 b163 vA vC (0 : Int32) T175.heap n0 (Nat.le_trans (Nat.le_trans (Nat.le_trans (Nat.le_trans (Nat.le_trans (Nat.le_trans Z0 E144.1) K151.1) E152.1) K162.1) E163.1) K175.1) f231 Fb175 (by simp [k4])) f232 e237 (argsL := [(.ref b163)]) (stk := [(.ref b163), (.ref b144)]) (st := []) own_pd_2 rfl rfl rfl (W := 0) rfl (by decide) (by decide) (by decide) (by decide) at_149 rfl ?_
            intro T238 L238 v238 X238 q238
            obtain ⟨rfl, N238, e238⟩ := q238
            have M238 := Fr.app M237 N238
            show OG.Go _ _ _ _ _ _ _ (T238.setTop (mkF m 152 #[.val (.int p1), .val (.int p2), .val (.int p3), .val (.int p4), .val (.int (1 : Int32)), .val (.ref w1), .val (.int (21 : Int32)), .val (.int vA), .val (.int vB), .val (.int vC), .val (.ref b144), .val (.ref b152), .val (.ref b163), .val (.int (1 : Int32)), .val (.int (1 : Int32)), .val (.int (0 : Int32)), .val (.int (1 : Int32)), .unset] [(.int (0 : Int32))]))
            refine OG.istore (Ls' := #[.val (.int p1), .val (.int p2), .val (.int p3), .val (.int p4), .val (.int (1 : Int32)), .val (.ref w1), .val (.int (21 : Int32)), .val (.int vA), .val (.int vB), .val (.int vC), .val (.ref b144), .val (.ref b152), .val (.ref b163), .val (.int (1 : Int32)), .val (.int (1 : Int32)), .val (.int (0 : Int32)), .val (.int (1 : Int32)), .val (.int (0 : Int32))]) X238 hx hby at_152 rfl rfl ?_
            refine OG.iload X238 hx hby at_154 rfl rfl ?_
            refine OG.ifYes (pc' := 161) X238 hx hby at_156 (feq (by decide)).2 (by decide) (by decide) ?_
            refine OG.iload X238 hx hby at_161 rfl rfl ?_
            refine OG.ifYes (pc' := 173) X238 hx hby at_163 (feq (by decide)).2 (by decide) (by decide) ?_
            refine OG.iload X238 hx hby at_173 rfl rfl ?_
            refine OG.ifNo X238 hx hby at_175 (feq (by decide)).1 rfl ?_
            refine OG.iload X238 hx hby at_178 rfl rfl ?_
            refine OG.ifYes (pc' := 187) X238 hx hby at_180 (teq (by decide)).1 (by decide) (by decide) ?_
            refine OG.iconst (v := (0 : Int32)) X238 hx hby at_187 (by decide) rfl ?_
            refine OG.iload X238 hx hby at_188 rfl rfl ?_
            refine OG.iload X238 hx hby at_190 rfl rfl ?_
            refine OG.icmpYes (pc' := 199) X238 hx hby at_192 (feq k0).2 (by decide) (by decide) ?_
            refine OG.iconst (v := (0 : Int32)) X238 hx hby at_199 (by decide) rfl ?_
            refine OG.icmpYes (pc' := 205) X238 hx hby at_200 (teq (by decide)).1 (by decide) (by decide) ?_
            refine OG.iload X238 hx hby at_205 rfl rfl ?_
            refine OG.iload X238 hx hby at_207 rfl rfl ?_
            refine OG.icmpNo X238 hx hby at_209 (tlt k2).2.1 rfl ?_
            refine OG.iload X238 hx hby at_212 rfl rfl ?_
            refine OG.ifNo X238 hx hby at_214 (feq (by decide)).1 rfl ?_
            refine OG.iload X238 hx hby at_217 rfl rfl ?_
            refine OG.ifYes (pc' := 224) X238 hx hby at_219 (teq (by decide)).1 (by decide) (by decide) ?_
            refine OG.iload X238 hx hby at_224 rfl rfl ?_
            refine OG.iload X238 hx hby at_226 rfl rfl ?_
            refine OG.icmpYes (pc' := 243) X238 hx hby at_228 (flt k1).2.1 (by decide) (by decide) ?_
            refine OG.iload X238 hx hby at_243 rfl rfl ?_
            refine OG.ifNo X238 hx hby at_245 (feq (by decide)).1 rfl ?_
            refine OG.iload X238 hx hby at_248 rfl rfl ?_
            refine OG.ifNo X238 hx hby at_250 (feq (by decide)).1 rfl ?_
            refine OG.iload X238 hx hby at_253 rfl rfl ?_
            refine OG.ifNo X238 hx hby at_255 (teq (by decide)).2 rfl ?_
            refine OG.iconst (v := (0 : Int32)) X238 hx hby at_258 (by decide) rfl ?_
            refine OG.retZ X238 hx hby Bd.returns (by simp) at_259 Bd.notSynchronized (by decide) (by decide) ?_
            exfalso
            simp only [Int32.lt_iff_toInt_lt, ← Int32.toInt_inj] at k0 k1 k2 k3 k4
            omega
          · refine OG.aload X175 hx hby at_109 rfl rfl rfl ?_
            refine OG.aload X175 hx hby at_111 rfl rfl rfl ?_
            have f240 := (Fld.keep (Fld.ext E163 (Fld.keep (Fld.ext E152 Fb151) K162 (ninS ne157 nin0))) K175 (ninS ne169 nin0))
            have f241 := (Exa.keep (Exa.ext E163 f168) K175)
            refine OG.cV X175 hx hZ hby (by rw [hml]; rfl) hown (y := (⟨"com/example/tranchery/tranchery/rating/Rating", "meets", "(Lcom/example/tranchery/tranchery/rating/Rating;)Z"⟩ : MethodName)) (z := (⟨"com/example/tranchery/tranchery/rating/Rating", "meets", "(Lcom/example/tranchery/tranchery/rating/Rating;)Z"⟩ : MethodName)) (hw _ (List.mem_of_getElem? (i := 22) rfl)) (hw _ (List.mem_of_getElem? (i := 23) rfl)) (notFace_of_selects (args := #[]) (mvT hZ (hw _ (List.mem_of_getElem? (i := 25) rfl)))) (hw _ (List.mem_of_getElem? (i := 25) rfl)) (hw _ (List.mem_of_getElem? (i := 24) rfl)) (hw _ (List.mem_of_getElem? (i := 26) rfl)) (hw _ (List.mem_of_getElem? (i := 6) rfl)) (by decide) (own_rm_meets l Z a0 hw [] b144 b144 vA vA (1 : Int32) T175.heap n0 (Nat.le_trans (Nat.le_trans (Nat.le_trans (Nat.le_trans (Nat.le_trans (Nat.le_trans Z0 E144.1) K151.1) E152.1) K162.1) E163.1) K175.1) f240 f240 (by simp)) f241 rfl (argsL := [(.ref b144)]) (stk := [(.ref b144), (.ref b144)]) (st := []) own_pd_2 rfl rfl rfl (W := 0) rfl (by decide) (by decide) (by decide) (by decide) at_113 rfl ?_
            intro T239 L239 v239 X239 q239
            obtain ⟨rfl, N239, e239⟩ := q239
            have M239 := Fr.app M175 N239
            show OG.Go _ _ _ _ _ _ _ (T239.setTop (mkF m 116 #[.val (.int p1), .val (.int p2), .val (.int p3), .val (.int p4), .val (.int (1 : Int32)), .val (.ref w1), .val (.int (21 : Int32)), .val (.int vA), .val (.int vB), .val (.int vC), .val (.ref b144), .val (.ref b152), .val (.ref b163), .unset, .unset, .unset, .unset, .unset] [(.int (1 : Int32))]))
            refine OG.istore (Ls' := #[.val (.int p1), .val (.int p2), .val (.int p3), .val (.int p4), .val (.int (1 : Int32)), .val (.ref w1), .val (.int (21 : Int32)), .val (.int vA), .val (.int vB), .val (.int vC), .val (.ref b144), .val (.ref b152), .val (.ref b163), .val (.int (1 : Int32)), .unset, .unset, .unset, .unset]) X239 hx hby at_116 rfl rfl ?_
            refine OG.aload X239 hx hby at_118 rfl rfl rfl ?_
            refine OG.aload X239 hx hby at_120 rfl rfl rfl ?_
            have f243 := (Fld.keep (Fld.ext E163 Fb162) K175 (ninS ne170 nin0))
            refine OG.cV X239 hx hZ hby (by rw [hml]; rfl) hown (y := (⟨"com/example/tranchery/tranchery/rating/Rating", "meets", "(Lcom/example/tranchery/tranchery/rating/Rating;)Z"⟩ : MethodName)) (z := (⟨"com/example/tranchery/tranchery/rating/Rating", "meets", "(Lcom/example/tranchery/tranchery/rating/Rating;)Z"⟩ : MethodName)) (hw _ (List.mem_of_getElem? (i := 22) rfl)) (hw _ (List.mem_of_getElem? (i := 23) rfl)) (notFace_of_selects (args := #[]) (mvT hZ (hw _ (List.mem_of_getElem? (i := 25) rfl)))) (hw _ (List.mem_of_getElem? (i := 25) rfl)) (hw _ (List.mem_of_getElem? (i := 24) rfl)) (hw _ (List.mem_of_getElem? (i := 26) rfl)) (hw _ (List.mem_of_getElem? (i := 6) rfl)) (by decide) (own_rm_meets l Z a0 hw [] b144 b152 vA vB (1 : Int32) T175.heap n0 (Nat.le_trans (Nat.le_trans (Nat.le_trans (Nat.le_trans (Nat.le_trans (Nat.le_trans Z0 E144.1) K151.1) E152.1) K162.1) E163.1) K175.1) f240 f243 (by simp [k1])) f241 e239 (argsL := [(.ref b152)]) (stk := [(.ref b152), (.ref b144)]) (st := []) own_pd_2 rfl rfl rfl (W := 0) rfl (by decide) (by decide) (by decide) (by decide) at_122 rfl ?_
            intro T242 L242 v242 X242 q242
            obtain ⟨rfl, N242, e242⟩ := q242
            have M242 := Fr.app M239 N242
            show OG.Go _ _ _ _ _ _ _ (T242.setTop (mkF m 125 #[.val (.int p1), .val (.int p2), .val (.int p3), .val (.int p4), .val (.int (1 : Int32)), .val (.ref w1), .val (.int (21 : Int32)), .val (.int vA), .val (.int vB), .val (.int vC), .val (.ref b144), .val (.ref b152), .val (.ref b163), .val (.int (1 : Int32)), .unset, .unset, .unset, .unset] [(.int (1 : Int32))]))
            refine OG.istore (Ls' := #[.val (.int p1), .val (.int p2), .val (.int p3), .val (.int p4), .val (.int (1 : Int32)), .val (.ref w1), .val (.int (21 : Int32)), .val (.int vA), .val (.int vB), .val (.int vC), .val (.ref b144), .val (.ref b152), .val (.ref b163), .val (.int (1 : Int32)), .val (.int (1 : Int32)), .unset, .unset, .unset]) X242 hx hby at_125 rfl rfl ?_
            refine OG.aload X242 hx hby at_127 rfl rfl rfl ?_
            refine OG.aload X242 hx hby at_129 rfl rfl rfl ?_
            have f245 := (Exa.keep (Exa.ext E163 Ea162) K175)
            refine OG.cV X242 hx hZ hby (by rw [hml]; rfl) hown (y := (⟨"com/example/tranchery/tranchery/rating/Rating", "meets", "(Lcom/example/tranchery/tranchery/rating/Rating;)Z"⟩ : MethodName)) (z := (⟨"com/example/tranchery/tranchery/rating/Rating", "meets", "(Lcom/example/tranchery/tranchery/rating/Rating;)Z"⟩ : MethodName)) (hw _ (List.mem_of_getElem? (i := 22) rfl)) (hw _ (List.mem_of_getElem? (i := 23) rfl)) (notFace_of_selects (args := #[]) (mvT hZ (hw _ (List.mem_of_getElem? (i := 25) rfl)))) (hw _ (List.mem_of_getElem? (i := 25) rfl)) (hw _ (List.mem_of_getElem? (i := 24) rfl)) (hw _ (List.mem_of_getElem? (i := 26) rfl)) (hw _ (List.mem_of_getElem? (i := 6) rfl)) (by decide) (own_rm_meets l Z a0 hw [] b152 b144 vB vA (0 : Int32) T175.heap n0 (Nat.le_trans (Nat.le_trans (Nat.le_trans (Nat.le_trans (Nat.le_trans (Nat.le_trans Z0 E144.1) K151.1) E152.1) K162.1) E163.1) K175.1) f243 f240 (by simp [k2])) f245 e242 (argsL := [(.ref b144)]) (stk := [(.ref b144), (.ref b152)]) (st := []) own_pd_2 rfl rfl rfl (W := 0) rfl (by decide) (by decide) (by decide) (by decide) at_131 rfl ?_
            intro T244 L244 v244 X244 q244
            obtain ⟨rfl, N244, e244⟩ := q244
            have M244 := Fr.app M242 N244
            show OG.Go _ _ _ _ _ _ _ (T244.setTop (mkF m 134 #[.val (.int p1), .val (.int p2), .val (.int p3), .val (.int p4), .val (.int (1 : Int32)), .val (.ref w1), .val (.int (21 : Int32)), .val (.int vA), .val (.int vB), .val (.int vC), .val (.ref b144), .val (.ref b152), .val (.ref b163), .val (.int (1 : Int32)), .val (.int (1 : Int32)), .unset, .unset, .unset] [(.int (0 : Int32))]))
            refine OG.istore (Ls' := #[.val (.int p1), .val (.int p2), .val (.int p3), .val (.int p4), .val (.int (1 : Int32)), .val (.ref w1), .val (.int (21 : Int32)), .val (.int vA), .val (.int vB), .val (.int vC), .val (.ref b144), .val (.ref b152), .val (.ref b163), .val (.int (1 : Int32)), .val (.int (1 : Int32)), .val (.int (0 : Int32)), .unset, .unset]) X244 hx hby at_134 rfl rfl ?_
            refine OG.aload X244 hx hby at_136 rfl rfl rfl ?_
            refine OG.aload X244 hx hby at_138 rfl rfl rfl ?_
            refine OG.cV X244 hx hZ hby (by rw [hml]; rfl) hown (y := (⟨"com/example/tranchery/tranchery/rating/Rating", "meets", "(Lcom/example/tranchery/tranchery/rating/Rating;)Z"⟩ : MethodName)) (z := (⟨"com/example/tranchery/tranchery/rating/Rating", "meets", "(Lcom/example/tranchery/tranchery/rating/Rating;)Z"⟩ : MethodName)) (hw _ (List.mem_of_getElem? (i := 22) rfl)) (hw _ (List.mem_of_getElem? (i := 23) rfl)) (notFace_of_selects (args := #[]) (mvT hZ (hw _ (List.mem_of_getElem? (i := 25) rfl)))) (hw _ (List.mem_of_getElem? (i := 25) rfl)) (hw _ (List.mem_of_getElem? (i := 24) rfl)) (hw _ (List.mem_of_getElem? (i := 26) rfl)) (hw _ (List.mem_of_getElem? (i := 6) rfl)) (by decide) (own_rm_meets l Z a0 hw [] b152 b163 vB vC (1 : Int32) T175.heap n0 (Nat.le_trans (Nat.le_trans (Nat.le_trans (Nat.le_trans (Nat.le_trans (Nat.le_trans Z0 E144.1) K151.1) E152.1) K162.1) E163.1) K175.1) f243 Fb175 (by simp [k3])) f245 e244 (argsL := [(.ref b163)]) (stk := [(.ref b163), (.ref b152)]) (st := []) own_pd_2 rfl rfl rfl (W := 0) rfl (by decide) (by decide) (by decide) (by decide) at_140 rfl ?_
            intro T246 L246 v246 X246 q246
            obtain ⟨rfl, N246, e246⟩ := q246
            have M246 := Fr.app M244 N246
            show OG.Go _ _ _ _ _ _ _ (T246.setTop (mkF m 143 #[.val (.int p1), .val (.int p2), .val (.int p3), .val (.int p4), .val (.int (1 : Int32)), .val (.ref w1), .val (.int (21 : Int32)), .val (.int vA), .val (.int vB), .val (.int vC), .val (.ref b144), .val (.ref b152), .val (.ref b163), .val (.int (1 : Int32)), .val (.int (1 : Int32)), .val (.int (0 : Int32)), .unset, .unset] [(.int (1 : Int32))]))
            refine OG.istore (Ls' := #[.val (.int p1), .val (.int p2), .val (.int p3), .val (.int p4), .val (.int (1 : Int32)), .val (.ref w1), .val (.int (21 : Int32)), .val (.int vA), .val (.int vB), .val (.int vC), .val (.ref b144), .val (.ref b152), .val (.ref b163), .val (.int (1 : Int32)), .val (.int (1 : Int32)), .val (.int (0 : Int32)), .val (.int (1 : Int32)), .unset]) X246 hx hby at_143 rfl rfl ?_
            refine OG.aload X246 hx hby at_145 rfl rfl rfl ?_
            refine OG.aload X246 hx hby at_147 rfl rfl rfl ?_
            refine OG.cV X246 hx hZ hby (by rw [hml]; rfl) hown (y := (⟨"com/example/tranchery/tranchery/rating/Rating", "meets", "(Lcom/example/tranchery/tranchery/rating/Rating;)Z"⟩ : MethodName)) (z := (⟨"com/example/tranchery/tranchery/rating/Rating", "meets", "(Lcom/example/tranchery/tranchery/rating/Rating;)Z"⟩ : MethodName)) (hw _ (List.mem_of_getElem? (i := 22) rfl)) (hw _ (List.mem_of_getElem? (i := 23) rfl)) (notFace_of_selects (args := #[]) (mvT hZ (hw _ (List.mem_of_getElem? (i := 25) rfl)))) (hw _ (List.mem_of_getElem? (i := 25) rfl)) (hw _ (List.mem_of_getElem? (i := 24) rfl)) (hw _ (List.mem_of_getElem? (i := 26) rfl)) (hw _ (List.mem_of_getElem? (i := 6) rfl)) (by decide) (own_rm_meets l Z a0 hw [] b144 b163 vA vC (1 : Int32) T175.heap n0 (Nat.le_trans (Nat.le_trans (Nat.le_trans (Nat.le_trans (Nat.le_trans (Nat.le_trans Z0 E144.1) K151.1) E152.1) K162.1) E163.1) K175.1) f240 Fb175 (by simp [k4])) f241 e246 (argsL := [(.ref b163)]) (stk := [(.ref b163), (.ref b144)]) (st := []) own_pd_2 rfl rfl rfl (W := 0) rfl (by decide) (by decide) (by decide) (by decide) at_149 rfl ?_
            intro T247 L247 v247 X247 q247
            obtain ⟨rfl, N247, e247⟩ := q247
            have M247 := Fr.app M246 N247
            show OG.Go _ _ _ _ _ _ _ (T247.setTop (mkF m 152 #[.val (.int p1), .val (.int p2), .val (.int p3), .val (.int p4), .val (.int (1 : Int32)), .val (.ref w1), .val (.int (21 : Int32)), .val (.int vA), .val (.int vB), .val (.int vC), .val (.ref b144), .val (.ref b152), .val (.ref b163), .val (.int (1 : Int32)), .val (.int (1 : Int32)), .val (.int (0 : Int32)), .val (.int (1 : Int32)), .unset] [(.int (1 : Int32))]))
            refine OG.istore (Ls' := #[.val (.int p1), .val (.int p2), .val (.int p3), .val (.int p4), .val (.int (1 : Int32)), .val (.ref w1), .val (.int (21 : Int32)), .val (.int vA), .val (.int vB), .val (.int vC), .val (.ref b144), .val (.ref b152), .val (.ref b163), .val (.int (1 : Int32)), .val (.int (1 : Int32)), .val (.int (0 : Int32)), .val (.int (1 : Int32)), .val (.int (1 : Int32))]) X247 hx hby at_152 rfl rfl ?_
            refine OG.iload X247 hx hby at_154 rfl rfl ?_
            refine OG.ifYes (pc' := 161) X247 hx hby at_156 (feq (by decide)).2 (by decide) (by decide) ?_
            refine OG.iload X247 hx hby at_161 rfl rfl ?_
            refine OG.ifYes (pc' := 173) X247 hx hby at_163 (feq (by decide)).2 (by decide) (by decide) ?_
            refine OG.iload X247 hx hby at_173 rfl rfl ?_
            refine OG.ifNo X247 hx hby at_175 (feq (by decide)).1 rfl ?_
            refine OG.iload X247 hx hby at_178 rfl rfl ?_
            refine OG.ifYes (pc' := 187) X247 hx hby at_180 (teq (by decide)).1 (by decide) (by decide) ?_
            refine OG.iconst (v := (0 : Int32)) X247 hx hby at_187 (by decide) rfl ?_
            refine OG.iload X247 hx hby at_188 rfl rfl ?_
            refine OG.iload X247 hx hby at_190 rfl rfl ?_
            refine OG.icmpYes (pc' := 199) X247 hx hby at_192 (feq k0).2 (by decide) (by decide) ?_
            refine OG.iconst (v := (0 : Int32)) X247 hx hby at_199 (by decide) rfl ?_
            refine OG.icmpYes (pc' := 205) X247 hx hby at_200 (teq (by decide)).1 (by decide) (by decide) ?_
            refine OG.iload X247 hx hby at_205 rfl rfl ?_
            refine OG.iload X247 hx hby at_207 rfl rfl ?_
            refine OG.icmpNo X247 hx hby at_209 (tlt k2).2.1 rfl ?_
            refine OG.iload X247 hx hby at_212 rfl rfl ?_
            refine OG.ifNo X247 hx hby at_214 (feq (by decide)).1 rfl ?_
            refine OG.iload X247 hx hby at_217 rfl rfl ?_
            refine OG.ifYes (pc' := 224) X247 hx hby at_219 (teq (by decide)).1 (by decide) (by decide) ?_
            refine OG.iload X247 hx hby at_224 rfl rfl ?_
            refine OG.iload X247 hx hby at_226 rfl rfl ?_
            refine OG.icmpYes (pc' := 243) X247 hx hby at_228 (flt k1).2.1 (by decide) (by decide) ?_
            refine OG.iload X247 hx hby at_243 rfl rfl ?_
            refine OG.ifNo X247 hx hby at_245 (feq (by decide)).1 rfl ?_
            refine OG.iload X247 hx hby at_248 rfl rfl ?_
            refine OG.ifNo X247 hx hby at_250 (feq (by decide)).1 rfl ?_
            refine OG.iload X247 hx hby at_253 rfl rfl ?_
            refine OG.ifYes (pc' := 260) X247 hx hby at_255 (feq (by decide)).2 (by decide) (by decide) ?_
            refine OG.iconst (v := (1 : Int32)) X247 hx hby at_260 (by decide) rfl ?_
            refine OG.retZ X247 hx hby Bd.returns (by simp) at_261 Bd.notSynchronized (by decide) (by decide) ?_
            exact ⟨rfl, M247⟩
      · have k0 : vA = vB := Int32.le_antisymm (Int32.not_lt.mp k1) (Int32.not_lt.mp k2)
        by_cases k3 : vC < vB
        · by_cases k4 : vC < vA
          · refine OG.aload X175 hx hby at_109 rfl rfl rfl ?_
            refine OG.aload X175 hx hby at_111 rfl rfl rfl ?_
            have f249 := (Fld.keep (Fld.ext E163 (Fld.keep (Fld.ext E152 Fb151) K162 (ninS ne157 nin0))) K175 (ninS ne169 nin0))
            have f250 := (Exa.keep (Exa.ext E163 f168) K175)
            refine OG.cV X175 hx hZ hby (by rw [hml]; rfl) hown (y := (⟨"com/example/tranchery/tranchery/rating/Rating", "meets", "(Lcom/example/tranchery/tranchery/rating/Rating;)Z"⟩ : MethodName)) (z := (⟨"com/example/tranchery/tranchery/rating/Rating", "meets", "(Lcom/example/tranchery/tranchery/rating/Rating;)Z"⟩ : MethodName)) (hw _ (List.mem_of_getElem? (i := 22) rfl)) (hw _ (List.mem_of_getElem? (i := 23) rfl)) (notFace_of_selects (args := #[]) (mvT hZ (hw _ (List.mem_of_getElem? (i := 25) rfl)))) (hw _ (List.mem_of_getElem? (i := 25) rfl)) (hw _ (List.mem_of_getElem? (i := 24) rfl)) (hw _ (List.mem_of_getElem? (i := 26) rfl)) (hw _ (List.mem_of_getElem? (i := 6) rfl)) (by decide) (own_rm_meets l Z a0 hw [] b144 b144 vA vA (1 : Int32) T175.heap n0 (Nat.le_trans (Nat.le_trans (Nat.le_trans (Nat.le_trans (Nat.le_trans (Nat.le_trans Z0 E144.1) K151.1) E152.1) K162.1) E163.1) K175.1) f249 f249 (by simp)) f250 rfl (argsL := [(.ref b144)]) (stk := [(.ref b144), (.ref b144)]) (st := []) own_pd_2 rfl rfl rfl (W := 0) rfl (by decide) (by decide) (by decide) (by decide) at_113 rfl ?_
            intro T248 L248 v248 X248 q248
            obtain ⟨rfl, N248, e248⟩ := q248
            have M248 := Fr.app M175 N248
            show OG.Go _ _ _ _ _ _ _ (T248.setTop (mkF m 116 #[.val (.int p1), .val (.int p2), .val (.int p3), .val (.int p4), .val (.int (1 : Int32)), .val (.ref w1), .val (.int (21 : Int32)), .val (.int vA), .val (.int vB), .val (.int vC), .val (.ref b144), .val (.ref b152), .val (.ref b163), .unset, .unset, .unset, .unset, .unset] [(.int (1 : Int32))]))
            refine OG.istore (Ls' := #[.val (.int p1), .val (.int p2), .val (.int p3), .val (.int p4), .val (.int (1 : Int32)), .val (.ref w1), .val (.int (21 : Int32)), .val (.int vA), .val (.int vB), .val (.int vC), .val (.ref b144), .val (.ref b152), .val (.ref b163), .val (.int (1 : Int32)), .unset, .unset, .unset, .unset]) X248 hx hby at_116 rfl rfl ?_
            refine OG.aload X248 hx hby at_118 rfl rfl rfl ?_
            refine OG.aload X248 hx hby at_120 rfl rfl rfl ?_
            have f252 := (Fld.keep (Fld.ext E163 Fb162) K175 (ninS ne170 nin0))
            refine OG.cV X248 hx hZ hby (by rw [hml]; rfl) hown (y := (⟨"com/example/tranchery/tranchery/rating/Rating", "meets", "(Lcom/example/tranchery/tranchery/rating/Rating;)Z"⟩ : MethodName)) (z := (⟨"com/example/tranchery/tranchery/rating/Rating", "meets", "(Lcom/example/tranchery/tranchery/rating/Rating;)Z"⟩ : MethodName)) (hw _ (List.mem_of_getElem? (i := 22) rfl)) (hw _ (List.mem_of_getElem? (i := 23) rfl)) (notFace_of_selects (args := #[]) (mvT hZ (hw _ (List.mem_of_getElem? (i := 25) rfl)))) (hw _ (List.mem_of_getElem? (i := 25) rfl)) (hw _ (List.mem_of_getElem? (i := 24) rfl)) (hw _ (List.mem_of_getElem? (i := 26) rfl)) (hw _ (List.mem_of_getElem? (i := 6) rfl)) (by decide) (own_rm_meets l Z a0 hw [] b144 b152 vA vB (1 : Int32) T175.heap n0 (Nat.le_trans (Nat.le_trans (Nat.le_trans (Nat.le_trans (Nat.le_trans (Nat.le_trans Z0 E144.1) K151.1) E152.1) K162.1) E163.1) K175.1) f249 f252 (by simp [k1])) f250 e248 (argsL := [(.ref b152)]) (stk := [(.ref b152), (.ref b144)]) (st := []) own_pd_2 rfl rfl rfl (W := 0) rfl (by decide) (by decide) (by decide) (by decide) at_122 rfl ?_
            intro T251 L251 v251 X251 q251
            obtain ⟨rfl, N251, e251⟩ := q251
            have M251 := Fr.app M248 N251
            show OG.Go _ _ _ _ _ _ _ (T251.setTop (mkF m 125 #[.val (.int p1), .val (.int p2), .val (.int p3), .val (.int p4), .val (.int (1 : Int32)), .val (.ref w1), .val (.int (21 : Int32)), .val (.int vA), .val (.int vB), .val (.int vC), .val (.ref b144), .val (.ref b152), .val (.ref b163), .val (.int (1 : Int32)), .unset, .unset, .unset, .unset] [(.int (1 : Int32))]))
            refine OG.istore (Ls' := #[.val (.int p1), .val (.int p2), .val (.int p3), .val (.int p4), .val (.int (1 : Int32)), .val (.ref w1), .val (.int (21 : Int32)), .val (.int vA), .val (.int vB), .val (.int vC), .val (.ref b144), .val (.ref b152), .val (.ref b163), .val (.int (1 : Int32)), .val (.int (1 : Int32)), .unset, .unset, .unset]) X251 hx hby at_125 rfl rfl ?_
            refine OG.aload X251 hx hby at_127 rfl rfl rfl ?_
            refine OG.aload X251 hx hby at_129 rfl rfl rfl ?_
            have f254 := (Exa.keep (Exa.ext E163 Ea162) K175)
            refine OG.cV X251 hx hZ hby (by rw [hml]; rfl) hown (y := (⟨"com/example/tranchery/tranchery/rating/Rating", "meets", "(Lcom/example/tranchery/tranchery/rating/Rating;)Z"⟩ : MethodName)) (z := (⟨"com/example/tranchery/tranchery/rating/Rating", "meets", "(Lcom/example/tranchery/tranchery/rating/Rating;)Z"⟩ : MethodName)) (hw _ (List.mem_of_getElem? (i := 22) rfl)) (hw _ (List.mem_of_getElem? (i := 23) rfl)) (notFace_of_selects (args := #[]) (mvT hZ (hw _ (List.mem_of_getElem? (i := 25) rfl)))) (hw _ (List.mem_of_getElem? (i := 25) rfl)) (hw _ (List.mem_of_getElem? (i := 24) rfl)) (hw _ (List.mem_of_getElem? (i := 26) rfl)) (hw _ (List.mem_of_getElem? (i := 6) rfl)) (by decide) (own_rm_meets l Z a0 hw [] b152 b144 vB vA (1 : Int32) T175.heap n0 (Nat.le_trans (Nat.le_trans (Nat.le_trans (Nat.le_trans (Nat.le_trans (Nat.le_trans Z0 E144.1) K151.1) E152.1) K162.1) E163.1) K175.1) f252 f249 (by simp [k2])) f254 e251 (argsL := [(.ref b144)]) (stk := [(.ref b144), (.ref b152)]) (st := []) own_pd_2 rfl rfl rfl (W := 0) rfl (by decide) (by decide) (by decide) (by decide) at_131 rfl ?_
            intro T253 L253 v253 X253 q253
            obtain ⟨rfl, N253, e253⟩ := q253
            have M253 := Fr.app M251 N253
            show OG.Go _ _ _ _ _ _ _ (T253.setTop (mkF m 134 #[.val (.int p1), .val (.int p2), .val (.int p3), .val (.int p4), .val (.int (1 : Int32)), .val (.ref w1), .val (.int (21 : Int32)), .val (.int vA), .val (.int vB), .val (.int vC), .val (.ref b144), .val (.ref b152), .val (.ref b163), .val (.int (1 : Int32)), .val (.int (1 : Int32)), .unset, .unset, .unset] [(.int (1 : Int32))]))
            refine OG.istore (Ls' := #[.val (.int p1), .val (.int p2), .val (.int p3), .val (.int p4), .val (.int (1 : Int32)), .val (.ref w1), .val (.int (21 : Int32)), .val (.int vA), .val (.int vB), .val (.int vC), .val (.ref b144), .val (.ref b152), .val (.ref b163), .val (.int (1 : Int32)), .val (.int (1 : Int32)), .val (.int (1 : Int32)), .unset, .unset]) X253 hx hby at_134 rfl rfl ?_
            refine OG.aload X253 hx hby at_136 rfl rfl rfl ?_
            refine OG.aload X253 hx hby at_138 rfl rfl rfl ?_
            refine OG.cV X253 hx hZ hby (by rw [hml]; rfl) hown (y := (⟨"com/example/tranchery/tranchery/rating/Rating", "meets", "(Lcom/example/tranchery/tranchery/rating/Rating;)Z"⟩ : MethodName)) (z := (⟨"com/example/tranchery/tranchery/rating/Rating", "meets", "(Lcom/example/tranchery/tranchery/rating/Rating;)Z"⟩ : MethodName)) (hw _ (List.mem_of_getElem? (i := 22) rfl)) (hw _ (List.mem_of_getElem? (i := 23) rfl)) (notFace_of_selects (args := #[]) (mvT hZ (hw _ (List.mem_of_getElem? (i := 25) rfl)))) (hw _ (List.mem_of_getElem? (i := 25) rfl)) (hw _ (List.mem_of_getElem? (i := 24) rfl)) (hw _ (List.mem_of_getElem? (i := 26) rfl)) (hw _ (List.mem_of_getElem? (i := 6) rfl)) (by decide) (own_rm_meets l Z a0 hw [] b152 b163 vB vC (0 : Int32) T175.heap n0 (Nat.le_trans (Nat.le_trans (Nat.le_trans (Nat.le_trans (Nat.le_trans (Nat.le_trans Z0 E144.1) K151.1) E152.1) K162.1) E163.1) K175.1) f252 Fb175 (by simp [k3])) f254 e253 (argsL := [(.ref b163)]) (stk := [(.ref b163), (.ref b152)]) (st := []) own_pd_2 rfl rfl rfl (W := 0) rfl (by decide) (by decide) (by decide) (by decide) at_140 rfl ?_
            intro T255 L255 v255 X255 q255
            obtain ⟨rfl, N255, e255⟩ := q255
            have M255 := Fr.app M253 N255
            show OG.Go _ _ _ _ _ _ _ (T255.setTop (mkF m 143 #[.val (.int p1), .val (.int p2), .val (.int p3), .val (.int p4), .val (.int (1 : Int32)), .val (.ref w1), .val (.int (21 : Int32)), .val (.int vA), .val (.int vB), .val (.int vC), .val (.ref b144), .val (.ref b152), .val (.ref b163), .val (.int (1 : Int32)), .val (.int (1 : Int32)), .val (.int (1 : Int32)), .unset, .unset] [(.int (0 : Int32))]))
            refine OG.istore (Ls' := #[.val (.int p1), .val (.int p2), .val (.int p3), .val (.int p4), .val (.int (1 : Int32)), .val (.ref w1), .val (.int (21 : Int32)), .val (.int vA), .val (.int vB), .val (.int vC), .val (.ref b144), .val (.ref b152), .val (.ref b163), .val (.int (1 : Int32)), .val (.int (1 : Int32)), .val (.int (1 : Int32)), .val (.int (0 : Int32)), .unset]) X255 hx hby at_143 rfl rfl ?_
            refine OG.aload X255 hx hby at_145 rfl rfl rfl ?_
            refine OG.aload X255 hx hby at_147 rfl rfl rfl ?_
            refine OG.cV X255 hx hZ hby (by rw [hml]; rfl) hown (y := (⟨"com/example/tranchery/tranchery/rating/Rating", "meets", "(Lcom/example/tranchery/tranchery/rating/Rating;)Z"⟩ : MethodName)) (z := (⟨"com/example/tranchery/tranchery/rating/Rating", "meets", "(Lcom/example/tranchery/tranchery/rating/Rating;)Z"⟩ : MethodName)) (hw _ (List.mem_of_getElem? (i := 22) rfl)) (hw _ (List.mem_of_getElem? (i := 23) rfl)) (notFace_of_selects (args := #[]) (mvT hZ (hw _ (List.mem_of_getElem? (i := 25) rfl)))) (hw _ (List.mem_of_getElem? (i := 25) rfl)) (hw _ (List.mem_of_getElem? (i := 24) rfl)) (hw _ (List.mem_of_getElem? (i := 26) rfl)) (hw _ (List.mem_of_getElem? (i := 6) rfl)) (by decide) (own_rm_meets l Z a0 hw [] b144 b163 vA vC (0 : Int32) T175.heap n0 (Nat.le_trans (Nat.le_trans (Nat.le_trans (Nat.le_trans (Nat.le_trans (Nat.le_trans Z0 E144.1) K151.1) E152.1) K162.1) E163.1) K175.1) f249 Fb175 (by simp [k4])) f250 e255 (argsL := [(.ref b163)]) (stk := [(.ref b163), (.ref b144)]) (st := []) own_pd_2 rfl rfl rfl (W := 0) rfl (by decide) (by decide) (by decide) (by decide) at_149 rfl ?_
            intro T256 L256 v256 X256 q256
            obtain ⟨rfl, N256, e256⟩ := q256
            have M256 := Fr.app M255 N256
            show OG.Go _ _ _ _ _ _ _ (T256.setTop (mkF m 152 #[.val (.int p1), .val (.int p2), .val (.int p3), .val (.int p4), .val (.int (1 : Int32)), .val (.ref w1), .val (.int (21 : Int32)), .val (.int vA), .val (.int vB), .val (.int vC), .val (.ref b144), .val (.ref b152), .val (.ref b163), .val (.int (1 : Int32)), .val (.int (1 : Int32)), .val (.int (1 : Int32)), .val (.int (0 : Int32)), .unset] [(.int (0 : Int32))]))
            refine OG.istore (Ls' := #[.val (.int p1), .val (.int p2), .val (.int p3), .val (.int p4), .val (.int (1 : Int32)), .val (.ref w1), .val (.int (21 : Int32)), .val (.int vA), .val (.int vB), .val (.int vC), .val (.ref b144), .val (.ref b152), .val (.ref b163), .val (.int (1 : Int32)), .val (.int (1 : Int32)), .val (.int (1 : Int32)), .val (.int (0 : Int32)), .val (.int (0 : Int32))]) X256 hx hby at_152 rfl rfl ?_
            refine OG.iload X256 hx hby at_154 rfl rfl ?_
            refine OG.ifYes (pc' := 161) X256 hx hby at_156 (feq (by decide)).2 (by decide) (by decide) ?_
            refine OG.iload X256 hx hby at_161 rfl rfl ?_
            refine OG.ifYes (pc' := 173) X256 hx hby at_163 (feq (by decide)).2 (by decide) (by decide) ?_
            refine OG.iload X256 hx hby at_173 rfl rfl ?_
            refine OG.ifNo X256 hx hby at_175 (feq (by decide)).1 rfl ?_
            refine OG.iload X256 hx hby at_178 rfl rfl ?_
            refine OG.ifNo X256 hx hby at_180 (feq (by decide)).1 rfl ?_
            refine OG.iconst (v := (1 : Int32)) X256 hx hby at_183 (by decide) rfl ?_
            refine OG.goto (pc' := 188) X256 hx hby at_184 (by decide) (by decide) ?_
            refine OG.iload X256 hx hby at_188 rfl rfl ?_
            refine OG.iload X256 hx hby at_190 rfl rfl ?_
            refine OG.icmpNo X256 hx hby at_192 (teq k0).2 rfl ?_
            refine OG.iconst (v := (1 : Int32)) X256 hx hby at_195 (by decide) rfl ?_
            refine OG.goto (pc' := 200) X256 hx hby at_196 (by decide) (by decide) ?_
            refine OG.icmpYes (pc' := 205) X256 hx hby at_200 (teq (by decide)).1 (by decide) (by decide) ?_
            refine OG.iload X256 hx hby at_205 rfl rfl ?_
            refine OG.iload X256 hx hby at_207 rfl rfl ?_
            refine OG.icmpYes (pc' := 224) X256 hx hby at_209 (flt k2).2.1 (by decide) (by decide) ?_
            refine OG.iload X256 hx hby at_224 rfl rfl ?_
            refine OG.iload X256 hx hby at_226 rfl rfl ?_
            refine OG.icmpYes (pc' := 243) X256 hx hby at_228 (flt k1).2.1 (by decide) (by decide) ?_
            refine OG.iload X256 hx hby at_243 rfl rfl ?_
            refine OG.ifNo X256 hx hby at_245 (feq (by decide)).1 rfl ?_
            refine OG.iload X256 hx hby at_248 rfl rfl ?_
            refine OG.ifYes (pc' := 260) X256 hx hby at_250 (teq (by decide)).1 (by decide) (by decide) ?_
            refine OG.iconst (v := (1 : Int32)) X256 hx hby at_260 (by decide) rfl ?_
            refine OG.retZ X256 hx hby Bd.returns (by simp) at_261 Bd.notSynchronized (by decide) (by decide) ?_
            exact ⟨rfl, M256⟩
          · refine OG.aload X175 hx hby at_109 rfl rfl rfl ?_
            refine OG.aload X175 hx hby at_111 rfl rfl rfl ?_
            have f258 := (Fld.keep (Fld.ext E163 (Fld.keep (Fld.ext E152 Fb151) K162 (ninS ne157 nin0))) K175 (ninS ne169 nin0))
            have f259 := (Exa.keep (Exa.ext E163 f168) K175)
            refine OG.cV X175 hx hZ hby (by rw [hml]; rfl) hown (y := (⟨"com/example/tranchery/tranchery/rating/Rating", "meets", "(Lcom/example/tranchery/tranchery/rating/Rating;)Z"⟩ : MethodName)) (z := (⟨"com/example/tranchery/tranchery/rating/Rating", "meets", "(Lcom/example/tranchery/tranchery/rating/Rating;)Z"⟩ : MethodName)) (hw _ (List.mem_of_getElem? (i := 22) rfl)) (hw _ (List.mem_of_getElem? (i := 23) rfl)) (notFace_of_selects (args := #[]) (mvT hZ (hw _ (List.mem_of_getElem? (i := 25) rfl)))) (hw _ (List.mem_of_getElem? (i := 25) rfl)) (hw _ (List.mem_of_getElem? (i := 24) rfl)) (hw _ (List.mem_of_getElem? (i := 26) rfl)) (hw _ (List.mem_of_getElem? (i := 6) rfl)) (by decide) (own_rm_meets l Z a0 hw [] b144 b144 vA vA (1 : Int32) T175.heap n0 (Nat.le_trans (Nat.le_trans (Nat.le_trans (Nat.le_trans (Nat.le_trans (Nat.le_trans Z0 E144.1) K151.1) E152.1) K162.1) E163.1) K175.1) f258 f258 (by simp)) f259 rfl (argsL := [(.ref b144)]) (stk := [(.ref b144), (.ref b144)]) (st := []) own_pd_2 rfl rfl rfl (W := 0) rfl (by decide) (by decide) (by decide) (by decide) at_113 rfl ?_
            intro T257 L257 v257 X257 q257
            obtain ⟨rfl, N257, e257⟩ := q257
            have M257 := Fr.app M175 N257
            show OG.Go _ _ _ _ _ _ _ (T257.setTop (mkF m 116 #[.val (.int p1), .val (.int p2), .val (.int p3), .val (.int p4), .val (.int (1 : Int32)), .val (.ref w1), .val (.int (21 : Int32)), .val (.int vA), .val (.int vB), .val (.int vC), .val (.ref b144), .val (.ref b152), .val (.ref b163), .unset, .unset, .unset, .unset, .unset] [(.int (1 : Int32))]))
            refine OG.istore (Ls' := #[.val (.int p1), .val (.int p2), .val (.int p3), .val (.int p4), .val (.int (1 : Int32)), .val (.ref w1), .val (.int (21 : Int32)), .val (.int vA), .val (.int vB), .val (.int vC), .val (.ref b144), .val (.ref b152), .val (.ref b163), .val (.int (1 : Int32)), .unset, .unset, .unset, .unset]) X257 hx hby at_116 rfl rfl ?_
            refine OG.aload X257 hx hby at_118 rfl rfl rfl ?_
            refine OG.aload X257 hx hby at_120 rfl rfl rfl ?_
            have f261 := (Fld.keep (Fld.ext E163 Fb162) K175 (ninS ne170 nin0))
            refine OG.cV X257 hx hZ hby (by rw [hml]; rfl) hown (y := (⟨"com/example/tranchery/tranchery/rating/Rating", "meets", "(Lcom/example/tranchery/tranchery/rating/Rating;)Z"⟩ : MethodName)) (z := (⟨"com/example/tranchery/tranchery/rating/Rating", "meets", "(Lcom/example/tranchery/tranchery/rating/Rating;)Z"⟩ : MethodName)) (hw _ (List.mem_of_getElem? (i := 22) rfl)) (hw _ (List.mem_of_getElem? (i := 23) rfl)) (notFace_of_selects (args := #[]) (mvT hZ (hw _ (List.mem_of_getElem? (i := 25) rfl)))) (hw _ (List.mem_of_getElem? (i := 25) rfl)) (hw _ (List.mem_of_getElem? (i := 24) rfl)) (hw _ (List.mem_of_getElem? (i := 26) rfl)) (hw _ (List.mem_of_getElem? (i := 6) rfl)) (by decide) (own_rm_meets l Z a0 hw [] b144 b152 vA vB (1 : Int32) T175.heap n0 (Nat.le_trans (Nat.le_trans (Nat.le_trans (Nat.le_trans (Nat.le_trans (Nat.le_trans Z0 E144.1) K151.1) E152.1) K162.1) E163.1) K175.1) f258 f261 (by simp [k1])) f259 e257 (argsL := [(.ref b152)]) (stk := [(.ref b152), (.ref b144)]) (st := []) own_pd_2 rfl rfl rfl (W := 0) rfl (by decide) (by decide) (by decide) (by decide) at_122 rfl ?_
            intro T260 L260 v260 X260 q260
            obtain ⟨rfl, N260, e260⟩ := q260
            have M260 := Fr.app M257 N260
            show OG.Go _ _ _ _ _ _ _ (T260.setTop (mkF m 125 #[.val (.int p1), .val (.int p2), .val (.int p3), .val (.int p4), .val (.int (1 : Int32)), .val (.ref w1), .val (.int (21 : Int32)), .val (.int vA), .val (.int vB), .val (.int vC), .val (.ref b144), .val (.ref b152), .val (.ref b163), .val (.int (1 : Int32)), .unset, .unset, .unset, .unset] [(.int (1 : Int32))]))
            refine OG.istore (Ls' := #[.val (.int p1), .val (.int p2), .val (.int p3), .val (.int p4), .val (.int (1 : Int32)), .val (.ref w1), .val (.int (21 : Int32)), .val (.int vA), .val (.int vB), .val (.int vC), .val (.ref b144), .val (.ref b152), .val (.ref b163), .val (.int (1 : Int32)), .val (.int (1 : Int32)), .unset, .unset, .unset]) X260 hx hby at_125 rfl rfl ?_
            refine OG.aload X260 hx hby at_127 rfl rfl rfl ?_
            refine OG.aload X260 hx hby at_129 rfl rfl rfl ?_
            have f263 := (Exa.keep (Exa.ext E163 Ea162) K175)
            refine OG.cV X260 hx hZ hby (by rw [hml]; rfl) hown (y := (⟨"com/example/tranchery/tranchery/rating/Rating", "meets", "(Lcom/example/tranchery/tranchery/rating/Rating;)Z"⟩ : MethodName)) (z := (⟨"com/example/tranchery/tranchery/rating/Rating", "meets", "(Lcom/example/tranchery/tranchery/rating/Rating;)Z"⟩ : MethodName)) (hw _ (List.mem_of_getElem? (i := 22) rfl)) (hw _ (List.mem_of_getElem? (i := 23) rfl)) (notFace_of_selects (args := #[]) (mvT hZ (hw _ (List.mem_of_getElem? (i := 25) rfl)))) (hw _ (List.mem_of_getElem? (i := 25) rfl)) (hw _ (List.mem_of_getElem? (i := 24) rfl)) (hw _ (List.mem_of_getElem? (i := 26) rfl)) (hw _ (List.mem_of_getElem? (i := 6) rfl)) (by decide) (own_rm_meets l Z a0 hw [] b152 b144 vB vA (1 : Int32) T175.heap n0 (Nat.le_trans (Nat.le_trans (Nat.le_trans (Nat.le_trans (Nat.le_trans (Nat.le_trans Z0 E144.1) K151.1) E152.1) K162.1) E163.1) K175.1) f261 f258 (by simp [k2])) f263 e260 (argsL := [(.ref b144)]) (stk := [(.ref b144), (.ref b152)]) (st := []) own_pd_2 rfl rfl rfl (W := 0) rfl (by decide) (by decide) (by decide) (by decide) at_131 rfl ?_
            intro T262 L262 v262 X262 q262
            obtain ⟨rfl, N262, e262⟩ := q262
            have M262 := Fr.app M260 N262
            show OG.Go _ _ _ _ _ _ _ (T262.setTop (mkF m 134 #[.val (.int p1), .val (.int p2), .val (.int p3), .val (.int p4), .val (.int (1 : Int32)), .val (.ref w1), .val (.int (21 : Int32)), .val (.int vA), .val (.int vB), .val (.int vC), .val (.ref b144), .val (.ref b152), .val (.ref b163), .val (.int (1 : Int32)), .val (.int (1 : Int32)), .unset, .unset, .unset] [(.int (1 : Int32))]))
            refine OG.istore (Ls' := #[.val (.int p1), .val (.int p2), .val (.int p3), .val (.int p4), .val (.int (1 : Int32)), .val (.ref w1), .val (.int (21 : Int32)), .val (.int vA), .val (.int vB), .val (.int vC), .val (.ref b144), .val (.ref b152), .val (.ref b163), .val (.int (1 : Int32)), .val (.int (1 : Int32)), .val (.int (1 : Int32)), .unset, .unset]) X262 hx hby at_134 rfl rfl ?_
            refine OG.aload X262 hx hby at_136 rfl rfl rfl ?_
            refine OG.aload X262 hx hby at_138 rfl rfl rfl ?_
            refine OG.cV X262 hx hZ hby (by rw [hml]; rfl) hown (y := (⟨"com/example/tranchery/tranchery/rating/Rating", "meets", "(Lcom/example/tranchery/tranchery/rating/Rating;)Z"⟩ : MethodName)) (z := (⟨"com/example/tranchery/tranchery/rating/Rating", "meets", "(Lcom/example/tranchery/tranchery/rating/Rating;)Z"⟩ : MethodName)) (hw _ (List.mem_of_getElem? (i := 22) rfl)) (hw _ (List.mem_of_getElem? (i := 23) rfl)) (notFace_of_selects (args := #[]) (mvT hZ (hw _ (List.mem_of_getElem? (i := 25) rfl)))) (hw _ (List.mem_of_getElem? (i := 25) rfl)) (hw _ (List.mem_of_getElem? (i := 24) rfl)) (hw _ (List.mem_of_getElem? (i := 26) rfl)) (hw _ (List.mem_of_getElem? (i := 6) rfl)) (by decide) (own_rm_meets l Z a0 hw [] b152 b163 vB vC (0 : Int32) T175.heap n0 (Nat.le_trans (Nat.le_trans (Nat.le_trans (Nat.le_trans (Nat.le_trans (Nat.le_trans Z0 E144.1) K151.1) E152.1) K162.1) E163.1) K175.1) f261 Fb175 (by simp [k3])) f263 e262 (argsL := [(.ref b163)]) (stk := [(.ref b163), (.ref b152)]) (st := []) own_pd_2 rfl rfl rfl (W := 0) rfl (by decide) (by decide) (by decide) (by decide) at_140 rfl ?_
            intro T264 L264 v264 X264 q264
            obtain ⟨rfl, N264, e264⟩ := q264
            have M264 := Fr.app M262 N264
            show OG.Go _ _ _ _ _ _ _ (T264.setTop (mkF m 143 #[.val (.int p1), .val (.int p2), .val (.int p3), .val (.int p4), .val (.int (1 : Int32)), .val (.ref w1), .val (.int (21 : Int32)), .val (.int vA), .val (.int vB), .val (.int vC), .val (.ref b144), .val (.ref b152), .val (.ref b163), .val (.int (1 : Int32)), .val (.int (1 : Int32)), .val (.int (1 : Int32)), .unset, .unset] [(.int (0 : Int32))]))
            refine OG.istore (Ls' := #[.val (.int p1), .val (.int p2), .val (.int p3), .val (.int p4), .val (.int (1 : Int32)), .val (.ref w1), .val (.int (21 : Int32)), .val (.int vA), .val (.int vB), .val (.int vC), .val (.ref b144), .val (.ref b152), .val (.ref b163), .val (.int (1 : Int32)), .val (.int (1 : Int32)), .val (.int (1 : Int32)), .val (.int (0 : Int32)), .unset]) X264 hx hby at_143 rfl rfl ?_
            refine OG.aload X264 hx hby at_145 rfl rfl rfl ?_
            refine OG.aload X264 hx hby at_147 rfl rfl rfl ?_
            refine OG.cV X264 hx hZ hby (by rw [hml]; rfl) hown (y := (⟨"com/example/tranchery/tranchery/rating/Rating", "meets", "(Lcom/example/tranchery/tranchery/rating/Rating;)Z"⟩ : MethodName)) (z := (⟨"com/example/tranchery/tranchery/rating/Rating", "meets", "(Lcom/example/tranchery/tranchery/rating/Rating;)Z"⟩ : MethodName)) (hw _ (List.mem_of_getElem? (i := 22) rfl)) (hw _ (List.mem_of_getElem? (i := 23) rfl)) (notFace_of_selects (args := #[]) (mvT hZ (hw _ (List.mem_of_getElem? (i := 25) rfl)))) (hw _ (List.mem_of_getElem? (i := 25) rfl)) (hw _ (List.mem_of_getElem? (i := 24) rfl)) (hw _ (List.mem_of_getElem? (i := 26) rfl)) (hw _ (List.mem_of_getElem? (i := 6) rfl)) (by decide) (own_rm_meets l Z a0 hw [] b144 b163 vA vC (1 : Int32) T175.heap n0 (Nat.le_trans (Nat.le_trans (Nat.le_trans (Nat.le_trans (Nat.le_trans (Nat.le_trans Z0 E144.1) K151.1) E152.1) K162.1) E163.1) K175.1) f258 Fb175 (by simp [k4])) f259 e264 (argsL := [(.ref b163)]) (stk := [(.ref b163), (.ref b144)]) (st := []) own_pd_2 rfl rfl rfl (W := 0) rfl (by decide) (by decide) (by decide) (by decide) at_149 rfl ?_
            intro T265 L265 v265 X265 q265
            obtain ⟨rfl, N265, e265⟩ := q265
            have M265 := Fr.app M264 N265
            show OG.Go _ _ _ _ _ _ _ (T265.setTop (mkF m 152 #[.val (.int p1), .val (.int p2), .val (.int p3), .val (.int p4), .val (.int (1 : Int32)), .val (.ref w1), .val (.int (21 : Int32)), .val (.int vA), .val (.int vB), .val (.int vC), .val (.ref b144), .val (.ref b152), .val (.ref b163), .val (.int (1 : Int32)), .val (.int (1 : Int32)), .val (.int (1 : Int32)), .val (.int (0 : Int32)), .unset] [(.int (1 : Int32))]))
            refine OG.istore (Ls' := #[.val (.int p1), .val (.int p2), .val (.int p3), .val (.int p4), .val (.int (1 : Int32)), .val (.ref w1), .val (.int (21 : Int32)), .val (.int vA), .val (.int vB), .val (.int vC), .val (.ref b144), .val (.ref b152), .val (.ref b163), .val (.int (1 : Int32)), .val (.int (1 : Int32)), .val (.int (1 : Int32)), .val (.int (0 : Int32)), .val (.int (1 : Int32))]) X265 hx hby at_152 rfl rfl ?_
            refine OG.iload X265 hx hby at_154 rfl rfl ?_
            refine OG.ifYes (pc' := 161) X265 hx hby at_156 (feq (by decide)).2 (by decide) (by decide) ?_
            refine OG.iload X265 hx hby at_161 rfl rfl ?_
            refine OG.ifYes (pc' := 173) X265 hx hby at_163 (feq (by decide)).2 (by decide) (by decide) ?_
            refine OG.iload X265 hx hby at_173 rfl rfl ?_
            refine OG.ifNo X265 hx hby at_175 (feq (by decide)).1 rfl ?_
            refine OG.iload X265 hx hby at_178 rfl rfl ?_
            refine OG.ifNo X265 hx hby at_180 (feq (by decide)).1 rfl ?_
            refine OG.iconst (v := (1 : Int32)) X265 hx hby at_183 (by decide) rfl ?_
            refine OG.goto (pc' := 188) X265 hx hby at_184 (by decide) (by decide) ?_
            refine OG.iload X265 hx hby at_188 rfl rfl ?_
            refine OG.iload X265 hx hby at_190 rfl rfl ?_
            refine OG.icmpNo X265 hx hby at_192 (teq k0).2 rfl ?_
            refine OG.iconst (v := (1 : Int32)) X265 hx hby at_195 (by decide) rfl ?_
            refine OG.goto (pc' := 200) X265 hx hby at_196 (by decide) (by decide) ?_
            refine OG.icmpYes (pc' := 205) X265 hx hby at_200 (teq (by decide)).1 (by decide) (by decide) ?_
            refine OG.iload X265 hx hby at_205 rfl rfl ?_
            refine OG.iload X265 hx hby at_207 rfl rfl ?_
            refine OG.icmpYes (pc' := 224) X265 hx hby at_209 (flt k2).2.1 (by decide) (by decide) ?_
            refine OG.iload X265 hx hby at_224 rfl rfl ?_
            refine OG.iload X265 hx hby at_226 rfl rfl ?_
            refine OG.icmpYes (pc' := 243) X265 hx hby at_228 (flt k1).2.1 (by decide) (by decide) ?_
            refine OG.iload X265 hx hby at_243 rfl rfl ?_
            refine OG.ifNo X265 hx hby at_245 (feq (by decide)).1 rfl ?_
            refine OG.iload X265 hx hby at_248 rfl rfl ?_
            refine OG.ifYes (pc' := 260) X265 hx hby at_250 (teq (by decide)).1 (by decide) (by decide) ?_
            refine OG.iconst (v := (1 : Int32)) X265 hx hby at_260 (by decide) rfl ?_
            refine OG.retZ X265 hx hby Bd.returns (by simp) at_261 Bd.notSynchronized (by decide) (by decide) ?_
            exact ⟨rfl, M265⟩
        · by_cases k4 : vC < vA
          · refine OG.aload X175 hx hby at_109 rfl rfl rfl ?_
            refine OG.aload X175 hx hby at_111 rfl rfl rfl ?_
            have f267 := (Fld.keep (Fld.ext E163 (Fld.keep (Fld.ext E152 Fb151) K162 (ninS ne157 nin0))) K175 (ninS ne169 nin0))
            have f268 := (Exa.keep (Exa.ext E163 f168) K175)
            refine OG.cV X175 hx hZ hby (by rw [hml]; rfl) hown (y := (⟨"com/example/tranchery/tranchery/rating/Rating", "meets", "(Lcom/example/tranchery/tranchery/rating/Rating;)Z"⟩ : MethodName)) (z := (⟨"com/example/tranchery/tranchery/rating/Rating", "meets", "(Lcom/example/tranchery/tranchery/rating/Rating;)Z"⟩ : MethodName)) (hw _ (List.mem_of_getElem? (i := 22) rfl)) (hw _ (List.mem_of_getElem? (i := 23) rfl)) (notFace_of_selects (args := #[]) (mvT hZ (hw _ (List.mem_of_getElem? (i := 25) rfl)))) (hw _ (List.mem_of_getElem? (i := 25) rfl)) (hw _ (List.mem_of_getElem? (i := 24) rfl)) (hw _ (List.mem_of_getElem? (i := 26) rfl)) (hw _ (List.mem_of_getElem? (i := 6) rfl)) (by decide) (own_rm_meets l Z a0 hw [] b144 b144 vA vA (1 : Int32) T175.heap n0 (Nat.le_trans (Nat.le_trans (Nat.le_trans (Nat.le_trans (Nat.le_trans (Nat.le_trans Z0 E144.1) K151.1) E152.1) K162.1) E163.1) K175.1) f267 f267 (by simp)) f268 rfl (argsL := [(.ref b144)]) (stk := [(.ref b144), (.ref b144)]) (st := []) own_pd_2 rfl rfl rfl (W := 0) rfl (by decide) (by decide) (by decide) (by decide) at_113 rfl ?_
            intro T266 L266 v266 X266 q266
            obtain ⟨rfl, N266, e266⟩ := q266
            have M266 := Fr.app M175 N266
            show OG.Go _ _ _ _ _ _ _ (T266.setTop (mkF m 116 #[.val (.int p1), .val (.int p2), .val (.int p3), .val (.int p4), .val (.int (1 : Int32)), .val (.ref w1), .val (.int (21 : Int32)), .val (.int vA), .val (.int vB), .val (.int vC), .val (.ref b144), .val (.ref b152), .val (.ref b163), .unset, .unset, .unset, .unset, .unset] [(.int (1 : Int32))]))
            refine OG.istore (Ls' := #[.val (.int p1), .val (.int p2), .val (.int p3), .val (.int p4), .val (.int (1 : Int32)), .val (.ref w1), .val (.int (21 : Int32)), .val (.int vA), .val (.int vB), .val (.int vC), .val (.ref b144), .val (.ref b152), .val (.ref b163), .val (.int (1 : Int32)), .unset, .unset, .unset, .unset]) X266 hx hby at_116 rfl rfl ?_
            refine OG.aload X266 hx hby at_118 rfl rfl rfl ?_
            refine OG.aload X266 hx hby at_120 rfl rfl rfl ?_
            have f270 := (Fld.keep (Fld.ext E163 Fb162) K175 (ninS ne170 nin0))
            refine OG.cV X266 hx hZ hby (by rw [hml]; rfl) hown (y := (⟨"com/example/tranchery/tranchery/rating/Rating", "meets", "(Lcom/example/tranchery/tranchery/rating/Rating;)Z"⟩ : MethodName)) (z := (⟨"com/example/tranchery/tranchery/rating/Rating", "meets", "(Lcom/example/tranchery/tranchery/rating/Rating;)Z"⟩ : MethodName)) (hw _ (List.mem_of_getElem? (i := 22) rfl)) (hw _ (List.mem_of_getElem? (i := 23) rfl)) (notFace_of_selects (args := #[]) (mvT hZ (hw _ (List.mem_of_getElem? (i := 25) rfl)))) (hw _ (List.mem_of_getElem? (i := 25) rfl)) (hw _ (List.mem_of_getElem? (i := 24) rfl)) (hw _ (List.mem_of_getElem? (i := 26) rfl)) (hw _ (List.mem_of_getElem? (i := 6) rfl)) (by decide) (own_rm_meets l Z a0 hw [] b144 b152 vA vB (1 : Int32) T175.heap n0 (Nat.le_trans (Nat.le_trans (Nat.le_trans (Nat.le_trans (Nat.le_trans (Nat.le_trans Z0 E144.1) K151.1) E152.1) K162.1) E163.1) K175.1) f267 f270 (by simp [k1])) f268 e266 (argsL := [(.ref b152)]) (stk := [(.ref b152), (.ref b144)]) (st := []) own_pd_2 rfl rfl rfl (W := 0) rfl (by decide) (by decide) (by decide) (by decide) at_122 rfl ?_
            intro T269 L269 v269 X269 q269
            obtain ⟨rfl, N269, e269⟩ := q269
            have M269 := Fr.app M266 N269
            show OG.Go _ _ _ _ _ _ _ (T269.setTop (mkF m 125 #[.val (.int p1), .val (.int p2), .val (.int p3), .val (.int p4), .val (.int (1 : Int32)), .val (.ref w1), .val (.int (21 : Int32)), .val (.int vA), .val (.int vB), .val (.int vC), .val (.ref b144), .val (.ref b152), .val (.ref b163), .val (.int (1 : Int32)), .unset, .unset, .unset, .unset] [(.int (1 : Int32))]))
            refine OG.istore (Ls' := #[.val (.int p1), .val (.int p2), .val (.int p3), .val (.int p4), .val (.int (1 : Int32)), .val (.ref w1), .val (.int (21 : Int32)), .val (.int vA), .val (.int vB), .val (.int vC), .val (.ref b144), .val (.ref b152), .val (.ref b163), .val (.int (1 : Int32)), .val (.int (1 : Int32)), .unset, .unset, .unset]) X269 hx hby at_125 rfl rfl ?_
            refine OG.aload X269 hx hby at_127 rfl rfl rfl ?_
            refine OG.aload X269 hx hby at_129 rfl rfl rfl ?_
            have f272 := (Exa.keep (Exa.ext E163 Ea162) K175)
            refine OG.cV X269 hx hZ hby (by rw [hml]; rfl) hown (y := (⟨"com/example/tranchery/tranchery/rating/Rating", "meets", "(Lcom/example/tranchery/tranchery/rating/Rating;)Z"⟩ : MethodName)) (z := (⟨"com/example/tranchery/tranchery/rating/Rating", "meets", "(Lcom/example/tranchery/tranchery/rating/Rating;)Z"⟩ : MethodName)) (hw _ (List.mem_of_getElem? (i := 22) rfl)) (hw _ (List.mem_of_getElem? (i := 23) rfl)) (notFace_of_selects (args := #[]) (mvT hZ (hw _ (List.mem_of_getElem? (i := 25) rfl)))) (hw _ (List.mem_of_getElem? (i := 25) rfl)) (hw _ (List.mem_of_getElem? (i := 24) rfl)) (hw _ (List.mem_of_getElem? (i := 26) rfl)) (hw _ (List.mem_of_getElem? (i := 6) rfl)) (by decide) (own_rm_meets l Z a0 hw [] b152 b144 vB vA (1 : Int32) T175.heap n0 (Nat.le_trans (Nat.le_trans (Nat.le_trans (Nat.le_trans (Nat.le_trans (Nat.le_trans Z0 E144.1) K151.1) E152.1) K162.1) E163.1) K175.1) f270 f267 (by simp [k2])) f272 e269 (argsL := [(.ref b144)]) (stk := [(.ref b144), (.ref b152)]) (st := []) own_pd_2 rfl rfl rfl (W := 0) rfl (by decide) (by decide) (by decide) (by decide) at_131 rfl ?_
            intro T271 L271 v271 X271 q271
            obtain ⟨rfl, N271, e271⟩ := q271
            have M271 := Fr.app M269 N271
            show OG.Go _ _ _ _ _ _ _ (T271.setTop (mkF m 134 #[.val (.int p1), .val (.int p2), .val (.int p3), .val (.int p4), .val (.int (1 : Int32)), .val (.ref w1), .val (.int (21 : Int32)), .val (.int vA), .val (.int vB), .val (.int vC), .val (.ref b144), .val (.ref b152), .val (.ref b163), .val (.int (1 : Int32)), .val (.int (1 : Int32)), .unset, .unset, .unset] [(.int (1 : Int32))]))
            refine OG.istore (Ls' := #[.val (.int p1), .val (.int p2), .val (.int p3), .val (.int p4), .val (.int (1 : Int32)), .val (.ref w1), .val (.int (21 : Int32)), .val (.int vA), .val (.int vB), .val (.int vC), .val (.ref b144), .val (.ref b152), .val (.ref b163), .val (.int (1 : Int32)), .val (.int (1 : Int32)), .val (.int (1 : Int32)), .unset, .unset]) X271 hx hby at_134 rfl rfl ?_
            refine OG.aload X271 hx hby at_136 rfl rfl rfl ?_
            refine OG.aload X271 hx hby at_138 rfl rfl rfl ?_
            refine OG.cV X271 hx hZ hby (by rw [hml]; rfl) hown (y := (⟨"com/example/tranchery/tranchery/rating/Rating", "meets", "(Lcom/example/tranchery/tranchery/rating/Rating;)Z"⟩ : MethodName)) (z := (⟨"com/example/tranchery/tranchery/rating/Rating", "meets", "(Lcom/example/tranchery/tranchery/rating/Rating;)Z"⟩ : MethodName)) (hw _ (List.mem_of_getElem? (i := 22) rfl)) (hw _ (List.mem_of_getElem? (i := 23) rfl)) (notFace_of_selects (args := #[]) (mvT hZ (hw _ (List.mem_of_getElem? (i := 25) rfl)))) (hw _ (List.mem_of_getElem? (i := 25) rfl)) (hw _ (List.mem_of_getElem? (i := 24) rfl)) (hw _ (List.mem_of_getElem? (i := 26) rfl)) (hw _ (List.mem_of_getElem? (i := 6) rfl)) (by decide) (own_rm_meets l Z a0 hw [] b152 b163 vB vC (1 : Int32) T175.heap n0 (Nat.le_trans (Nat.le_trans (Nat.le_trans (Nat.le_trans (Nat.le_trans (Nat.le_trans Z0 E144.1) K151.1) E152.1) K162.1) E163.1) K175.1) f270 Fb175 (by simp [k3])) f272 e271 (argsL := [(.ref b163)]) (stk := [(.ref b163), (.ref b152)]) (st := []) own_pd_2 rfl rfl rfl (W := 0) rfl (by decide) (by decide) (by decide) (by decide) at_140 rfl ?_
            intro T273 L273 v273 X273 q273
            obtain ⟨rfl, N273, e273⟩ := q273
            have M273 := Fr.app M271 N273
            show OG.Go _ _ _ _ _ _ _ (T273.setTop (mkF m 143 #[.val (.int p1), .val (.int p2), .val (.int p3), .val (.int p4), .val (.int (1 : Int32)), .val (.ref w1), .val (.int (21 : Int32)), .val (.int vA), .val (.int vB), .val (.int vC), .val (.ref b144), .val (.ref b152), .val (.ref b163), .val (.int (1 : Int32)), .val (.int (1 : Int32)), .val (.int (1 : Int32)), .unset, .unset] [(.int (1 : Int32))]))
            refine OG.istore (Ls' := #[.val (.int p1), .val (.int p2), .val (.int p3), .val (.int p4), .val (.int (1 : Int32)), .val (.ref w1), .val (.int (21 : Int32)), .val (.int vA), .val (.int vB), .val (.int vC), .val (.ref b144), .val (.ref b152), .val (.ref b163), .val (.int (1 : Int32)), .val (.int (1 : Int32)), .val (.int (1 : Int32)), .val (.int (1 : Int32)), .unset]) X273 hx hby at_143 rfl rfl ?_
            refine OG.aload X273 hx hby at_145 rfl rfl rfl ?_
            refine OG.aload X273 hx hby at_147 rfl rfl rfl ?_
            refine OG.cV X273 hx hZ hby (by rw [hml]; rfl) hown (y := (⟨"com/example/tranchery/tranchery/rating/Rating", "meets", "(Lcom/example/tranchery/tranchery/rating/Rating;)Z"⟩ : MethodName)) (z := (⟨"com/example/tranchery/tranchery/rating/Rating", "meets", "(Lcom/example/tranchery/tranchery/rating/Rating;)Z"⟩ : MethodName)) (hw _ (List.mem_of_getElem? (i := 22) rfl)) (hw _ (List.mem_of_getElem? (i := 23) rfl)) (notFace_of_selects (args := #[]) (mvT hZ (hw _ (List.mem_of_getElem? (i := 25) rfl)))) (hw _ (List.mem_of_getElem? (i := 25) rfl)) (hw _ (List.mem_of_getElem? (i := 24) rfl)) (hw _ (List.mem_of_getElem? (i := 26) rfl)) (hw _ (List.mem_of_getElem? (i := 6) rfl)) (by decide) (own_rm_meets l Z a0 hw [] b144 b163 vA vC (0 : Int32) T175.heap n0 (Nat.le_trans (Nat.le_trans (Nat.le_trans (Nat.le_trans (Nat.le_trans (Nat.le_trans Z0 E144.1) K151.1) E152.1) K162.1) E163.1) K175.1) f267 Fb175 (by simp [k4])) f268 e273 (argsL := [(.ref b163)]) (stk := [(.ref b163), (.ref b144)]) (st := []) own_pd_2 rfl rfl rfl (W := 0) rfl (by decide) (by decide) (by decide) (by decide) at_149 rfl ?_
            intro T274 L274 v274 X274 q274
            obtain ⟨rfl, N274, e274⟩ := q274
            have M274 := Fr.app M273 N274
            show OG.Go _ _ _ _ _ _ _ (T274.setTop (mkF m 152 #[.val (.int p1), .val (.int p2), .val (.int p3), .val (.int p4), .val (.int (1 : Int32)), .val (.ref w1), .val (.int (21 : Int32)), .val (.int vA), .val (.int vB), .val (.int vC), .val (.ref b144), .val (.ref b152), .val (.ref b163), .val (.int (1 : Int32)), .val (.int (1 : Int32)), .val (.int (1 : Int32)), .val (.int (1 : Int32)), .unset] [(.int (0 : Int32))]))
            refine OG.istore (Ls' := #[.val (.int p1), .val (.int p2), .val (.int p3), .val (.int p4), .val (.int (1 : Int32)), .val (.ref w1), .val (.int (21 : Int32)), .val (.int vA), .val (.int vB), .val (.int vC), .val (.ref b144), .val (.ref b152), .val (.ref b163), .val (.int (1 : Int32)), .val (.int (1 : Int32)), .val (.int (1 : Int32)), .val (.int (1 : Int32)), .val (.int (0 : Int32))]) X274 hx hby at_152 rfl rfl ?_
            refine OG.iload X274 hx hby at_154 rfl rfl ?_
            refine OG.ifYes (pc' := 161) X274 hx hby at_156 (feq (by decide)).2 (by decide) (by decide) ?_
            refine OG.iload X274 hx hby at_161 rfl rfl ?_
            refine OG.ifYes (pc' := 173) X274 hx hby at_163 (feq (by decide)).2 (by decide) (by decide) ?_
            refine OG.iload X274 hx hby at_173 rfl rfl ?_
            refine OG.ifNo X274 hx hby at_175 (feq (by decide)).1 rfl ?_
            refine OG.iload X274 hx hby at_178 rfl rfl ?_
            refine OG.ifNo X274 hx hby at_180 (feq (by decide)).1 rfl ?_
            refine OG.iconst (v := (1 : Int32)) X274 hx hby at_183 (by decide) rfl ?_
            refine OG.goto (pc' := 188) X274 hx hby at_184 (by decide) (by decide) ?_
            refine OG.iload X274 hx hby at_188 rfl rfl ?_
            refine OG.iload X274 hx hby at_190 rfl rfl ?_
            refine OG.icmpNo X274 hx hby at_192 (teq k0).2 rfl ?_
            refine OG.iconst (v := (1 : Int32)) X274 hx hby at_195 (by decide) rfl ?_
            refine OG.goto (pc' := 200) X274 hx hby at_196 (by decide) (by decide) ?_
            refine OG.icmpYes (pc' := 205) X274 hx hby at_200 (teq (by decide)).1 (by decide) (by decide) ?_
            refine OG.iload X274 hx hby at_205 rfl rfl ?_
            refine OG.iload X274 hx hby at_207 rfl rfl ?_
            refine OG.icmpYes (pc' := 224) X274 hx hby at_209 (flt k2).2.1 (by decide) (by decide) ?_
            refine OG.iload X274 hx hby at_224 rfl rfl ?_
            refine OG.iload X274 hx hby at_226 rfl rfl ?_
            refine OG.icmpYes (pc' := 243) X274 hx hby at_228 (flt k1).2.1 (by decide) (by decide) ?_
            refine OG.iload X274 hx hby at_243 rfl rfl ?_
            refine OG.ifNo X274 hx hby at_245 (feq (by decide)).1 rfl ?_
            refine OG.iload X274 hx hby at_248 rfl rfl ?_
            refine OG.ifNo X274 hx hby at_250 (feq (by decide)).1 rfl ?_
            refine OG.iload X274 hx hby at_253 rfl rfl ?_
            refine OG.ifNo X274 hx hby at_255 (teq (by decide)).2 rfl ?_
            refine OG.iconst (v := (0 : Int32)) X274 hx hby at_258 (by decide) rfl ?_
            refine OG.retZ X274 hx hby Bd.returns (by simp) at_259 Bd.notSynchronized (by decide) (by decide) ?_
            exfalso
            simp only [Int32.lt_iff_toInt_lt, ← Int32.toInt_inj] at k0 k1 k2 k3 k4
            omega
          · refine OG.aload X175 hx hby at_109 rfl rfl rfl ?_
            refine OG.aload X175 hx hby at_111 rfl rfl rfl ?_
            have f276 := (Fld.keep (Fld.ext E163 (Fld.keep (Fld.ext E152 Fb151) K162 (ninS ne157 nin0))) K175 (ninS ne169 nin0))
            have f277 := (Exa.keep (Exa.ext E163 f168) K175)
            refine OG.cV X175 hx hZ hby (by rw [hml]; rfl) hown (y := (⟨"com/example/tranchery/tranchery/rating/Rating", "meets", "(Lcom/example/tranchery/tranchery/rating/Rating;)Z"⟩ : MethodName)) (z := (⟨"com/example/tranchery/tranchery/rating/Rating", "meets", "(Lcom/example/tranchery/tranchery/rating/Rating;)Z"⟩ : MethodName)) (hw _ (List.mem_of_getElem? (i := 22) rfl)) (hw _ (List.mem_of_getElem? (i := 23) rfl)) (notFace_of_selects (args := #[]) (mvT hZ (hw _ (List.mem_of_getElem? (i := 25) rfl)))) (hw _ (List.mem_of_getElem? (i := 25) rfl)) (hw _ (List.mem_of_getElem? (i := 24) rfl)) (hw _ (List.mem_of_getElem? (i := 26) rfl)) (hw _ (List.mem_of_getElem? (i := 6) rfl)) (by decide) (own_rm_meets l Z a0 hw [] b144 b144 vA vA (1 : Int32) T175.heap n0 (Nat.le_trans (Nat.le_trans (Nat.le_trans (Nat.le_trans (Nat.le_trans (Nat.le_trans Z0 E144.1) K151.1) E152.1) K162.1) E163.1) K175.1) f276 f276 (by simp)) f277 rfl (argsL := [(.ref b144)]) (stk := [(.ref b144), (.ref b144)]) (st := []) own_pd_2 rfl rfl rfl (W := 0) rfl (by decide) (by decide) (by decide) (by decide) at_113 rfl ?_
            intro T275 L275 v275 X275 q275
            obtain ⟨rfl, N275, e275⟩ := q275
            have M275 := Fr.app M175 N275
            show OG.Go _ _ _ _ _ _ _ (T275.setTop (mkF m 116 #[.val (.int p1), .val (.int p2), .val (.int p3), .val (.int p4), .val (.int (1 : Int32)), .val (.ref w1), .val (.int (21 : Int32)), .val (.int vA), .val (.int vB), .val (.int vC), .val (.ref b144), .val (.ref b152), .val (.ref b163), .unset, .unset, .unset, .unset, .unset] [(.int (1 : Int32))]))
            refine OG.istore (Ls' := #[.val (.int p1), .val (.int p2), .val (.int p3), .val (.int p4), .val (.int (1 : Int32)), .val (.ref w1), .val (.int (21 : Int32)), .val (.int vA), .val (.int vB), .val (.int vC), .val (.ref b144), .val (.ref b152), .val (.ref b163), .val (.int (1 : Int32)), .unset, .unset, .unset, .unset]) X275 hx hby at_116 rfl rfl ?_
            refine OG.aload X275 hx hby at_118 rfl rfl rfl ?_
            refine OG.aload X275 hx hby at_120 rfl rfl rfl ?_
            have f279 := (Fld.keep (Fld.ext E163 Fb162) K175 (ninS ne170 nin0))
            refine OG.cV X275 hx hZ hby (by rw [hml]; rfl) hown (y := (⟨"com/example/tranchery/tranchery/rating/Rating", "meets", "(Lcom/example/tranchery/tranchery/rating/Rating;)Z"⟩ : MethodName)) (z := (⟨"com/example/tranchery/tranchery/rating/Rating", "meets", "(Lcom/example/tranchery/tranchery/rating/Rating;)Z"⟩ : MethodName)) (hw _ (List.mem_of_getElem? (i := 22) rfl)) (hw _ (List.mem_of_getElem? (i := 23) rfl)) (notFace_of_selects (args := #[]) (mvT hZ (hw _ (List.mem_of_getElem? (i := 25) rfl)))) (hw _ (List.mem_of_getElem? (i := 25) rfl)) (hw _ (List.mem_of_getElem? (i := 24) rfl)) (hw _ (List.mem_of_getElem? (i := 26) rfl)) (hw _ (List.mem_of_getElem? (i := 6) rfl)) (by decide) (own_rm_meets l Z a0 hw [] b144 b152 vA vB (1 : Int32) T175.heap n0 (Nat.le_trans (Nat.le_trans (Nat.le_trans (Nat.le_trans (Nat.le_trans (Nat.le_trans Z0 E144.1) K151.1) E152.1) K162.1) E163.1) K175.1) f276 f279 (by simp [k1])) f277 e275 (argsL := [(.ref b152)]) (stk := [(.ref b152), (.ref b144)]) (st := []) own_pd_2 rfl rfl rfl (W := 0) rfl (by decide) (by decide) (by decide) (by decide) at_122 rfl ?_
            intro T278 L278 v278 X278 q278
            obtain ⟨rfl, N278, e278⟩ := q278
            have M278 := Fr.app M275 N278
            show OG.Go _ _ _ _ _ _ _ (T278.setTop (mkF m 125 #[.val (.int p1), .val (.int p2), .val (.int p3), .val (.int p4), .val (.int (1 : Int32)), .val (.ref w1), .val (.int (21 : Int32)), .val (.int vA), .val (.int vB), .val (.int vC), .val (.ref b144), .val (.ref b152), .val (.ref b163), .val (.int (1 : Int32)), .unset, .unset, .unset, .unset] [(.int (1 : Int32))]))
            refine OG.istore (Ls' := #[.val (.int p1), .val (.int p2), .val (.int p3), .val (.int p4), .val (.int (1 : Int32)), .val (.ref w1), .val (.int (21 : Int32)), .val (.int vA), .val (.int vB), .val (.int vC), .val (.ref b144), .val (.ref b152), .val (.ref b163), .val (.int (1 : Int32)), .val (.int (1 : Int32)), .unset, .unset, .unset]) X278 hx hby at_125 rfl rfl ?_
            refine OG.aload X278 hx hby at_127 rfl rfl rfl ?_
            refine OG.aload X278 hx hby at_129 rfl rfl rfl ?_
            have f281 := (Exa.keep (Exa.ext E163 Ea162) K175)
            refine OG.cV X278 hx hZ hby (by rw [hml]; rfl) hown (y := (⟨"com/example/tranchery/tranchery/rating/Rating", "meets", "(Lcom/example/tranchery/tranchery/rating/Rating;)Z"⟩ : MethodName)) (z := (⟨"com/example/tranchery/tranchery/rating/Rating", "meets", "(Lcom/example/tranchery/tranchery/rating/Rating;)Z"⟩ : MethodName)) (hw _ (List.mem_of_getElem? (i := 22) rfl)) (hw _ (List.mem_of_getElem? (i := 23) rfl)) (notFace_of_selects (args := #[]) (mvT hZ (hw _ (List.mem_of_getElem? (i := 25) rfl)))) (hw _ (List.mem_of_getElem? (i := 25) rfl)) (hw _ (List.mem_of_getElem? (i := 24) rfl)) (hw _ (List.mem_of_getElem? (i := 26) rfl)) (hw _ (List.mem_of_getElem? (i := 6) rfl)) (by decide) (own_rm_meets l Z a0 hw [] b152 b144 vB vA (1 : Int32) T175.heap n0 (Nat.le_trans (Nat.le_trans (Nat.le_trans (Nat.le_trans (Nat.le_trans (Nat.le_trans Z0 E144.1) K151.1) E152.1) K162.1) E163.1) K175.1) f279 f276 (by simp [k2])) f281 e278 (argsL := [(.ref b144)]) (stk := [(.ref b144), (.ref b152)]) (st := []) own_pd_2 rfl rfl rfl (W := 0) rfl (by decide) (by decide) (by decide) (by decide) at_131 rfl ?_
            intro T280 L280 v280 X280 q280
            obtain ⟨rfl, N280, e280⟩ := q280
            have M280 := Fr.app M278 N280
            show OG.Go _ _ _ _ _ _ _ (T280.setTop (mkF m 134 #[.val (.int p1), .val (.int p2), .val (.int p3), .val (.int p4), .val (.int (1 : Int32)), .val (.ref w1), .val (.int (21 : Int32)), .val (.int vA), .val (.int vB), .val (.int vC), .val (.ref b144), .val (.ref b152), .val (.ref b163), .val (.int (1 : Int32)), .val (.int (1 : Int32)), .unset, .unset, .unset] [(.int (1 : Int32))]))
            refine OG.istore (Ls' := #[.val (.int p1), .val (.int p2), .val (.int p3), .val (.int p4), .val (.int (1 : Int32)), .val (.ref w1), .val (.int (21 : Int32)), .val (.int vA), .val (.int vB), .val (.int vC), .val (.ref b144), .val (.ref b152), .val (.ref b163), .val (.int (1 : Int32)), .val (.int (1 : Int32)), .val (.int (1 : Int32)), .unset, .unset]) X280 hx hby at_134 rfl rfl ?_
            refine OG.aload X280 hx hby at_136 rfl rfl rfl ?_
            refine OG.aload X280 hx hby at_138 rfl rfl rfl ?_
            refine OG.cV X280 hx hZ hby (by rw [hml]; rfl) hown (y := (⟨"com/example/tranchery/tranchery/rating/Rating", "meets", "(Lcom/example/tranchery/tranchery/rating/Rating;)Z"⟩ : MethodName)) (z := (⟨"com/example/tranchery/tranchery/rating/Rating", "meets", "(Lcom/example/tranchery/tranchery/rating/Rating;)Z"⟩ : MethodName)) (hw _ (List.mem_of_getElem? (i := 22) rfl)) (hw _ (List.mem_of_getElem? (i := 23) rfl)) (notFace_of_selects (args := #[]) (mvT hZ (hw _ (List.mem_of_getElem? (i := 25) rfl)))) (hw _ (List.mem_of_getElem? (i := 25) rfl)) (hw _ (List.mem_of_getElem? (i := 24) rfl)) (hw _ (List.mem_of_getElem? (i := 26) rfl)) (hw _ (List.mem_of_getElem? (i := 6) rfl)) (by decide) (own_rm_meets l Z a0 hw [] b152 b163 vB vC (1 : Int32) T175.heap n0 (Nat.le_trans (Nat.le_trans (Nat.le_trans (Nat.le_trans (Nat.le_trans (Nat.le_trans Z0 E144.1) K151.1) E152.1) K162.1) E163.1) K175.1) f279 Fb175 (by simp [k3])) f281 e280 (argsL := [(.ref b163)]) (stk := [(.ref b163), (.ref b152)]) (st := []) own_pd_2 rfl rfl rfl (W := 0) rfl (by decide) (by decide) (by decide) (by decide) at_140 rfl ?_
            intro T282 L282 v282 X282 q282
            obtain ⟨rfl, N282, e282⟩ := q282
            have M282 := Fr.app M280 N282
            show OG.Go _ _ _ _ _ _ _ (T282.setTop (mkF m 143 #[.val (.int p1), .val (.int p2), .val (.int p3), .val (.int p4), .val (.int (1 : Int32)), .val (.ref w1), .val (.int (21 : Int32)), .val (.int vA), .val (.int vB), .val (.int vC), .val (.ref b144), .val (.ref b152), .val (.ref b163), .val (.int (1 : Int32)), .val (.int (1 : Int32)), .val (.int (1 : Int32)), .unset, .unset] [(.int (1 : Int32))]))
            refine OG.istore (Ls' := #[.val (.int p1), .val (.int p2), .val (.int p3), .val (.int p4), .val (.int (1 : Int32)), .val (.ref w1), .val (.int (21 : Int32)), .val (.int vA), .val (.int vB), .val (.int vC), .val (.ref b144), .val (.ref b152), .val (.ref b163), .val (.int (1 : Int32)), .val (.int (1 : Int32)), .val (.int (1 : Int32)), .val (.int (1 : Int32)), .unset]) X282 hx hby at_143 rfl rfl ?_
            refine OG.aload X282 hx hby at_145 rfl rfl rfl ?_
            refine OG.aload X282 hx hby at_147 rfl rfl rfl ?_
            refine OG.cV X282 hx hZ hby (by rw [hml]; rfl) hown (y := (⟨"com/example/tranchery/tranchery/rating/Rating", "meets", "(Lcom/example/tranchery/tranchery/rating/Rating;)Z"⟩ : MethodName)) (z := (⟨"com/example/tranchery/tranchery/rating/Rating", "meets", "(Lcom/example/tranchery/tranchery/rating/Rating;)Z"⟩ : MethodName)) (hw _ (List.mem_of_getElem? (i := 22) rfl)) (hw _ (List.mem_of_getElem? (i := 23) rfl)) (notFace_of_selects (args := #[]) (mvT hZ (hw _ (List.mem_of_getElem? (i := 25) rfl)))) (hw _ (List.mem_of_getElem? (i := 25) rfl)) (hw _ (List.mem_of_getElem? (i := 24) rfl)) (hw _ (List.mem_of_getElem? (i := 26) rfl)) (hw _ (List.mem_of_getElem? (i := 6) rfl)) (by decide) (own_rm_meets l Z a0 hw [] b144 b163 vA vC (1 : Int32) T175.heap n0 (Nat.le_trans (Nat.le_trans (Nat.le_trans (Nat.le_trans (Nat.le_trans (Nat.le_trans Z0 E144.1) K151.1) E152.1) K162.1) E163.1) K175.1) f276 Fb175 (by simp [k4])) f277 e282 (argsL := [(.ref b163)]) (stk := [(.ref b163), (.ref b144)]) (st := []) own_pd_2 rfl rfl rfl (W := 0) rfl (by decide) (by decide) (by decide) (by decide) at_149 rfl ?_
            intro T283 L283 v283 X283 q283
            obtain ⟨rfl, N283, e283⟩ := q283
            have M283 := Fr.app M282 N283
            show OG.Go _ _ _ _ _ _ _ (T283.setTop (mkF m 152 #[.val (.int p1), .val (.int p2), .val (.int p3), .val (.int p4), .val (.int (1 : Int32)), .val (.ref w1), .val (.int (21 : Int32)), .val (.int vA), .val (.int vB), .val (.int vC), .val (.ref b144), .val (.ref b152), .val (.ref b163), .val (.int (1 : Int32)), .val (.int (1 : Int32)), .val (.int (1 : Int32)), .val (.int (1 : Int32)), .unset] [(.int (1 : Int32))]))
            refine OG.istore (Ls' := #[.val (.int p1), .val (.int p2), .val (.int p3), .val (.int p4), .val (.int (1 : Int32)), .val (.ref w1), .val (.int (21 : Int32)), .val (.int vA), .val (.int vB), .val (.int vC), .val (.ref b144), .val (.ref b152), .val (.ref b163), .val (.int (1 : Int32)), .val (.int (1 : Int32)), .val (.int (1 : Int32)), .val (.int (1 : Int32)), .val (.int (1 : Int32))]) X283 hx hby at_152 rfl rfl ?_
            refine OG.iload X283 hx hby at_154 rfl rfl ?_
            refine OG.ifYes (pc' := 161) X283 hx hby at_156 (feq (by decide)).2 (by decide) (by decide) ?_
            refine OG.iload X283 hx hby at_161 rfl rfl ?_
            refine OG.ifYes (pc' := 173) X283 hx hby at_163 (feq (by decide)).2 (by decide) (by decide) ?_
            refine OG.iload X283 hx hby at_173 rfl rfl ?_
            refine OG.ifNo X283 hx hby at_175 (feq (by decide)).1 rfl ?_
            refine OG.iload X283 hx hby at_178 rfl rfl ?_
            refine OG.ifNo X283 hx hby at_180 (feq (by decide)).1 rfl ?_
            refine OG.iconst (v := (1 : Int32)) X283 hx hby at_183 (by decide) rfl ?_
            refine OG.goto (pc' := 188) X283 hx hby at_184 (by decide) (by decide) ?_
            refine OG.iload X283 hx hby at_188 rfl rfl ?_
            refine OG.iload X283 hx hby at_190 rfl rfl ?_
            refine OG.icmpNo X283 hx hby at_192 (teq k0).2 rfl ?_
            refine OG.iconst (v := (1 : Int32)) X283 hx hby at_195 (by decide) rfl ?_
            refine OG.goto (pc' := 200) X283 hx hby at_196 (by decide) (by decide) ?_
            refine OG.icmpYes (pc' := 205) X283 hx hby at_200 (teq (by decide)).1 (by decide) (by decide) ?_
            refine OG.iload X283 hx hby at_205 rfl rfl ?_
            refine OG.iload X283 hx hby at_207 rfl rfl ?_
            refine OG.icmpYes (pc' := 224) X283 hx hby at_209 (flt k2).2.1 (by decide) (by decide) ?_
            refine OG.iload X283 hx hby at_224 rfl rfl ?_
            refine OG.iload X283 hx hby at_226 rfl rfl ?_
            refine OG.icmpYes (pc' := 243) X283 hx hby at_228 (flt k1).2.1 (by decide) (by decide) ?_
            refine OG.iload X283 hx hby at_243 rfl rfl ?_
            refine OG.ifNo X283 hx hby at_245 (feq (by decide)).1 rfl ?_
            refine OG.iload X283 hx hby at_248 rfl rfl ?_
            refine OG.ifNo X283 hx hby at_250 (feq (by decide)).1 rfl ?_
            refine OG.iload X283 hx hby at_253 rfl rfl ?_
            refine OG.ifYes (pc' := 260) X283 hx hby at_255 (feq (by decide)).2 (by decide) (by decide) ?_
            refine OG.iconst (v := (1 : Int32)) X283 hx hby at_260 (by decide) rfl ?_
            refine OG.retZ X283 hx hby Bd.returns (by simp) at_261 Bd.notSynchronized (by decide) (by decide) ?_
            exact ⟨rfl, M283⟩
set_option maxRecDepth 65536 in
set_option maxHeartbeats 40000000 in
theorem comes_1 {Post : Tables → Env → Array Value → State → Outcome → State → Prop} (hpost : ∀ tb e args s v u, (limb_1_1.after args s (.returned v) u = true ∧ limb_1_2.after args s (.returned v) u = true ∧ True) → FrameEnd s (.returned v) u (Jvm.fieldLocs frame_1_writes args s ++ Jvm.arrayLocs frame_1_arrays args s ++ Jvm.staticLocs frame_1_statics s) 16 128 → Post tb e args s (.returned v) u) :
    ArmFor flags0 classFile x code maxLocals ret World_1 tables_1 room_1 Calls_1 rest_1 Pre_1 Post := by
  intro l hfl _ _ p e ha hc hk s m args below hf hA hF happ hP
  obtain ⟨hcalls, hrest, hpre⟩ := hP
  obtain ⟨-, -, -, hnamed, -, -, -, hat⟩ := (Spec.applies_iff hf).mp happ
  obtain ⟨hg, hn⟩ := and_e (Cond.before_iff.mp (show (Jvm.Cond.and given_1 narrow_1).before args s = true from hpre))
  obtain ⟨gc, gr0⟩ := and_e hg
  obtain ⟨ga0, gr1⟩ := and_e gr0
  obtain ⟨ga1, gr2⟩ := and_e gr1
  obtain ⟨ga2, gr3⟩ := and_e gr2
  obtain ⟨w0, w1, w2, w3, rfl⟩ : ∃ w0 w1 w2 w3 : Value, args = #[w0, w1, w2, w3] := by
    have hs : args.size = 4 := by simpa [Cond.value, given_1] using gc
    obtain ⟨L⟩ := args
    match L, hs with
    | [w0, w1, w2, w3], _ => exact ⟨w0, w1, w2, w3, rfl⟩
  have hw := fun d (hd : d ∈ tables_1) => atoms_spec (ws := Jvm.Cond.code x code maxLocals ret :: tables_1) hat d (List.mem_cons_of_mem _ hd)
  have hfit : Fit s := fun {y c} hc i hi => by
    obtain ⟨ha, rfl⟩ := Array.getElem?_eq_some_iff.mp hc
    have q := List.all_eq_true.mp ((Array.all_eq_true_iff_forall_mem.mp hF) _ (Array.getElem_mem ha)) i (List.mem_range.mpr hi)
    simpa [Array.getElem?_eq_getElem hi] using q
  obtain ⟨i0, ei0⟩ := is_v ga0
  obtain rfl : w0 = (.int i0) := Option.some.inj ei0
  obtain ⟨i1, ei1⟩ := is_v ga1
  obtain rfl : w1 = (.int i1) := Option.some.inj ei1
  obtain ⟨i2, ei2⟩ := is_v ga2
  obtain rfl : w2 = (.int i2) := Option.some.inj ei2
  obtain ⟨i3, ei3⟩ := is_v gr3
  obtain rfl : w3 = (.int i3) := Option.some.inj ei3
  obtain ⟨cj0, cr0⟩ := and_e hn
  obtain ⟨w_S_AND_P, ev_S_AND_P⟩ := exa_v cj0
  have E_S_AND_P := Exa.start ev_S_AND_P cj0
  have S_S_AND_P := Sta.start ev_S_AND_P (Or.inr ⟨(hw _ (List.mem_of_getElem? (i := 1) rfl)), (hw _ (List.mem_of_getElem? (i := 2) rfl))⟩)
  obtain ⟨w_MOODYS, ev_MOODYS⟩ := exa_v cr0
  have E_MOODYS := Exa.start ev_MOODYS cr0
  have S_MOODYS := Sta.start ev_MOODYS (Or.inr ⟨(hw _ (List.mem_of_getElem? (i := 1) rfl)), (hw _ (List.mem_of_getElem? (i := 28) rfl))⟩)
  obtain ⟨n, o, h1, h2, h3, _, L, rfl, ⟨rfl, N⟩, hq⟩ := own_rm_law l s _ hw tables_1 i0 i1 i2 i3 w_MOODYS w_S_AND_P s.heap s.heap.size (Nat.le_refl _) S_MOODYS S_S_AND_P E_MOODYS E_S_AND_P p e ha hc hk s m _ below hf ((Spec.applies_iff_loose hf).mp happ).1 ⟨rfl, State.Warmed39.refl s, rfl⟩ trivial
  refine ⟨n, _, h1, h2, h3, hpost _ _ _ _ _ _ ⟨Cond.after_iff.mpr rfl, Cond.after_iff.mpr (eq_i res_at (Term.int_eval (1)) rfl), trivial⟩ ⟨hq.1, hq.2.1, (hq.2.2.sift fun y hy => Or.inr (N y hy)).mono (by decide) (by decide)⟩⟩
theorem main_1_1 : Claimed_1_1 := comes_1 fun _ _ _ _ _ _ h hF => ⟨h.1, hF⟩
theorem main_1_2 : Claimed_1_2 := comes_1 fun _ _ _ _ _ _ h hF => ⟨h.2.1, hF⟩
end Jvm.Pilot.@@N@@
namespace Jvm.Pilot.@@N@@
open Jvm Jvm.ClassFile Sem Op Lib Jvm.Free Jvm.Stand Jvm.Pilot.@@N@@.Jvm.D
/-! MADE BY PROGRAM (witnessworld.py) out of the Statement's table words and the real class files: 14 classes; the members and pool entries that the words name. The judged class is class 1, her method 1. -/
namespace start1
open Jvm.ClassFile
def u (s : String) : CpInfo := .utf8 (stringToUtf16 s)
/-- a pool by its gaps: so many unusable entries, then the entry; so many at the end -/
def gap : Nat → List CpInfo → List CpInfo
  | 0, r => r
  | n + 1, r => .unusable :: gap n r
def poolList (es : List (Nat × CpInfo)) (last : Nat) : List CpInfo := es.foldr (fun e r => gap e.1 (e.2 :: r)) (gap last [])
def pool (es : List (Nat × CpInfo)) (last : Nat) : Array CpInfo := ⟨poolList es last⟩
def fileOf (pool : Array CpInfo) (this : Nat) (attrs : Array Attribute := #[]) (ms : Array MethodInfo := #[]) (fl : Nat := 33) (sup : Nat := 0) (ifs : Array Nat := #[]) (fds : Array FieldInfo := #[]) : ClassFile where
  minorVersion := 0
  majorVersion := 65
  constantPool := pool
  accessFlags := fl
  thisClass := this
  superClass := sup
  interfaces := ifs
  fields := fds
  methods := ms
  attributes := attrs
def plain (name : String) (sup : Option ClassId) : Class where
  name := name
  kind := .ordinary
  loader := none
  accessFlags := 33
  super := sup
  interfaces := #[]
  cf := none
  fields := #[]
  methods := #[]
  instanceTypes := #[]
  staticTypes := #[]
  resolved := #[]
  callSites := []
  init := .initialized
  statics := none
  mirror := none

def pool0 : Array CpInfo := pool [(5, u "<init>"), (0, u "()V"), (1, .class_ 10), (1, u "java/lang/Object")] 113

def k0c0 : Code := { maxStack := 0, maxLocals := 1, code := object_method_1_code, exceptionTable := #[], attributes := #[] }
def k0m0 : Method := { name := "<init>", desc := "()V", sig := { parameters := [], returnType := none }, accessFlags := 1, code := some k0c0 }
/-- java/lang/Object -/
def k0 : Class := { plain "java/lang/Object" none with
  accessFlags := 33
  interfaces := #[]
  cf := some (fileOf pool0 8 #[] #[{ accessFlags := 1, nameIndex := 5, descriptorIndex := 6, attributes := #[] }] 33 0 #[] #[])
  fields := #[]
  methods := #[k0m0]
  instanceTypes := #[]
  staticTypes := #[]
  resolved := Array.replicate 124 none
  statics := none }

def pool1 : Array CpInfo := pool [(2, .class_ 4), (1, u "java/lang/Object"), (0, u "<init>"), (0, u "()V"), (0, .fieldref 8 9), (0, .class_ 10), (0, .nameAndType 11 12), (0, u "com/example/tranchery/tranchery/rating/Agency"), (0, u "MOODYS"), (0, u "Lcom/example/tranchery/tranchery/rating/Agency;"), (0, .fieldref 8 14), (0, .nameAndType 15 12), (0, u "S_AND_P"), (0, .integer 2147483647), (0, .class_ 18), (0, u "com/example/tranchery/tranchery/rating/Rating"), (0, .methodref 17 20), (0, .nameAndType 5 21), (0, u "(Lcom/example/tranchery/tranchery/rating/Agency;I)V"), (0, .methodref 17 23), (0, .nameAndType 24 25), (0, u "meets"), (0, u "(Lcom/example/tranchery/tranchery/rating/Rating;)Z"), (0, .class_ 27), (0, u "com/example/tranchery/tranchery/rating/RatingMeetsPinLaw"), (2, u "law"), (0, u "(IIII)Z")] 3

def k1m0 : Method := { name := "<init>", desc := "()V", sig := { parameters := [], returnType := none }, accessFlags := 1, code := none }
def k1c1 : Code := { maxStack := 4, maxLocals := 18, code := code, exceptionTable := #[], attributes := #[] }
def k1m1 : Method := { name := "law", desc := "(IIII)Z", sig := { parameters := [.int, .int, .int, .int], returnType := some .boolean }, accessFlags := 9, code := some k1c1 }
/-- com/example/tranchery/tranchery/rating/RatingMeetsPinLaw -/
def k1 : Class := { plain "com/example/tranchery/tranchery/rating/RatingMeetsPinLaw" (some 0) with
  accessFlags := 49
  interfaces := #[]
  cf := some (fileOf pool1 26 #[] #[{ accessFlags := 1, nameIndex := 5, descriptorIndex := 6, attributes := #[] }, { accessFlags := 9, nameIndex := 30, descriptorIndex := 31, attributes := #[] }] 49 2 #[] #[])
  fields := #[]
  methods := #[k1m0, k1m1]
  instanceTypes := #[]
  staticTypes := #[]
  resolved := Array.replicate 35 none
  statics := none }

def pool2 : Array CpInfo := pool [(1, .class_ 2), (0, u "java/lang/constant/Constable"), (0, .class_ 4), (0, u "java/lang/Object")] 6

/-- java/lang/constant/Constable -/
def k2 : Class := { plain "java/lang/constant/Constable" (some 0) with
  accessFlags := 1537
  interfaces := #[]
  cf := some (fileOf pool2 1 #[] #[] 1537 3 #[] #[])
  fields := #[]
  methods := #[]
  instanceTypes := #[]
  staticTypes := #[]
  resolved := Array.replicate 11 none
  statics := none }

def pool3 : Array CpInfo := pool [(1, .class_ 2), (0, u "java/lang/Comparable"), (0, .class_ 4), (0, u "java/lang/Object")] 7

/-- java/lang/Comparable -/
def k3 : Class := { plain "java/lang/Comparable" (some 0) with
  accessFlags := 1537
  interfaces := #[]
  cf := some (fileOf pool3 1 #[] #[] 1537 3 #[] #[])
  fields := #[]
  methods := #[]
  instanceTypes := #[]
  staticTypes := #[]
  resolved := Array.replicate 12 none
  statics := none }

def pool4 : Array CpInfo := pool [(1, .class_ 2), (0, u "java/io/Serializable"), (0, .class_ 4), (0, u "java/lang/Object")] 2

/-- java/io/Serializable -/
def k4 : Class := { plain "java/io/Serializable" (some 0) with
  accessFlags := 1537
  interfaces := #[]
  cf := some (fileOf pool4 1 #[] #[] 1537 3 #[] #[])
  fields := #[]
  methods := #[]
  instanceTypes := #[]
  staticTypes := #[]
  resolved := Array.replicate 7 none
  statics := none }

def pool5 : Array CpInfo := pool [(2, .class_ 4), (1, u "java/lang/Enum"), (0, u "name"), (0, u "Ljava/lang/String;"), (2, u "ordinal"), (0, u "I"), (1, .class_ 14), (1, u "java/lang/Object"), (4, u "hash"), (86, .class_ 108), (1, u "java/lang/Enum$EnumDesc"), (2, .class_ 112), (0, u "java/lang/constant/Constable"), (0, .class_ 114), (0, u "java/lang/Comparable"), (0, .class_ 116), (0, u "java/io/Serializable")] 87

/-- java/lang/Enum -/
def k5 : Class := { plain "java/lang/Enum" (some 0) with
  accessFlags := 1057
  interfaces := #[2, 3, 4]
  cf := some (fileOf pool5 2 #[.nestMembers #[106]] #[] 1057 12 #[111, 113, 115] #[{ accessFlags := 18, nameIndex := 5, descriptorIndex := 6, attributes := #[] }, { accessFlags := 18, nameIndex := 9, descriptorIndex := 10, attributes := #[] }, { accessFlags := 2, nameIndex := 19, descriptorIndex := 10, attributes := #[] }])
  fields := #[{ name := "name", type := (.object "java/lang/String"), accessFlags := 18, slot := 0, constantValue := 0 }, { name := "ordinal", type := .int, accessFlags := 18, slot := 1, constantValue := 0 }, { name := "hash", type := .int, accessFlags := 2, slot := 2, constantValue := 0 }]
  methods := #[]
  instanceTypes := #[(.object "java/lang/String"), .int, .int]
  staticTypes := #[]
  resolved := Array.replicate 204 none
  statics := none }

def pool6 : Array CpInfo := pool [(1, .class_ 2), (0, u "com/example/tranchery/tranchery/rating/Agency"), (2, u "S_AND_P"), (0, u "Lcom/example/tranchery/tranchery/rating/Agency;"), (2, u "MOODYS"), (2, u "$VALUES"), (0, u "[Lcom/example/tranchery/tranchery/rating/Agency;"), (6, .class_ 22), (1, u "java/lang/Enum"), (14, u "grades"), (0, u "Ljava/util/List;")] 167

/-- com/example/tranchery/tranchery/rating/Agency -/
def k6 : Class := { plain "com/example/tranchery/tranchery/rating/Agency" (some 5) with
  accessFlags := 16433
  interfaces := #[]
  cf := some (fileOf pool6 1 #[] #[] 16433 20 #[] #[{ accessFlags := 16409, nameIndex := 5, descriptorIndex := 6, attributes := #[] }, { accessFlags := 16409, nameIndex := 9, descriptorIndex := 6, attributes := #[] }, { accessFlags := 18, nameIndex := 37, descriptorIndex := 38, attributes := #[] }, { accessFlags := 4122, nameIndex := 12, descriptorIndex := 13, attributes := #[] }])
  fields := #[{ name := "S_AND_P", type := (.object "com/example/tranchery/tranchery/rating/Agency"), accessFlags := 16409, slot := 0, constantValue := 0 }, { name := "MOODYS", type := (.object "com/example/tranchery/tranchery/rating/Agency"), accessFlags := 16409, slot := 1, constantValue := 0 }, { name := "grades", type := (.object "java/util/List"), accessFlags := 18, slot := 3, constantValue := 0 }, { name := "$VALUES", type := (.array (.object "com/example/tranchery/tranchery/rating/Agency")), accessFlags := 4122, slot := 2, constantValue := 0 }]
  methods := #[]
  instanceTypes := #[(.object "java/lang/String"), .int, .int, (.object "java/util/List")]
  staticTypes := #[(.object "com/example/tranchery/tranchery/rating/Agency"), (.object "com/example/tranchery/tranchery/rating/Agency"), (.array (.object "com/example/tranchery/tranchery/rating/Agency"))]
  resolved := Array.replicate 206 none
  statics := some 0 }

def pool7 : Array CpInfo := pool [(1, .methodref 2 3), (0, .class_ 4), (0, .nameAndType 5 6), (0, u "java/lang/Object"), (0, u "<init>"), (0, u "()V"), (0, .class_ 8), (0, u "java/lang/Record")] 13

def k7c0 : Code := { maxStack := 1, maxLocals := 1, code := jdk_30_method_1_code, exceptionTable := #[], attributes := #[] }
def k7m0 : Method := { name := "<init>", desc := "()V", sig := { parameters := [], returnType := none }, accessFlags := 4, code := some k7c0 }
/-- java/lang/Record -/
def k7 : Class := { plain "java/lang/Record" (some 0) with
  accessFlags := 1057
  interfaces := #[]
  cf := some (fileOf pool7 7 #[] #[{ accessFlags := 4, nameIndex := 5, descriptorIndex := 6, attributes := #[] }] 1057 2 #[] #[])
  fields := #[]
  methods := #[k7m0]
  instanceTypes := #[]
  staticTypes := #[]
  resolved := Array.replicate 22 none
  statics := none }

def pool8 : Array CpInfo := pool [(1, .methodref 2 3), (0, .class_ 4), (0, .nameAndType 5 6), (0, u "java/lang/Record"), (0, u "<init>"), (0, u "()V"), (0, .fieldref 8 9), (0, .class_ 10), (0, .nameAndType 11 12), (0, u "com/example/tranchery/tranchery/rating/Rating"), (0, u "agency"), (0, u "Lcom/example/tranchery/tranchery/rating/Agency;"), (0, .fieldref 8 14), (0, .nameAndType 15 16), (0, u "rank"), (0, u "I"), (14, u "(Lcom/example/tranchery/tranchery/rating/Agency;I)V"), (3, u "meets"), (0, u "(Lcom/example/tranchery/tranchery/rating/Rating;)Z")] 27

def k8c0 : Code := { maxStack := 2, maxLocals := 3, code := prog_88_method_1_code, exceptionTable := #[], attributes := #[] }
def k8m0 : Method := { name := "<init>", desc := "(Lcom/example/tranchery/tranchery/rating/Agency;I)V", sig := { parameters := [(.object "com/example/tranchery/tranchery/rating/Agency"), .int], returnType := none }, accessFlags := 1, code := some k8c0 }
def k8c1 : Code := { maxStack := 2, maxLocals := 2, code := prog_88_method_2_code, exceptionTable := #[], attributes := #[] }
def k8m1 : Method := { name := "meets", desc := "(Lcom/example/tranchery/tranchery/rating/Rating;)Z", sig := { parameters := [(.object "com/example/tranchery/tranchery/rating/Rating")], returnType := some .boolean }, accessFlags := 1, code := some k8c1 }
/-- com/example/tranchery/tranchery/rating/Rating -/
def k8 : Class := { plain "com/example/tranchery/tranchery/rating/Rating" (some 7) with
  accessFlags := 49
  interfaces := #[]
  cf := some (fileOf pool8 8 #[] #[{ accessFlags := 1, nameIndex := 5, descriptorIndex := 31, attributes := #[] }, { accessFlags := 1, nameIndex := 35, descriptorIndex := 36, attributes := #[] }] 49 2 #[] #[{ accessFlags := 18, nameIndex := 11, descriptorIndex := 12, attributes := #[] }, { accessFlags := 18, nameIndex := 15, descriptorIndex := 16, attributes := #[] }])
  fields := #[{ name := "agency", type := (.object "com/example/tranchery/tranchery/rating/Agency"), accessFlags := 18, slot := 0, constantValue := 0 }, { name := "rank", type := .int, accessFlags := 18, slot := 1, constantValue := 0 }]
  methods := #[k8m0, k8m1]
  instanceTypes := #[(.object "com/example/tranchery/tranchery/rating/Agency"), .int]
  staticTypes := #[]
  resolved := Array.replicate 64 none
  statics := none }

def pool9 : Array CpInfo := pool [(1, u "java/lang/Cloneable"), (0, .class_ 1), (0, u "java/lang/Object"), (0, .class_ 3)] 3

/-- java/lang/Cloneable -/
def k9 : Class := { plain "java/lang/Cloneable" (some 0) with
  accessFlags := 1537
  interfaces := #[]
  cf := some (fileOf pool9 2 #[] #[] 1537 4 #[] #[])
  fields := #[]
  methods := #[]
  instanceTypes := #[]
  staticTypes := #[]
  resolved := Array.replicate 8 none
  statics := none }

/-- the primitive byte -/
def k10 : Class := { plain "byte" none with kind := .primitive 'B', accessFlags := 0x411 }
/-- [B -/
def k11 : Class := { plain "[B" (some 0) with kind := .array 10 .byte, interfaces := #[9, 4], accessFlags := 1041 }

/-- the primitive int -/
def k12 : Class := { plain "int" none with kind := .primitive 'I', accessFlags := 0x411 }
/-- [I -/
def k13 : Class := { plain "[I" (some 0) with kind := .array 12 .int, interfaces := #[9, 4], accessFlags := 1041 }

def heap : Heap := #[{ cls := 6, slots := #[.ref 2, .ref 1, .null], vm := .statics 6 },
  { cls := 6, slots := #[.null, .int 0, .int 0, .null], vm := .none },
  { cls := 6, slots := #[.null, .int 1, .int 0, .null], vm := .none }]
def classes : Array Class := #[k0, k1, k2, k3, k4, k5, k6, k7, k8, k9, k10, k11, k12, k13]
def interned : List (Array UInt16 × Addr) := []
def slotsUsed : Nat := 11
def theMethod : MethodId := ⟨1, 1⟩
def args0 : Array Value := #[.int 5, .int 3, .int 4, .int 6]
def aboutOver (below : List Frame) : State where
  vm := { classes := classes, interned := interned.toArray }
  heap := heap
  slotsUsed := slotsUsed
  threads := #[{ frames := .invoking theMethod args0 :: below }]
def below0 : List Frame := [.native { method := ⟨0, 0⟩, args := #[] }]
def about1 : State := aboutOver below0
def p0 : Program := .bare "" "" ""
def e0 : Env := launch0.env 0 0 0
theorem w_frames : about1.frames = Frame.invoking theMethod args0 :: below0 := rfl
set_option maxRecDepth 65536 in
theorem w_args : argsFit about1.vm theMethod args0 = true := by decide +kernel
set_option maxRecDepth 65536 in
theorem w_heap : heapFits about1 = true := by decide +kernel
set_option maxRecDepth 65536 in
theorem w_runnable : about1.curStatus? = some .runnable := by decide +kernel
set_option maxRecDepth 65536 in
theorem w_alone : about1.alone = true := by decide +kernel
set_option maxRecDepth 65536 in
theorem w_named : about1.methodNamed? x = some theMethod := by decide +kernel
set_option maxRecDepth 65536 in
theorem w_hears : about1.hears theMethod below0 = true := by decide +kernel
set_option maxRecDepth 65536 in
theorem w_ripe : about1.ripe theMethod args0 below0 = true := by decide +kernel
theorem w_running : about1.status = .running := rfl
set_option maxRecDepth 65536 in
theorem w_room : about1.hasRoom e0.platform room_1 = true :=
  launch0.hasRoom_least _ room_1 (by decide +kernel) (by decide +kernel) (by decide +kernel) (by decide +kernel) (by decide +kernel) (by decide +kernel)
theorem allAtoms_all (ts : List Jvm.Cond) (a : Array Jvm.Value) (st : Jvm.State) : (allAtoms ts).before a st = ts.all (fun c => c.before a st) := by
  induction ts with
  | nil => rfl
  | cons c t ih =>
    show (Jvm.Cond.and c (allAtoms t)).before a st = _
    rw [Jvm.Cond.before_and, ih, List.all_cons]
def words1 : List Jvm.Cond := Jvm.Cond.code x code maxLocals ret :: tables_1
/-- a 'code' word, met by the world's own term for the bytes: nothing is compared byte by byte -/
theorem code_word {y : MethodName} {bytes : ByteArray} {mx : Nat} {rt : Option FieldType} {a : Array Value} {s : State} {m : MethodId} {meth : Method} {c : Code} (h1 : s.methodNamed? y = some m) (h2 : s.vm.method? m = some meth) (h3 : meth.code = some c) (h4 : c.code = bytes)
    (h5 : (c.maxLocals == mx && c.exceptionTable.isEmpty && decide (c.maxStack ≤ mostOperands) && decide (meth.sig.returnType = rt) && !meth.locks && decide (parseMethodDescriptor y.desc = some meth.sig)) = true) : (Jvm.Cond.code y bytes mx rt).before a s = true := by
  simp only [Bool.and_eq_true, beq_iff_eq, Bool.not_eq_true', decide_eq_true_eq] at h5
  obtain ⟨⟨⟨⟨⟨g1, g2⟩, g3⟩, g4⟩, g5⟩, g6⟩ := h5
  simp [Cond.before, Cond.holds, Cond.value, h1, h2, h3, h4, g1, g2, g3, g4, g5, g6]
def isCode : Jvm.Cond → Bool
  | .code _ _ _ _ => true
  | _ => false
theorem all_split {L : List Jvm.Cond} {P : Jvm.Cond → Bool} (h1 : L.all (fun c => isCode c || P c) = true) (h2 : ∀ c ∈ L.filter isCode, P c = true) : L.all P = true := by
  refine List.all_eq_true.mpr fun c hc => ?_
  have h := List.all_eq_true.mp h1 c hc
  rcases Bool.eq_false_or_eq_true (isCode c) with hi | hi
  · exact h2 c (List.mem_filter.mpr ⟨hc, hi⟩)
  · simpa [hi] using h
set_option maxRecDepth 65536 in
theorem w_c0 : (Jvm.Cond.code x code maxLocals ret).before args0 about1 = true := code_word (m := ⟨1, 1⟩) (meth := k1m1) (c := k1c1) (by decide +kernel) rfl rfl rfl (by decide +kernel)
set_option maxRecDepth 65536 in
theorem w_c1 : (Jvm.Cond.code ({ cls := "com/example/tranchery/tranchery/rating/Rating", name := "<init>", desc := "(Lcom/example/tranchery/tranchery/rating/Agency;I)V" } : Jvm.MethodName) prog_88_method_1_code (3 : Nat) (Option.none : Option Jvm.ClassFile.FieldType)).before args0 about1 = true := code_word (m := ⟨8, 0⟩) (meth := k8m0) (c := k8c0) (by decide +kernel) rfl rfl rfl (by decide +kernel)
set_option maxRecDepth 65536 in
theorem w_c2 : (Jvm.Cond.code ({ cls := "java/lang/Record", name := "<init>", desc := "()V" } : Jvm.MethodName) jdk_30_method_1_code (1 : Nat) (Option.none : Option Jvm.ClassFile.FieldType)).before args0 about1 = true := code_word (m := ⟨7, 0⟩) (meth := k7m0) (c := k7c0) (by decide +kernel) rfl rfl rfl (by decide +kernel)
set_option maxRecDepth 65536 in
theorem w_c3 : (Jvm.Cond.code ({ cls := "java/lang/Object", name := "<init>", desc := "()V" } : Jvm.MethodName) object_method_1_code (1 : Nat) (Option.none : Option Jvm.ClassFile.FieldType)).before args0 about1 = true := code_word (m := ⟨0, 0⟩) (meth := k0m0) (c := k0c0) (by decide +kernel) rfl rfl rfl (by decide +kernel)
set_option maxRecDepth 65536 in
theorem w_c4 : (Jvm.Cond.code ({ cls := "com/example/tranchery/tranchery/rating/Rating", name := "meets", desc := "(Lcom/example/tranchery/tranchery/rating/Rating;)Z" } : Jvm.MethodName) prog_88_method_2_code (2 : Nat) (Option.some Jvm.ClassFile.FieldType.boolean)).before args0 about1 = true := code_word (m := ⟨8, 1⟩) (meth := k8m1) (c := k8c1) (by decide +kernel) rfl rfl rfl (by decide +kernel)
def codes1 : List Jvm.Cond := [Jvm.Cond.code x code maxLocals ret, Jvm.Cond.code ({ cls := "com/example/tranchery/tranchery/rating/Rating", name := "<init>", desc := "(Lcom/example/tranchery/tranchery/rating/Agency;I)V" } : Jvm.MethodName) prog_88_method_1_code (3 : Nat) (Option.none : Option Jvm.ClassFile.FieldType), Jvm.Cond.code ({ cls := "java/lang/Record", name := "<init>", desc := "()V" } : Jvm.MethodName) jdk_30_method_1_code (1 : Nat) (Option.none : Option Jvm.ClassFile.FieldType), Jvm.Cond.code ({ cls := "java/lang/Object", name := "<init>", desc := "()V" } : Jvm.MethodName) object_method_1_code (1 : Nat) (Option.none : Option Jvm.ClassFile.FieldType), Jvm.Cond.code ({ cls := "com/example/tranchery/tranchery/rating/Rating", name := "meets", desc := "(Lcom/example/tranchery/tranchery/rating/Rating;)Z" } : Jvm.MethodName) prog_88_method_2_code (2 : Nat) (Option.some Jvm.ClassFile.FieldType.boolean)]
set_option maxRecDepth 65536 in
theorem codes_eq : words1.filter isCode = codes1 := rfl
theorem w_codes : ∀ c ∈ words1.filter isCode, c.before args0 about1 = true := by
  rw [codes_eq]
  intro c hc
  simp only [codes1, List.mem_cons, List.not_mem_nil, or_false] at hc
  rcases hc with rfl | rfl | rfl | rfl | rfl
  · exact w_c0
  · exact w_c1
  · exact w_c2
  · exact w_c3
  · exact w_c4
set_option maxRecDepth 65536 in
theorem w_t1 : (words1.take 24).all (fun c => isCode c || c.before args0 about1) = true := by decide +kernel
set_option maxRecDepth 65536 in
theorem w_t2 : (words1.drop 24).all (fun c => isCode c || c.before args0 about1) = true := by decide +kernel
theorem w_tables : (allAtoms (Jvm.Cond.code x code maxLocals ret :: tables_1)).before args0 about1 = true := by
  rw [allAtoms_all]
  show words1.all (fun c => c.before args0 about1) = true
  refine all_split ?_ w_codes
  rw [← List.take_append_drop 24 words1, List.all_append, w_t1, w_t2]
  rfl
set_option maxRecDepth 65536 in
theorem w_case : (Jvm.Cond.and given_1 narrow_1).before args0 about1 = true := by decide +kernel
theorem w_applies : (headSpec (Jvm.Cond.code x code maxLocals ret :: tables_1) room_1).applies x e0.platform about1 = true :=
  (Spec.applies_iff w_frames).mpr ⟨w_running, w_runnable, w_alone, w_named, w_hears, w_ripe, w_room, w_tables⟩
theorem atStart : AtStart classFile x code maxLocals ret World_1 tables_1 room_1 Calls_1 rest_1 Pre_1 launch0 p0 e0 about1 theMethod args0 below0 :=
  ⟨lists_1, trivial, launch0.admits_env _ _ _, launch0.least_env, fairChoices_fair.cas, fairChoices_fair.clock, w_frames, w_args, w_heap, w_applies, trivial, trivial, w_case⟩
end start1
theorem witness_1 : WitnessClaimed_1 := ⟨start1.p0, start1.e0, start1.about1, start1.theMethod, start1.args0, start1.below0, start1.atStart⟩
end Jvm.Pilot.@@N@@
