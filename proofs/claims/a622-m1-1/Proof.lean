import JvmDerived
import JvmDerived.Pilot.@@N@@Statement
import JvmDerived.Pilot.@@N@@Code
set_option linter.unusedVariables false
set_option linter.unusedSimpArgs false
@@BLOCK:NumsL.lean.txt@@
namespace Jvm.OG
open Sem ClassFile Op Lib Jvm.Stand Jvm.Free Jvm.LawKit Jvm.RoadKit
/-- from U the run comes to the method's return, with Q of what it returns, the heap there and the places written -/
def Go (tb : Tables) (e : Env) (below : List Frame) (Q : Option Value → Heap → List Loc → Prop) (kc ks : Nat) (s U : State) : Prop :=
  ∃ s₂ o, Steps tb e below U s₂ ∧ s₂.status = .running ∧ Ended s₂ below o ∧ ∃ v L, o = .returned v ∧ Q v s₂.heap L ∧ FrameEnd s o s₂ L kc ks
theorem Go.step {tb : Tables} {e : Env} {below : List Frame} {Q : Option Value → Heap → List Loc → Prop} {kc ks : Nat} {s U U' : State} (st : ∀ t, Steps tb e below U' t → Steps tb e below U t) (k : Go tb e below Q kc ks s U') : Go tb e below Q kc ks s U := by
  obtain ⟨s₂, o, h1, r⟩ := k
  exact ⟨s₂, o, st _ h1, r⟩
theorem Go.via {tb : Tables} {e : Env} {below : List Frame} {Q : Option Value → Heap → List Loc → Prop} {kc ks : Nat} {s U U' : State} (st : Steps tb e below U U') (k : Go tb e below Q kc ks s U') : Go tb e below Q kc ks s U := by
  obtain ⟨s₂, o, h1, r⟩ := k
  exact ⟨s₂, o, st.trans h1, r⟩
theorem Go.cast {tb : Tables} {e : Env} {below : List Frame} {Q : Option Value → Heap → List Loc → Prop} {kc ks : Nat} {s T : State} {g g' : JFrame} (q : g = g') (k : Go tb e below Q kc ks s (T.setTop g')) : Go tb e below Q kc ks s (T.setTop g) := q ▸ k
section Steps1
variable {p : Program} {l : Launch} {e : Env} {R : Room} {s : State} {m : MethodId} {args : Array Value} {below : List Frame} {meth : Method} {c : Code} {T : State} {locs : List Loc} {cells slots : Nat} {Q : Option Value → Heap → List Loc → Prop} {kc ks : Nat} {code : ByteArray} {pc pc' : Nat} {Ls Ls' : Array Slot} {st : List Value}
theorem iloadN (X : Stand p l e R s m args below meth c T locs cells slots) (hx : p.tables.exec = Jvm.exec) (hby : c.code = code) {k : Fin 4} {v : Int32} (hd : decode code pc = .ok (.iload_n k, 1)) (hl : Ls[k.val]? = some (.val (.int v))) (hp : pc + 1 = pc')
    (K : Go p.tables e below Q kc ks s (T.setTop (mkF m pc' Ls (.int v :: st)))) : Go p.tables e below Q kc ks s (T.setTop (mkF m pc Ls st)) := by
  subst hp
  exact Go.step (fun _ hr => XS.iloadN X.here hx rfl (hb hby hd) hl hr) K
theorem lloadN (X : Stand p l e R s m args below meth c T locs cells slots) (hx : p.tables.exec = Jvm.exec) (hby : c.code = code) {k : Fin 4} {v : Int64} (hd : decode code pc = .ok (.lload_n k, 1)) (hl : Ls[k.val]? = some (.val (.long v))) (hp : pc + 1 = pc')
    (K : Go p.tables e below Q kc ks s (T.setTop (mkF m pc' Ls (.long v :: st)))) : Go p.tables e below Q kc ks s (T.setTop (mkF m pc Ls st)) := by
  subst hp
  exact Go.step (fun _ hr => XS.lloadN X.here hx rfl (hb hby hd) hl hr) K
theorem aloadN (X : Stand p l e R s m args below meth c T locs cells slots) (hx : p.tables.exec = Jvm.exec) (hby : c.code = code) {k : Fin 4} {v : Value} (hd : decode code pc = .ok (.aload_n k, 1)) (hl : Ls[k.val]? = some (.val v)) (hv : v.isRef = true) (hp : pc + 1 = pc')
    (K : Go p.tables e below Q kc ks s (T.setTop (mkF m pc' Ls (v :: st)))) : Go p.tables e below Q kc ks s (T.setTop (mkF m pc Ls st)) := by
  subst hp
  exact Go.step (fun _ hr => XS.aloadN X.here hx rfl (hb hby hd) hl hv hr) K
theorem iload (X : Stand p l e R s m args below meth c T locs cells slots) (hx : p.tables.exec = Jvm.exec) (hby : c.code = code) {k : Nat} {v : Int32} (hd : decode code pc = .ok (.iload k, 2)) (hl : Ls[k]? = some (.val (.int v))) (hp : pc + 2 = pc')
    (K : Go p.tables e below Q kc ks s (T.setTop (mkF m pc' Ls (.int v :: st)))) : Go p.tables e below Q kc ks s (T.setTop (mkF m pc Ls st)) := by
  subst hp
  exact Go.step (fun _ hr => XS.iload X.here hx rfl (hb hby hd) hl hr) K
theorem lload (X : Stand p l e R s m args below meth c T locs cells slots) (hx : p.tables.exec = Jvm.exec) (hby : c.code = code) {k : Nat} {v : Int64} (hd : decode code pc = .ok (.lload k, 2)) (hl : Ls[k]? = some (.val (.long v))) (hp : pc + 2 = pc')
    (K : Go p.tables e below Q kc ks s (T.setTop (mkF m pc' Ls (.long v :: st)))) : Go p.tables e below Q kc ks s (T.setTop (mkF m pc Ls st)) := by
  subst hp
  exact Go.step (fun _ hr => XS.lload X.here hx rfl (hb hby hd) hl hr) K
theorem aload (X : Stand p l e R s m args below meth c T locs cells slots) (hx : p.tables.exec = Jvm.exec) (hby : c.code = code) {k : Nat} {v : Value} (hd : decode code pc = .ok (.aload k, 2)) (hl : Ls[k]? = some (.val v)) (hv : v.isRef = true) (hp : pc + 2 = pc')
    (K : Go p.tables e below Q kc ks s (T.setTop (mkF m pc' Ls (v :: st)))) : Go p.tables e below Q kc ks s (T.setTop (mkF m pc Ls st)) := by
  subst hp
  exact Go.step (fun _ hr => XS.aload X.here hx rfl (hb hby hd) hl hv hr) K
theorem istoreN (X : Stand p l e R s m args below meth c T locs cells slots) (hx : p.tables.exec = Jvm.exec) (hby : c.code = code) {k : Fin 4} {v : Int32} (hd : decode code pc = .ok (.istore_n k, 1)) (hl : storeLocals Ls k.val (.int v) = some Ls') (hp : pc + 1 = pc')
    (K : Go p.tables e below Q kc ks s (T.setTop (mkF m pc' Ls' st))) : Go p.tables e below Q kc ks s (T.setTop (mkF m pc Ls (.int v :: st))) := by
  subst hp
  exact Go.step (fun _ hr => XS.istoreN X.here hx rfl (hb hby hd) rfl hl hr) K
theorem lstoreN (X : Stand p l e R s m args below meth c T locs cells slots) (hx : p.tables.exec = Jvm.exec) (hby : c.code = code) {k : Fin 4} {v : Int64} (hd : decode code pc = .ok (.lstore_n k, 1)) (hl : storeLocals Ls k.val (.long v) = some Ls') (hp : pc + 1 = pc')
    (K : Go p.tables e below Q kc ks s (T.setTop (mkF m pc' Ls' st))) : Go p.tables e below Q kc ks s (T.setTop (mkF m pc Ls (.long v :: st))) := by
  subst hp
  exact Go.step (fun _ hr => XS.lstoreN X.here hx rfl (hb hby hd) rfl hl hr) K
theorem astoreN (X : Stand p l e R s m args below meth c T locs cells slots) (hx : p.tables.exec = Jvm.exec) (hby : c.code = code) {k : Fin 4} {v : Value} (hd : decode code pc = .ok (.astore_n k, 1)) (hv : v.isRef = true) (hl : storeLocals Ls k.val v = some Ls') (hp : pc + 1 = pc')
    (K : Go p.tables e below Q kc ks s (T.setTop (mkF m pc' Ls' st))) : Go p.tables e below Q kc ks s (T.setTop (mkF m pc Ls (v :: st))) := by
  subst hp
  exact Go.step (fun _ hr => XS.astoreN X.here hx rfl (hb hby hd) rfl hv hl hr) K
theorem istore (X : Stand p l e R s m args below meth c T locs cells slots) (hx : p.tables.exec = Jvm.exec) (hby : c.code = code) {k : Nat} {v : Int32} (hd : decode code pc = .ok (.istore k, 2)) (hl : storeLocals Ls k (.int v) = some Ls') (hp : pc + 2 = pc')
    (K : Go p.tables e below Q kc ks s (T.setTop (mkF m pc' Ls' st))) : Go p.tables e below Q kc ks s (T.setTop (mkF m pc Ls (.int v :: st))) := by
  subst hp
  exact Go.step (fun _ hr => XS.istore X.here hx rfl (hb hby hd) rfl hl hr) K
theorem lstore (X : Stand p l e R s m args below meth c T locs cells slots) (hx : p.tables.exec = Jvm.exec) (hby : c.code = code) {k : Nat} {v : Int64} (hd : decode code pc = .ok (.lstore k, 2)) (hl : storeLocals Ls k (.long v) = some Ls') (hp : pc + 2 = pc')
    (K : Go p.tables e below Q kc ks s (T.setTop (mkF m pc' Ls' st))) : Go p.tables e below Q kc ks s (T.setTop (mkF m pc Ls (.long v :: st))) := by
  subst hp
  exact Go.step (fun _ hr => XS.lstore X.here hx rfl (hb hby hd) rfl hl hr) K
theorem astore (X : Stand p l e R s m args below meth c T locs cells slots) (hx : p.tables.exec = Jvm.exec) (hby : c.code = code) {k : Nat} {v : Value} (hd : decode code pc = .ok (.astore k, 2)) (hv : v.isRef = true) (hl : storeLocals Ls k v = some Ls') (hp : pc + 2 = pc')
    (K : Go p.tables e below Q kc ks s (T.setTop (mkF m pc' Ls' st))) : Go p.tables e below Q kc ks s (T.setTop (mkF m pc Ls (v :: st))) := by
  subst hp
  exact Go.step (fun _ hr => XS.astore X.here hx rfl (hb hby hd) rfl hv hl hr) K
theorem iconst (X : Stand p l e R s m args below meth c T locs cells slots) (hx : p.tables.exec = Jvm.exec) (hby : c.code = code) {i : Int} {v : Int32} (hd : decode code pc = .ok (.iconst i, 1)) (hv : Int32.ofInt i = v) (hp : pc + 1 = pc')
    (K : Go p.tables e below Q kc ks s (T.setTop (mkF m pc' Ls (.int v :: st)))) : Go p.tables e below Q kc ks s (T.setTop (mkF m pc Ls st)) := by
  subst hp
  subst hv
  exact Go.step (fun _ hr => XS.iconst X.here hx rfl (hb hby hd)  hr) K
theorem bipush (X : Stand p l e R s m args below meth c T locs cells slots) (hx : p.tables.exec = Jvm.exec) (hby : c.code = code) {i : Int} {v : Int32} (hd : decode code pc = .ok (.bipush i, 2)) (hv : (Int8.ofInt i).toInt32 = v) (hp : pc + 2 = pc')
    (K : Go p.tables e below Q kc ks s (T.setTop (mkF m pc' Ls (.int v :: st)))) : Go p.tables e below Q kc ks s (T.setTop (mkF m pc Ls st)) := by
  subst hp
  subst hv
  exact Go.step (fun _ hr => XS.bipush X.here hx rfl (hb hby hd)  hr) K
theorem sipush (X : Stand p l e R s m args below meth c T locs cells slots) (hx : p.tables.exec = Jvm.exec) (hby : c.code = code) {i : Int} {v : Int32} (hd : decode code pc = .ok (.sipush i, 3)) (hv : (Int16.ofInt i).toInt32 = v) (hp : pc + 3 = pc')
    (K : Go p.tables e below Q kc ks s (T.setTop (mkF m pc' Ls (.int v :: st)))) : Go p.tables e below Q kc ks s (T.setTop (mkF m pc Ls st)) := by
  subst hp
  subst hv
  exact Go.step (fun _ hr => XS.sipush X.here hx rfl (hb hby hd)  hr) K
theorem lconst (X : Stand p l e R s m args below meth c T locs cells slots) (hx : p.tables.exec = Jvm.exec) (hby : c.code = code) {i : Fin 2} {v : Int64} (hd : decode code pc = .ok (.lconst i, 1)) (hv : Int64.ofNat i = v) (hp : pc + 1 = pc')
    (K : Go p.tables e below Q kc ks s (T.setTop (mkF m pc' Ls (.long v :: st)))) : Go p.tables e below Q kc ks s (T.setTop (mkF m pc Ls st)) := by
  subst hp
  subst hv
  exact Go.step (fun _ hr => XS.lconst X.here hx rfl (hb hby hd)  hr) K
theorem aconstNull (X : Stand p l e R s m args below meth c T locs cells slots) (hx : p.tables.exec = Jvm.exec) (hby : c.code = code) (hd : decode code pc = .ok (.aconst_null, 1)) (hp : pc + 1 = pc')
    (K : Go p.tables e below Q kc ks s (T.setTop (mkF m pc' Ls (.null :: st)))) : Go p.tables e below Q kc ks s (T.setTop (mkF m pc Ls st)) := by
  subst hp
  exact Go.step (fun _ hr => XS.aconstNull X.here hx rfl (hb hby hd)  hr) K
theorem iadd (X : Stand p l e R s m args below meth c T locs cells slots) (hx : p.tables.exec = Jvm.exec) (hby : c.code = code) {x y : Int32} (hd : decode code pc = .ok (.iadd, 1)) (hp : pc + 1 = pc')
    (K : Go p.tables e below Q kc ks s (T.setTop (mkF m pc' Ls (.int (x + y) :: st)))) : Go p.tables e below Q kc ks s (T.setTop (mkF m pc Ls (.int y :: .int x :: st))) := by
  subst hp
  exact Go.step (fun _ hr => XS.iadd X.here hx rfl (hb hby hd) rfl hr) K
theorem isub (X : Stand p l e R s m args below meth c T locs cells slots) (hx : p.tables.exec = Jvm.exec) (hby : c.code = code) {x y : Int32} (hd : decode code pc = .ok (.isub, 1)) (hp : pc + 1 = pc')
    (K : Go p.tables e below Q kc ks s (T.setTop (mkF m pc' Ls (.int (x - y) :: st)))) : Go p.tables e below Q kc ks s (T.setTop (mkF m pc Ls (.int y :: .int x :: st))) := by
  subst hp
  exact Go.step (fun _ hr => XS.isub X.here hx rfl (hb hby hd) rfl hr) K
theorem imul (X : Stand p l e R s m args below meth c T locs cells slots) (hx : p.tables.exec = Jvm.exec) (hby : c.code = code) {x y : Int32} (hd : decode code pc = .ok (.imul, 1)) (hp : pc + 1 = pc')
    (K : Go p.tables e below Q kc ks s (T.setTop (mkF m pc' Ls (.int (x * y) :: st)))) : Go p.tables e below Q kc ks s (T.setTop (mkF m pc Ls (.int y :: .int x :: st))) := by
  subst hp
  exact Go.step (fun _ hr => XS.imul X.here hx rfl (hb hby hd) rfl hr) K
theorem iand (X : Stand p l e R s m args below meth c T locs cells slots) (hx : p.tables.exec = Jvm.exec) (hby : c.code = code) {x y : Int32} (hd : decode code pc = .ok (.iand, 1)) (hp : pc + 1 = pc')
    (K : Go p.tables e below Q kc ks s (T.setTop (mkF m pc' Ls (.int (x &&& y) :: st)))) : Go p.tables e below Q kc ks s (T.setTop (mkF m pc Ls (.int y :: .int x :: st))) := by
  subst hp
  exact Go.step (fun _ hr => XS.iand X.here hx rfl (hb hby hd) rfl hr) K
theorem ior (X : Stand p l e R s m args below meth c T locs cells slots) (hx : p.tables.exec = Jvm.exec) (hby : c.code = code) {x y : Int32} (hd : decode code pc = .ok (.ior, 1)) (hp : pc + 1 = pc')
    (K : Go p.tables e below Q kc ks s (T.setTop (mkF m pc' Ls (.int (x ||| y) :: st)))) : Go p.tables e below Q kc ks s (T.setTop (mkF m pc Ls (.int y :: .int x :: st))) := by
  subst hp
  exact Go.step (fun _ hr => XS.ior X.here hx rfl (hb hby hd) rfl hr) K
theorem ixor (X : Stand p l e R s m args below meth c T locs cells slots) (hx : p.tables.exec = Jvm.exec) (hby : c.code = code) {x y : Int32} (hd : decode code pc = .ok (.ixor, 1)) (hp : pc + 1 = pc')
    (K : Go p.tables e below Q kc ks s (T.setTop (mkF m pc' Ls (.int (x ^^^ y) :: st)))) : Go p.tables e below Q kc ks s (T.setTop (mkF m pc Ls (.int y :: .int x :: st))) := by
  subst hp
  exact Go.step (fun _ hr => XS.ixor X.here hx rfl (hb hby hd) rfl hr) K
theorem ishl (X : Stand p l e R s m args below meth c T locs cells slots) (hx : p.tables.exec = Jvm.exec) (hby : c.code = code) {x y : Int32} (hd : decode code pc = .ok (.ishl, 1)) (hp : pc + 1 = pc')
    (K : Go p.tables e below Q kc ks s (T.setTop (mkF m pc' Ls (.int (x <<< (y &&& 31)) :: st)))) : Go p.tables e below Q kc ks s (T.setTop (mkF m pc Ls (.int y :: .int x :: st))) := by
  subst hp
  exact Go.step (fun _ hr => XS.ishl X.here hx rfl (hb hby hd) rfl hr) K
theorem ishr (X : Stand p l e R s m args below meth c T locs cells slots) (hx : p.tables.exec = Jvm.exec) (hby : c.code = code) {x y : Int32} (hd : decode code pc = .ok (.ishr, 1)) (hp : pc + 1 = pc')
    (K : Go p.tables e below Q kc ks s (T.setTop (mkF m pc' Ls (.int (x >>> (y &&& 31)) :: st)))) : Go p.tables e below Q kc ks s (T.setTop (mkF m pc Ls (.int y :: .int x :: st))) := by
  subst hp
  exact Go.step (fun _ hr => XS.ishr X.here hx rfl (hb hby hd) rfl hr) K
theorem iushr (X : Stand p l e R s m args below meth c T locs cells slots) (hx : p.tables.exec = Jvm.exec) (hby : c.code = code) {x y : Int32} (hd : decode code pc = .ok (.iushr, 1)) (hp : pc + 1 = pc')
    (K : Go p.tables e below Q kc ks s (T.setTop (mkF m pc' Ls (.int ((x.toUInt32 >>> (y &&& 31).toUInt32).toInt32) :: st)))) : Go p.tables e below Q kc ks s (T.setTop (mkF m pc Ls (.int y :: .int x :: st))) := by
  subst hp
  exact Go.step (fun _ hr => XS.iushr X.here hx rfl (hb hby hd) rfl hr) K
theorem idiv (X : Stand p l e R s m args below meth c T locs cells slots) (hx : p.tables.exec = Jvm.exec) (hby : c.code = code) {x y : Int32} (hd : decode code pc = .ok (.idiv, 1)) (hy : y ≠ 0) (hp : pc + 1 = pc')
    (K : Go p.tables e below Q kc ks s (T.setTop (mkF m pc' Ls (.int (x / y) :: st)))) : Go p.tables e below Q kc ks s (T.setTop (mkF m pc Ls (.int y :: .int x :: st))) := by
  subst hp
  exact Go.step (fun _ hr => XS.idiv X.here hx rfl (hb hby hd) rfl hy hr) K
theorem ladd (X : Stand p l e R s m args below meth c T locs cells slots) (hx : p.tables.exec = Jvm.exec) (hby : c.code = code) {x y : Int64} (hd : decode code pc = .ok (.ladd, 1)) (hp : pc + 1 = pc')
    (K : Go p.tables e below Q kc ks s (T.setTop (mkF m pc' Ls (.long (x + y) :: st)))) : Go p.tables e below Q kc ks s (T.setTop (mkF m pc Ls (.long y :: .long x :: st))) := by
  subst hp
  exact Go.step (fun _ hr => XS.ladd X.here hx rfl (hb hby hd) rfl hr) K
theorem lsub (X : Stand p l e R s m args below meth c T locs cells slots) (hx : p.tables.exec = Jvm.exec) (hby : c.code = code) {x y : Int64} (hd : decode code pc = .ok (.lsub, 1)) (hp : pc + 1 = pc')
    (K : Go p.tables e below Q kc ks s (T.setTop (mkF m pc' Ls (.long (x - y) :: st)))) : Go p.tables e below Q kc ks s (T.setTop (mkF m pc Ls (.long y :: .long x :: st))) := by
  subst hp
  exact Go.step (fun _ hr => XS.lsub X.here hx rfl (hb hby hd) rfl hr) K
theorem lmul (X : Stand p l e R s m args below meth c T locs cells slots) (hx : p.tables.exec = Jvm.exec) (hby : c.code = code) {x y : Int64} (hd : decode code pc = .ok (.lmul, 1)) (hp : pc + 1 = pc')
    (K : Go p.tables e below Q kc ks s (T.setTop (mkF m pc' Ls (.long (x * y) :: st)))) : Go p.tables e below Q kc ks s (T.setTop (mkF m pc Ls (.long y :: .long x :: st))) := by
  subst hp
  exact Go.step (fun _ hr => XS.lmul X.here hx rfl (hb hby hd) rfl hr) K
theorem land (X : Stand p l e R s m args below meth c T locs cells slots) (hx : p.tables.exec = Jvm.exec) (hby : c.code = code) {x y : Int64} (hd : decode code pc = .ok (.land, 1)) (hp : pc + 1 = pc')
    (K : Go p.tables e below Q kc ks s (T.setTop (mkF m pc' Ls (.long (x &&& y) :: st)))) : Go p.tables e below Q kc ks s (T.setTop (mkF m pc Ls (.long y :: .long x :: st))) := by
  subst hp
  exact Go.step (fun _ hr => XS.land X.here hx rfl (hb hby hd) rfl hr) K
theorem lor (X : Stand p l e R s m args below meth c T locs cells slots) (hx : p.tables.exec = Jvm.exec) (hby : c.code = code) {x y : Int64} (hd : decode code pc = .ok (.lor, 1)) (hp : pc + 1 = pc')
    (K : Go p.tables e below Q kc ks s (T.setTop (mkF m pc' Ls (.long (x ||| y) :: st)))) : Go p.tables e below Q kc ks s (T.setTop (mkF m pc Ls (.long y :: .long x :: st))) := by
  subst hp
  exact Go.step (fun _ hr => XS.lor X.here hx rfl (hb hby hd) rfl hr) K
theorem lxor (X : Stand p l e R s m args below meth c T locs cells slots) (hx : p.tables.exec = Jvm.exec) (hby : c.code = code) {x y : Int64} (hd : decode code pc = .ok (.lxor, 1)) (hp : pc + 1 = pc')
    (K : Go p.tables e below Q kc ks s (T.setTop (mkF m pc' Ls (.long (x ^^^ y) :: st)))) : Go p.tables e below Q kc ks s (T.setTop (mkF m pc Ls (.long y :: .long x :: st))) := by
  subst hp
  exact Go.step (fun _ hr => XS.lxor X.here hx rfl (hb hby hd) rfl hr) K
theorem ldiv (X : Stand p l e R s m args below meth c T locs cells slots) (hx : p.tables.exec = Jvm.exec) (hby : c.code = code) {x y : Int64} (hd : decode code pc = .ok (.ldiv, 1)) (hy : y ≠ 0) (hp : pc + 1 = pc')
    (K : Go p.tables e below Q kc ks s (T.setTop (mkF m pc' Ls (.long (x / y) :: st)))) : Go p.tables e below Q kc ks s (T.setTop (mkF m pc Ls (.long y :: .long x :: st))) := by
  subst hp
  exact Go.step (fun _ hr => XS.ldiv X.here hx rfl (hb hby hd) rfl hy hr) K
theorem lcmp (X : Stand p l e R s m args below meth c T locs cells slots) (hx : p.tables.exec = Jvm.exec) (hby : c.code = code) {x y : Int64} (hd : decode code pc = .ok (.lcmp, 1)) (hp : pc + 1 = pc')
    (K : Go p.tables e below Q kc ks s (T.setTop (mkF m pc' Ls (.int (lcmpW x y) :: st)))) : Go p.tables e below Q kc ks s (T.setTop (mkF m pc Ls (.long y :: .long x :: st))) := by
  subst hp
  exact Go.step (fun _ hr => XS.lcmp X.here hx rfl (hb hby hd) rfl hr) K
theorem ineg (X : Stand p l e R s m args below meth c T locs cells slots) (hx : p.tables.exec = Jvm.exec) (hby : c.code = code) {x : Int32} (hd : decode code pc = .ok (.ineg, 1)) (hp : pc + 1 = pc')
    (K : Go p.tables e below Q kc ks s (T.setTop (mkF m pc' Ls (.int (-x) :: st)))) : Go p.tables e below Q kc ks s (T.setTop (mkF m pc Ls (.int x :: st))) := by
  subst hp
  exact Go.step (fun _ hr => XS.ineg X.here hx rfl (hb hby hd) rfl hr) K
theorem lneg (X : Stand p l e R s m args below meth c T locs cells slots) (hx : p.tables.exec = Jvm.exec) (hby : c.code = code) {x : Int64} (hd : decode code pc = .ok (.lneg, 1)) (hp : pc + 1 = pc')
    (K : Go p.tables e below Q kc ks s (T.setTop (mkF m pc' Ls (.long (-x) :: st)))) : Go p.tables e below Q kc ks s (T.setTop (mkF m pc Ls (.long x :: st))) := by
  subst hp
  exact Go.step (fun _ hr => XS.lneg X.here hx rfl (hb hby hd) rfl hr) K
theorem i2l (X : Stand p l e R s m args below meth c T locs cells slots) (hx : p.tables.exec = Jvm.exec) (hby : c.code = code) {x : Int32} (hd : decode code pc = .ok (.i2l, 1)) (hp : pc + 1 = pc')
    (K : Go p.tables e below Q kc ks s (T.setTop (mkF m pc' Ls (.long x.toInt64 :: st)))) : Go p.tables e below Q kc ks s (T.setTop (mkF m pc Ls (.int x :: st))) := by
  subst hp
  exact Go.step (fun _ hr => XS.i2l X.here hx rfl (hb hby hd) rfl hr) K
theorem l2i (X : Stand p l e R s m args below meth c T locs cells slots) (hx : p.tables.exec = Jvm.exec) (hby : c.code = code) {x : Int64} (hd : decode code pc = .ok (.l2i, 1)) (hp : pc + 1 = pc')
    (K : Go p.tables e below Q kc ks s (T.setTop (mkF m pc' Ls (.int x.toInt32 :: st)))) : Go p.tables e below Q kc ks s (T.setTop (mkF m pc Ls (.long x :: st))) := by
  subst hp
  exact Go.step (fun _ hr => XS.l2i X.here hx rfl (hb hby hd) rfl hr) K
theorem i2c (X : Stand p l e R s m args below meth c T locs cells slots) (hx : p.tables.exec = Jvm.exec) (hby : c.code = code) {x : Int32} (hd : decode code pc = .ok (.i2c, 1)) (hp : pc + 1 = pc')
    (K : Go p.tables e below Q kc ks s (T.setTop (mkF m pc' Ls (.int x.toUInt32.toUInt16.toUInt32.toInt32 :: st)))) : Go p.tables e below Q kc ks s (T.setTop (mkF m pc Ls (.int x :: st))) := by
  subst hp
  exact Go.step (fun _ hr => XS.i2c X.here hx rfl (hb hby hd) rfl hr) K
theorem i2b (X : Stand p l e R s m args below meth c T locs cells slots) (hx : p.tables.exec = Jvm.exec) (hby : c.code = code) {x : Int32} (hd : decode code pc = .ok (.i2b, 1)) (hp : pc + 1 = pc')
    (K : Go p.tables e below Q kc ks s (T.setTop (mkF m pc' Ls (.int x.toInt8.toInt32 :: st)))) : Go p.tables e below Q kc ks s (T.setTop (mkF m pc Ls (.int x :: st))) := by
  subst hp
  exact Go.step (fun _ hr => XS.i2b X.here hx rfl (hb hby hd) rfl hr) K
theorem dup (X : Stand p l e R s m args below meth c T locs cells slots) (hx : p.tables.exec = Jvm.exec) (hby : c.code = code) {x : Value} (hd : decode code pc = .ok (.dup, 1)) (hc : x.category = 1) (hp : pc + 1 = pc')
    (K : Go p.tables e below Q kc ks s (T.setTop (mkF m pc' Ls (x :: x :: st)))) : Go p.tables e below Q kc ks s (T.setTop (mkF m pc Ls (x :: st))) := by
  subst hp
  exact Go.step (fun _ hr => XS.dup X.here hx rfl (hb hby hd) rfl hc hr) K
theorem pop (X : Stand p l e R s m args below meth c T locs cells slots) (hx : p.tables.exec = Jvm.exec) (hby : c.code = code) {x : Value} (hd : decode code pc = .ok (.pop, 1)) (hc : x.category = 1) (hp : pc + 1 = pc')
    (K : Go p.tables e below Q kc ks s (T.setTop (mkF m pc' Ls st))) : Go p.tables e below Q kc ks s (T.setTop (mkF m pc Ls (x :: st))) := by
  subst hp
  exact Go.step (fun _ hr => XS.pop X.here hx rfl (hb hby hd) rfl hc hr) K
theorem dupX1 (X : Stand p l e R s m args below meth c T locs cells slots) (hx : p.tables.exec = Jvm.exec) (hby : c.code = code) {x y : Value} (hd : decode code pc = .ok (.dup_x1, 1)) (hc : x.category = 1) (hc' : y.category = 1) (hp : pc + 1 = pc')
    (K : Go p.tables e below Q kc ks s (T.setTop (mkF m pc' Ls (x :: y :: x :: st)))) : Go p.tables e below Q kc ks s (T.setTop (mkF m pc Ls (x :: y :: st))) := by
  subst hp
  exact Go.step (fun _ hr => XS.dupX1 X.here hx rfl (hb hby hd) rfl hc hc' hr) K
theorem iinc (X : Stand p l e R s m args below meth c T locs cells slots) (hx : p.tables.exec = Jvm.exec) (hby : c.code = code) {k : Nat} {cst : Int} {x : Int32} (hd : decode code pc = .ok (.iinc k cst, 3)) (hl : Ls[k]? = some (.val (.int x))) (hl' : storeLocals Ls k (.int (x + Int32.ofInt cst)) = some Ls') (hp : pc + 3 = pc')
    (K : Go p.tables e below Q kc ks s (T.setTop (mkF m pc' Ls' st))) : Go p.tables e below Q kc ks s (T.setTop (mkF m pc Ls st)) := by
  subst hp
  exact Go.step (fun _ hr => XS.iinc X.here hx rfl (hb hby hd) hl hl' hr) K
theorem irem (X : Stand p l e R s m args below meth c T locs cells slots) (hx : p.tables.exec = Jvm.exec) (hby : c.code = code) {x y : Int32} (hd : decode code pc = .ok (.irem, 1)) (hy : y ≠ 0) (hp : pc + 1 = pc')
    (K : Go p.tables e below Q kc ks s (T.setTop (mkF m pc' Ls (.int (x % y) :: st)))) : Go p.tables e below Q kc ks s (T.setTop (mkF m pc Ls (.int y :: .int x :: st))) := by
  subst hp
  exact Go.step (fun _ hr => Jvm.RoadKit.iremM (g := mkF m pc Ls (.int y :: .int x :: st)) X hx rfl (hb hby hd) rfl hy hr) K
theorem goto (X : Stand p l e R s m args below meth c T locs cells slots) (hx : p.tables.exec = Jvm.exec) (hby : c.code = code) {o : Int} (hd : decode code pc = .ok (.goto o, 3)) (ho : 0 ≤ (pc : Int) + o) (hp : ((pc : Int) + o).toNat = pc')
    (K : Go p.tables e below Q kc ks s (T.setTop (mkF m pc' Ls st))) : Go p.tables e below Q kc ks s (T.setTop (mkF m pc Ls st)) :=
  Go.step (fun _ hr => XS.goto X.here hx rfl (pc0 := pc) (pc' := pc') rfl (hb hby hd)  ho hp hr) K
theorem ifYes (X : Stand p l e R s m args below meth c T locs cells slots) (hx : p.tables.exec = Jvm.exec) (hby : c.code = code) {cd : ClassFile.Cond} {x : Int32} {o : Int} (hd : decode code pc = .ok (.ifCond cd o, 3)) (hc : if_icmp.holds cd x 0 = true) (ho : 0 ≤ (pc : Int) + o) (hp : ((pc : Int) + o).toNat = pc')
    (K : Go p.tables e below Q kc ks s (T.setTop (mkF m pc' Ls st))) : Go p.tables e below Q kc ks s (T.setTop (mkF m pc Ls (.int x :: st))) :=
  Go.step (fun _ hr => XS.ifYes X.here hx rfl (pc0 := pc) (pc' := pc') rfl (hb hby hd) rfl ((if0 _ _).trans hc) ho hp hr) K
theorem ifNo (X : Stand p l e R s m args below meth c T locs cells slots) (hx : p.tables.exec = Jvm.exec) (hby : c.code = code) {cd : ClassFile.Cond} {x : Int32} {o : Int} (hd : decode code pc = .ok (.ifCond cd o, 3)) (hc : if_icmp.holds cd x 0 = false) (hp : pc + 3 = pc')
    (K : Go p.tables e below Q kc ks s (T.setTop (mkF m pc' Ls st))) : Go p.tables e below Q kc ks s (T.setTop (mkF m pc Ls (.int x :: st))) := by
  subst hp
  exact Go.step (fun _ hr => XS.ifNo X.here hx rfl (hb hby hd) rfl ((if0 _ _).trans hc) hr) K
theorem icmpYes (X : Stand p l e R s m args below meth c T locs cells slots) (hx : p.tables.exec = Jvm.exec) (hby : c.code = code) {cd : ClassFile.Cond} {x y : Int32} {o : Int} (hd : decode code pc = .ok (.if_icmp cd o, 3)) (hc : if_icmp.holds cd x y = true) (ho : 0 ≤ (pc : Int) + o) (hp : ((pc : Int) + o).toNat = pc')
    (K : Go p.tables e below Q kc ks s (T.setTop (mkF m pc' Ls st))) : Go p.tables e below Q kc ks s (T.setTop (mkF m pc Ls (.int y :: .int x :: st))) :=
  Go.step (fun _ hr => XS.icmpYes X.here hx rfl (pc0 := pc) (pc' := pc') rfl (hb hby hd) rfl hc ho hp hr) K
theorem icmpNo (X : Stand p l e R s m args below meth c T locs cells slots) (hx : p.tables.exec = Jvm.exec) (hby : c.code = code) {cd : ClassFile.Cond} {x y : Int32} {o : Int} (hd : decode code pc = .ok (.if_icmp cd o, 3)) (hc : if_icmp.holds cd x y = false) (hp : pc + 3 = pc')
    (K : Go p.tables e below Q kc ks s (T.setTop (mkF m pc' Ls st))) : Go p.tables e below Q kc ks s (T.setTop (mkF m pc Ls (.int y :: .int x :: st))) := by
  subst hp
  exact Go.step (fun _ hr => XS.icmpNo X.here hx rfl (hb hby hd) rfl hc hr) K
theorem ifnullYes (X : Stand p l e R s m args below meth c T locs cells slots) (hx : p.tables.exec = Jvm.exec) (hby : c.code = code) {o : Int} (hd : decode code pc = .ok (.ifnull o, 3)) (ho : 0 ≤ (pc : Int) + o) (hp : ((pc : Int) + o).toNat = pc')
    (K : Go p.tables e below Q kc ks s (T.setTop (mkF m pc' Ls st))) : Go p.tables e below Q kc ks s (T.setTop (mkF m pc Ls (.null :: st))) :=
  Go.step (fun _ hr => XS.ifnullYes X.here hx rfl (pc0 := pc) (pc' := pc') rfl (hb hby hd) rfl ho hp hr) K
theorem ifnullNo (X : Stand p l e R s m args below meth c T locs cells slots) (hx : p.tables.exec = Jvm.exec) (hby : c.code = code) {b : Addr} {o : Int} (hd : decode code pc = .ok (.ifnull o, 3)) (hp : pc + 3 = pc')
    (K : Go p.tables e below Q kc ks s (T.setTop (mkF m pc' Ls st))) : Go p.tables e below Q kc ks s (T.setTop (mkF m pc Ls (.ref b :: st))) := by
  subst hp
  exact Go.step (fun _ hr => XS.ifnullNo X.here hx rfl (hb hby hd) rfl hr) K
theorem ifnonnullYes (X : Stand p l e R s m args below meth c T locs cells slots) (hx : p.tables.exec = Jvm.exec) (hby : c.code = code) {b : Addr} {o : Int} (hd : decode code pc = .ok (.ifnonnull o, 3)) (ho : 0 ≤ (pc : Int) + o) (hp : ((pc : Int) + o).toNat = pc')
    (K : Go p.tables e below Q kc ks s (T.setTop (mkF m pc' Ls st))) : Go p.tables e below Q kc ks s (T.setTop (mkF m pc Ls (.ref b :: st))) :=
  Go.step (fun _ hr => XS.ifnonnullYes X.here hx rfl (pc0 := pc) (pc' := pc') rfl (hb hby hd) rfl ho hp hr) K
theorem ifnonnullNo (X : Stand p l e R s m args below meth c T locs cells slots) (hx : p.tables.exec = Jvm.exec) (hby : c.code = code) {o : Int} (hd : decode code pc = .ok (.ifnonnull o, 3)) (hp : pc + 3 = pc')
    (K : Go p.tables e below Q kc ks s (T.setTop (mkF m pc' Ls st))) : Go p.tables e below Q kc ks s (T.setTop (mkF m pc Ls (.null :: st))) := by
  subst hp
  exact Go.step (fun _ hr => XS.ifnonnullNo X.here hx rfl (hb hby hd) rfl hr) K
theorem acmp (X : Stand p l e R s m args below meth c T locs cells slots) (hx : p.tables.exec = Jvm.exec) (hby : c.code = code) {cd : ACond} {x y : Value} {o : Int} {same : Bool} (hd : decode code pc = .ok (.if_acmp cd o, 3)) (h1 : x.isRef = true) (h2 : y.isRef = true) (hq : decide (x = y) = same) (ho : 0 ≤ (pc : Int) + o) (hp : pc' = if acV cd same = true then ((pc : Int) + o).toNat else pc + 3)
    (K : Go p.tables e below Q kc ks s (T.setTop (mkF m pc' Ls st))) : Go p.tables e below Q kc ks s (T.setTop (mkF m pc Ls (y :: x :: st))) :=
  Go.step (fun _ hr => Jvm.RoadKit.acmp (g := mkF m pc Ls (y :: x :: st)) X hx rfl h1 h2 (pc0 := pc) (pc' := pc') (same := same) rfl (hb hby hd) rfl hq ho hp hr) K
theorem retZ (X : Stand p l e R s m args below meth c T locs cells slots) (hx : p.tables.exec = Jvm.exec) (hby : c.code = code) {t : FieldType} {z : Int32} (hret : meth.sig.returnType = some t) (ht : t = .boolean ∨ t = .byte ∨ t = .char ∨ t = .short) (hd : decode code pc = .ok (.ireturn, 1)) (hlk : meth.locks = false) (hkc : cells ≤ kc) (hks : slots ≤ ks) (hQ : Q (some (.int (nar t z))) T.heap locs) : Go p.tables e below Q kc ks s (T.setTop (mkF m pc Ls (.int z :: st))) := by
  obtain ⟨fs, hr, hrun, hended, hW, hsame⟩ := X.leave (v := some (.int (nar t z))) (fun h => by rw [hret] at h; cases h) hlk
  exact ⟨_, _, retN X hx hret ht (hb hby hd) hr, hrun, hended, _, _, rfl, hQ, ⟨_, rfl⟩, hW, hsame.mono hkc hks⟩
theorem retI (X : Stand p l e R s m args below meth c T locs cells slots) (hx : p.tables.exec = Jvm.exec) (hby : c.code = code) {z : Int32} (hret : meth.sig.returnType = some .int) (hd : decode code pc = .ok (.ireturn, 1)) (hlk : meth.locks = false) (hkc : cells ≤ kc) (hks : slots ≤ ks) (hQ : Q (some (.int z)) T.heap locs) : Go p.tables e below Q kc ks s (T.setTop (mkF m pc Ls (.int z :: st))) := by
  obtain ⟨fs, hr, hrun, hended, hW, hsame⟩ := X.leave (v := some (.int z)) (fun h => by rw [hret] at h; cases h) hlk
  exact ⟨_, _, Jvm.RoadKit.retOut X hx hret rfl (Or.inl ⟨rfl, Or.inl rfl, z, rfl⟩) (hb hby hd) hr, hrun, hended, _, _, rfl, hQ, ⟨_, rfl⟩, hW, hsame.mono hkc hks⟩
theorem retA (X : Stand p l e R s m args below meth c T locs cells slots) (hx : p.tables.exec = Jvm.exec) (hby : c.code = code) {t : FieldType} {w : Value} (hret : meth.sig.returnType = some t) (ht : t.isReference = true) (hw : w.isRef = true) (hn : narrow t w = w) (hd : decode code pc = .ok (.areturn, 1)) (hlk : meth.locks = false) (hkc : cells ≤ kc) (hks : slots ≤ ks) (hQ : Q (some w) T.heap locs) : Go p.tables e below Q kc ks s (T.setTop (mkF m pc Ls (w :: st))) := by
  obtain ⟨fs, hr, hrun, hended, hW, hsame⟩ := X.leave (v := some w) (fun h => by rw [hret] at h; cases h) hlk
  exact ⟨_, _, Jvm.RoadKit.retOut X hx hret hn (Or.inr (Or.inr (Or.inr (Or.inr ⟨rfl, ht, hw⟩)))) (hb hby hd) hr, hrun, hended, _, _, rfl, hQ, ⟨_, rfl⟩, hW, hsame.mono hkc hks⟩
theorem retV (X : Stand p l e R s m args below meth c T locs cells slots) (hx : p.tables.exec = Jvm.exec) (hby : c.code = code) (hret : meth.sig.returnType = none) (hd : decode code pc = .ok (.return_, 1)) (hlk : meth.locks = false) (hkc : cells ≤ kc) (hks : slots ≤ ks) (hQ : Q none T.heap locs) : Go p.tables e below Q kc ks s (T.setTop (mkF m pc Ls [])) := by
  obtain ⟨fs, hr, hrun, hended, hW, hsame⟩ := X.leave (v := none) (fun _ => rfl) hlk
  exact ⟨_, _, X.returnOut hx hret (hb hby hd) hr, hrun, hended, _, _, rfl, hQ, ⟨_, rfl⟩, hW, hsame.mono hkc hks⟩
end Steps1
section Words1
variable {args : Array Value} {first s : State} {o : Option Outcome} {idx : List Nat} {t : Term} {k : Int32}
theorem eqI_v (h : (Jvm.Cond.eq t (.int k)).value args first o s idx = some true) : t.eval args first o idx s = some (.int k) := by
  simp only [Jvm.Cond.value, Term.eval] at h
  cases ht : t.eval args first o idx s with
  | none => simp [ht] at h
  | some x => cases x <;> simp [ht] at h ⊢; exact h
end Words1
end Jvm.OG
namespace Jvm.OG
open Sem ClassFile Op Lib Jvm.Stand Jvm.Free Jvm.LawKit Jvm.RoadKit
section Laws2
variable {p : Program} {l : Launch} {e : Env} {R : Room} {s : State} {m : MethodId} {args : Array Value} {below : List Frame} {meth : Method} {c : Code} {T : State} {locs : List Loc} {cells slots : Nat} {Q : Option Value → Heap → List Loc → Prop} {kc ks : Nat} {code : ByteArray} {pc pc' : Nat} {Ls Ls' : Array Slot} {st : List Value} {Z : State} {a0 : Array Value} {h : Heap}
theorem gS (X : Stand p l e R s m args below meth c T locs cells slots) (hx : p.tables.exec = Jvm.exec) (hZ : Z.Warmed39 s.vm) (hby : c.code = code) {own : String} {index : Nat} (hown : s.vm.findClass own = some m.cls) {R0 O n d : String} (w : (Cond.fieldLink own index R0 n d).before a0 Z = true) (via : Via Z R0 O n d) (eT : T.heap = h) {v : Value} (F : Sta Z h O n d v) (hd : decode code pc = .ok (.getstatic index, 3)) (hp : pc + 3 = pc')
    (K : ∀ T', Stand p l e R s m args below meth c T' locs cells slots → T'.heap = h → Go p.tables e below Q kc ks s (T'.setTop (mkF m pc' Ls (v :: st)))) : Go p.tables e below Q kc ks s (T.setTop (mkF m pc Ls st)) := by
  subst hp
  obtain ⟨T', X', e', st'⟩ := getS2 X hx hZ hown (host := "") (Or.inl w) via eT F (g := mkF m pc Ls st) rfl (hb hby hd)
  exact Go.step st' (K T' X' e')
theorem gF (X : Stand p l e R s m args below meth c T locs cells slots) (hx : p.tables.exec = Jvm.exec) (hZ : Z.Warmed39 s.vm) (hby : c.code = code) {own : String} {index : Nat} (hown : s.vm.findClass own = some m.cls) {R0 O n d : String} (w : (Cond.fieldLink own index R0 n d).before a0 Z = true) (via : Via Z R0 O n d) (eT : T.heap = h) {a : Addr} {v : Value} (F : Fld Z h a O n d v) (hd : decode code pc = .ok (.getfield index, 3)) (hp : pc + 3 = pc')
    (K : ∀ T', Stand p l e R s m args below meth c T' locs cells slots → T'.heap = h → Go p.tables e below Q kc ks s (T'.setTop (mkF m pc' Ls (v :: st)))) : Go p.tables e below Q kc ks s (T.setTop (mkF m pc Ls (.ref a :: st))) := by
  subst hp
  obtain ⟨T', X', e', st'⟩ := getF X hx hZ hown (host := "") (Or.inl w) via eT F (g := mkF m pc Ls (.ref a :: st)) rfl rfl (hb hby hd)
  exact Go.step st' (K T' X' e')
theorem gSN (X : Stand p l e R s m args below meth c T locs cells slots) (hx : p.tables.exec = Jvm.exec) (hZ : Z.Warmed39 s.vm) (hby : c.code = code) {own : String} {index : Nat} (hown : s.vm.findClass own = some m.cls) {R0 O n d host : String} (w : (Cond.fieldLinkNest own index R0 n d host).before a0 Z = true) (via : Via Z R0 O n d) (eT : T.heap = h) {v : Value} (F : Sta Z h O n d v) (hd : decode code pc = .ok (.getstatic index, 3)) (hp : pc + 3 = pc')
    (K : ∀ T', Stand p l e R s m args below meth c T' locs cells slots → T'.heap = h → Go p.tables e below Q kc ks s (T'.setTop (mkF m pc' Ls (v :: st)))) : Go p.tables e below Q kc ks s (T.setTop (mkF m pc Ls st)) := by
  subst hp
  obtain ⟨T', X', e', st'⟩ := getS2 X hx hZ hown (Or.inr w) via eT F (g := mkF m pc Ls st) rfl (hb hby hd)
  exact Go.step st' (K T' X' e')
theorem gFN (X : Stand p l e R s m args below meth c T locs cells slots) (hx : p.tables.exec = Jvm.exec) (hZ : Z.Warmed39 s.vm) (hby : c.code = code) {own : String} {index : Nat} (hown : s.vm.findClass own = some m.cls) {R0 O n d host : String} (w : (Cond.fieldLinkNest own index R0 n d host).before a0 Z = true) (via : Via Z R0 O n d) (eT : T.heap = h) {a : Addr} {v : Value} (F : Fld Z h a O n d v) (hd : decode code pc = .ok (.getfield index, 3)) (hp : pc + 3 = pc')
    (K : ∀ T', Stand p l e R s m args below meth c T' locs cells slots → T'.heap = h → Go p.tables e below Q kc ks s (T'.setTop (mkF m pc' Ls (v :: st)))) : Go p.tables e below Q kc ks s (T.setTop (mkF m pc Ls (.ref a :: st))) := by
  subst hp
  obtain ⟨T', X', e', st'⟩ := getF X hx hZ hown (Or.inr w) via eT F (g := mkF m pc Ls (.ref a :: st)) rfl rfl (hb hby hd)
  exact Go.step st' (K T' X' e')
theorem pF (X : Stand p l e R s m args below meth c T locs cells slots) (hx : p.tables.exec = Jvm.exec) (hZ : Z.Warmed39 s.vm) (hby : c.code = code) {own : String} {index : Nat} (hown : s.vm.findClass own = some m.cls) {R0 O n d : String} (w : (Cond.fieldLink own index R0 n d).before a0 Z = true) (via : Via Z R0 O n d) (eT : T.heap = h) {C : String} {kk : Nat} {ty : FieldType} {a : Addr} {v old : Value} (F : Fld Z h a O n d old) (E : Exa Z h a C) (L : (Cond.lays C O n d).before a0 Z = true ∨ ((Cond.laysFinal C O n d).before a0 Z = true ∧ own = O ∧ meth.name = "<init>")) (wi : (Cond.instantiable C kk).before a0 Z = true) (hty : parseFieldDescriptor d = some ty) (hn : narrow ty v = v) (hf : fits ty v = true) (hd : decode code pc = .ok (.putfield index, 3)) (hp : pc + 3 = pc')
    (K : ∀ T' h', Stand p l e R s m args below meth c T' (locs ++ [⟨a, Jvm.RoadKit.slotOf Z O n d⟩]) cells slots → T'.heap = h' → Wr h h' a (Jvm.RoadKit.slotOf Z O n d) v → Go p.tables e below Q kc ks s (T'.setTop (mkF m pc' Ls st))) : Go p.tables e below Q kc ks s (T.setTop (mkF m pc Ls (v :: .ref a :: st))) := by
  subst hp
  obtain ⟨T', h', X', e', W', st'⟩ := putF X hx hZ hown (host := "") (Or.inl w) via eT F E L wi hty hn hf (g := mkF m pc Ls (v :: .ref a :: st)) rfl rfl (hb hby hd)
  exact Go.step st' (K T' h' X' e' W')
theorem pFN (X : Stand p l e R s m args below meth c T locs cells slots) (hx : p.tables.exec = Jvm.exec) (hZ : Z.Warmed39 s.vm) (hby : c.code = code) {own : String} {index : Nat} (hown : s.vm.findClass own = some m.cls) {R0 O n d : String} (w : (Cond.fieldLink own index R0 n d).before a0 Z = true) (via : Via Z R0 O n d) (eT : T.heap = h) {C : String} {kk : Nat} {ty : FieldType} {a : Addr} {v v' old : Value} (F : Fld Z h a O n d old) (E : Exa Z h a C) (L : (Cond.lays C O n d).before a0 Z = true ∨ ((Cond.laysFinal C O n d).before a0 Z = true ∧ own = O ∧ meth.name = "<init>")) (wi : (Cond.instantiable C kk).before a0 Z = true) (hty : parseFieldDescriptor d = some ty) (hn : narrow ty v = v') (hf : fits ty v' = true) (hd : decode code pc = .ok (.putfield index, 3)) (hp : pc + 3 = pc')
    (K : ∀ T' h', Stand p l e R s m args below meth c T' (locs ++ [⟨a, Jvm.RoadKit.slotOf Z O n d⟩]) cells slots → T'.heap = h' → Wr h h' a (Jvm.RoadKit.slotOf Z O n d) v' → Go p.tables e below Q kc ks s (T'.setTop (mkF m pc' Ls st))) : Go p.tables e below Q kc ks s (T.setTop (mkF m pc Ls (v :: .ref a :: st))) := by
  subst hp
  obtain ⟨T', h', X', e', W', st'⟩ := putFN X hx hZ hown w via eT F E L wi hty hn hf (g := mkF m pc Ls (v :: .ref a :: st)) rfl rfl (hb hby hd)
  exact Go.step st' (K T' h' X' e' W')
theorem nO (X : Stand p l e R s m args below meth c T locs cells slots) (hx : p.tables.exec = Jvm.exec) (hZ : Z.Warmed39 s.vm) (hby : c.code = code) {own : String} {index : Nat} (hown : s.vm.findClass own = some m.cls) {C : String} {n : Nat} (w : (Cond.classLink own index C).before a0 Z = true) (wi : (Cond.instantiable C n).before a0 Z = true) (wz : (Cond.initialized C).before a0 Z = true) (eT : T.heap = h) (hd : decode code pc = .ok (.new index, 3)) (hc : cells + 1 ≤ R.cells) (hl : slots + n ≤ R.slots) (hp : pc + 3 = pc')
    (K : ∀ T' h' b, b = h.size → Stand p l e R s m args below meth c T' locs (cells + 1) (slots + n) → T'.heap = h' → Ext h h' → Exa Z h' b C → (∀ {O nm d : String} {ty : FieldType}, Laid Z a0 C O nm d → parseFieldDescriptor d = some ty → Fld Z h' b O nm d (defaultValue ty)) → Go p.tables e below Q kc ks s (T'.setTop (mkF m pc' Ls (.ref b :: st)))) : Go p.tables e below Q kc ks s (T.setTop (mkF m pc Ls st)) := by
  subst hp
  obtain ⟨T', h', X', e', E', A', D', -, st'⟩ := newO X hx hZ hown w wi wz eT (g := mkF m pc Ls st) rfl (hb hby hd) hc hl
  exact Go.step st' (K T' h' _ rfl X' e' E' A' D')
theorem iO (X : Stand p l e R s m args below meth c T locs cells slots) (hx : p.tables.exec = Jvm.exec) (hZ : Z.Warmed39 s.vm) (hby : c.code = code) {own : String} {index : Nat} (hown : s.vm.findClass own = some m.cls) (hsz : Ls.size = c.maxLocals) (w1 : (Cond.methodLink own index Lib.objectInit).before a0 Z = true) (w2 : (Cond.instanceMethod Lib.objectInit).before a0 Z = true) (w3 : (Cond.code Lib.objectInit ⟨#[0xb1]⟩ 1 none).before a0 Z = true) (eT : T.heap = h) {a : Addr} {W : Nat} (hW : (st.map fun v => v.category).sum = W) (hf : 1 ≤ R.frames) (hl : W + 12 ≤ R.locals) (hd : decode code pc = .ok (.invokespecial index, 3)) (hp : pc + 3 = pc')
    (K : ∀ T', Stand p l e R s m args below meth c T' locs cells slots → T'.heap = h → Go p.tables e below Q kc ks s (T'.setTop (mkF m pc' Ls st))) : Go p.tables e below Q kc ks s (T.setTop (mkF m pc Ls (.ref a :: st))) := by
  subst hp hW
  obtain ⟨T', X', e', st'⟩ := initO X hx hZ hown w1 w2 w3 eT (g := mkF m pc Ls (.ref a :: st)) rfl hsz rfl (hb hby hd) hf (W := (st.map fun v => v.category).sum) (by show 2 * 0 + _ ≤ _; omega) hl
  exact Go.step st' (K T' X' e')
theorem ldcI (X : Stand p l e R s m args below meth c T locs cells slots) (hx : p.tables.exec = Jvm.exec) (hZ : Z.Warmed39 s.vm) (hby : c.code = code) {own : String} {index : Nat} (hown : s.vm.findClass own = some m.cls) {v : Int32} (w : (Cond.constant own index v).before a0 Z = true) (hd : decode code pc = .ok (.ldc index, 2)) (hp : pc + 2 = pc') (K : Go p.tables e below Q kc ks s (T.setTop (mkF m pc' Ls (.int v :: st)))) : Go p.tables e below Q kc ks s (T.setTop (mkF m pc Ls st)) := by
  subst hp
  exact Go.step (fun _ hr => Jvm.Stand.ldcI (g := mkF m pc Ls st) X hx hown (mv hZ w) rfl (hb hby hd) hr) K
theorem ldcWI (X : Stand p l e R s m args below meth c T locs cells slots) (hx : p.tables.exec = Jvm.exec) (hZ : Z.Warmed39 s.vm) (hby : c.code = code) {own : String} {index : Nat} (hown : s.vm.findClass own = some m.cls) {v : Int32} (w : (Cond.constant own index v).before a0 Z = true) (hd : decode code pc = .ok (.ldc_w index, 3)) (hp : pc + 3 = pc') (K : Go p.tables e below Q kc ks s (T.setTop (mkF m pc' Ls (.int v :: st)))) : Go p.tables e below Q kc ks s (T.setTop (mkF m pc Ls st)) := by
  subst hp
  exact Go.step (fun _ hr => Jvm.Stand.ldcWI (g := mkF m pc Ls st) X hx hown (mv hZ w) rfl (hb hby hd) hr) K
theorem ldc2J (X : Stand p l e R s m args below meth c T locs cells slots) (hx : p.tables.exec = Jvm.exec) (hZ : Z.Warmed39 s.vm) (hby : c.code = code) {own : String} {index : Nat} (hown : s.vm.findClass own = some m.cls) {v : Int64} (w : (Cond.constantLong own index v).before a0 Z = true) (hd : decode code pc = .ok (.ldc2_w index, 3)) (hp : pc + 3 = pc') (K : Go p.tables e below Q kc ks s (T.setTop (mkF m pc' Ls (.long v :: st)))) : Go p.tables e below Q kc ks s (T.setTop (mkF m pc Ls st)) := by
  subst hp
  exact Go.step (fun _ hr => Jvm.Stand.ldc2J (g := mkF m pc Ls st) X hx hown (mv hZ w) rfl (hb hby hd) hr) K
theorem cY (X : Stand p l e R s m args below meth c T locs cells slots) (hx : p.tables.exec = Jvm.exec) (hZ : Z.Warmed39 s.vm) (hby : c.code = code) {own : String} {index : Nat} (hown : s.vm.findClass own = some m.cls) {K0 : String} (w : (Cond.classLink own index K0).before a0 Z = true) (eT : T.heap = h) {a : Addr} (F : Jvm.RoadKit.Ins Z h a K0 true) (hd : decode code pc = .ok (.checkcast index, 3)) (hp : pc + 3 = pc')
    (K : ∀ T', Stand p l e R s m args below meth c T' locs cells slots → T'.heap = h → Go p.tables e below Q kc ks s (T'.setTop (mkF m pc' Ls (.ref a :: st)))) : Go p.tables e below Q kc ks s (T.setTop (mkF m pc Ls (.ref a :: st))) := by
  subst hp
  obtain ⟨T', X', e', st'⟩ := castY X hx hZ hown w eT F (g := mkF m pc Ls (.ref a :: st)) rfl rfl (hb hby hd)
  exact Go.step st' (K T' X' e')
theorem iY (X : Stand p l e R s m args below meth c T locs cells slots) (hx : p.tables.exec = Jvm.exec) (hZ : Z.Warmed39 s.vm) (hby : c.code = code) {own : String} {index : Nat} (hown : s.vm.findClass own = some m.cls) {K0 : String} (w : (Cond.classLink own index K0).before a0 Z = true) (eT : T.heap = h) {a : Addr} (F : Jvm.RoadKit.Ins Z h a K0 true) (hd : decode code pc = .ok (.instanceof index, 3)) (hp : pc + 3 = pc')
    (K : ∀ T', Stand p l e R s m args below meth c T' locs cells slots → T'.heap = h → Go p.tables e below Q kc ks s (T'.setTop (mkF m pc' Ls (.int 1 :: st)))) : Go p.tables e below Q kc ks s (T.setTop (mkF m pc Ls (.ref a :: st))) := by
  subst hp
  obtain ⟨T', X', e', st'⟩ := instY X hx hZ hown w eT F (g := mkF m pc Ls (.ref a :: st)) rfl rfl (hb hby hd)
  exact Go.step st' (K T' X' e')
theorem nR (X : Stand p l e R s m args below meth c T locs cells slots) (hx : p.tables.exec = Jvm.exec) (hZ : Z.Warmed39 s.vm) (hby : c.code = code) {own : String} {index : Nat} (hown : s.vm.findClass own = some m.cls) {C : String} (w1 : (Cond.classLink own index C).before a0 Z = true) (w2 : (Cond.arrayOver (.object C)).before a0 Z = true) (eT : T.heap = h) {n : Int32} (hn : ¬ n < 0) {cap : Nat} (hcap : n.toNatClampNeg ≤ cap) (hb' : cap * 8 ≤ 536870912) (hc : cells + 1 ≤ R.cells) (hl : slots + cap ≤ R.slots) (hd : decode code pc = .ok (.anewarray index, 3)) (hp : pc + 3 = pc')
    (K : ∀ T' h' cA b, b = h.size → Stand p l e R s m args below meth c T' locs (cells + 1) (slots + cap) → T'.heap = h' → Ext h h' → Arv Z h' b cA (.object C) n [] .null → Ovr Z cA C → Go p.tables e below Q kc ks s (T'.setTop (mkF m pc' Ls (.ref b :: st)))) : Go p.tables e below Q kc ks s (T.setTop (mkF m pc Ls (.int n :: st))) := by
  subst hp
  obtain ⟨T', h', cA, X', e', E', A', O', st'⟩ := newR X hx hZ hown w1 w2 eT (g := mkF m pc Ls (.int n :: st)) rfl (hb hby hd) rfl hn hcap hb' hc hl
  exact Go.step st' (K T' h' cA _ rfl X' e' E' (Arv.new A' hn) O')
theorem nP (X : Stand p l e R s m args below meth c T locs cells slots) (hx : p.tables.exec = Jvm.exec) (hZ : Z.Warmed39 s.vm) (hby : c.code = code) {aty : ArrayType} (w : (Cond.arrayClass (newarray.typeOf aty)).before a0 Z = true) (eT : T.heap = h) {n : Int32} (hn : ¬ n < 0) {cap : Nat} (hcap : n.toNatClampNeg ≤ cap) (hb' : cap * 8 ≤ 536870912) (hc : cells + 1 ≤ R.cells) (hl : slots + cap ≤ R.slots) (hd : decode code pc = .ok (.newarray aty, 2)) (hp : pc + 2 = pc')
    (K : ∀ T' h' cA b, b = h.size → Stand p l e R s m args below meth c T' locs (cells + 1) (slots + cap) → T'.heap = h' → Ext h h' → Arv Z h' b cA (newarray.typeOf aty) n [] (defaultValue (newarray.typeOf aty)) → Go p.tables e below Q kc ks s (T'.setTop (mkF m pc' Ls (.ref b :: st)))) : Go p.tables e below Q kc ks s (T.setTop (mkF m pc Ls (.int n :: st))) := by
  subst hp
  obtain ⟨T', h', cA, X', e', E', A', st'⟩ := newP X hx hZ w eT (g := mkF m pc Ls (.int n :: st)) rfl (hb hby hd) rfl hn hcap hb' hc hl
  exact Go.step st' (K T' h' cA _ rfl X' e' E' (Arv.new A' hn))
theorem sC (X : Stand p l e R s m args below meth c T locs cells slots) (hx : p.tables.exec = Jvm.exec) (hZ : Z.Warmed39 s.vm) (hby : c.code = code) (eT : T.heap = h) {a : Addr} {k : ClassId} {z : Int32} {vs : List Value} {dv : Value} (A : Arv Z h a k .char z vs dv) {j x : Int32} (i : Nat) (hj : ¬ j < 0 ∧ j < z) (hi : j.toNatClampNeg = i) (hil : i < vs.length) (hd : decode code pc = .ok (.castore, 1)) (hp : pc + 1 = pc')
    (K : ∀ T' h', Stand p l e R s m args below meth c T' (locs ++ [⟨a, j.toNatClampNeg⟩]) cells slots → T'.heap = h' → Wr h h' a j.toNatClampNeg (.int (nar .char x)) → Arv Z h' a k .char z (vs.set i (.int (nar .char x))) dv → Go p.tables e below Q kc ks s (T'.setTop (mkF m pc' Ls st))) : Go p.tables e below Q kc ks s (T.setTop (mkF m pc Ls (.int x :: .int j :: .ref a :: st))) := by
  subst hp
  obtain ⟨cl, A1, q1, S1, N1, H1, G1⟩ := A
  obtain ⟨T', h', X', e', W', st'⟩ := stC X hx hZ eT A1 (inb_of S1 hj) (g := mkF m pc Ls (.int x :: .int j :: .ref a :: st)) rfl rfl (hb hby hd)
  exact Go.step st' (K T' h' X' e' W' (Arv.set A1 q1 S1 N1 H1 G1 (fits_nar_char x) W' i hi hil))
theorem sB (X : Stand p l e R s m args below meth c T locs cells slots) (hx : p.tables.exec = Jvm.exec) (hZ : Z.Warmed39 s.vm) (hby : c.code = code) (eT : T.heap = h) {a : Addr} {k : ClassId} {z : Int32} {vs : List Value} {dv : Value} (A : Arv Z h a k .byte z vs dv) {j x : Int32} (i : Nat) (hj : ¬ j < 0 ∧ j < z) (hi : j.toNatClampNeg = i) (hil : i < vs.length) (hd : decode code pc = .ok (.bastore, 1)) (hp : pc + 1 = pc')
    (K : ∀ T' h', Stand p l e R s m args below meth c T' (locs ++ [⟨a, j.toNatClampNeg⟩]) cells slots → T'.heap = h' → Wr h h' a j.toNatClampNeg (.int (nar .byte x)) → Arv Z h' a k .byte z (vs.set i (.int (nar .byte x))) dv → Go p.tables e below Q kc ks s (T'.setTop (mkF m pc' Ls st))) : Go p.tables e below Q kc ks s (T.setTop (mkF m pc Ls (.int x :: .int j :: .ref a :: st))) := by
  subst hp
  obtain ⟨cl, A1, q1, S1, N1, H1, G1⟩ := A
  obtain ⟨T', h', X', e', W', st'⟩ := stB X hx hZ eT A1 (inb_of S1 hj) (g := mkF m pc Ls (.int x :: .int j :: .ref a :: st)) rfl rfl (hb hby hd)
  exact Go.step st' (K T' h' X' e' W' (Arv.set A1 q1 S1 N1 H1 G1 (fits_nar_byte x) W' i hi hil))
theorem sI (X : Stand p l e R s m args below meth c T locs cells slots) (hx : p.tables.exec = Jvm.exec) (hZ : Z.Warmed39 s.vm) (hby : c.code = code) (eT : T.heap = h) {a : Addr} {k : ClassId} {z : Int32} {vs : List Value} {dv : Value} (A : Arv Z h a k .int z vs dv) {j x : Int32} (i : Nat) (hj : ¬ j < 0 ∧ j < z) (hi : j.toNatClampNeg = i) (hil : i < vs.length) (hd : decode code pc = .ok (.iastore, 1)) (hp : pc + 1 = pc')
    (K : ∀ T' h', Stand p l e R s m args below meth c T' (locs ++ [⟨a, j.toNatClampNeg⟩]) cells slots → T'.heap = h' → Wr h h' a j.toNatClampNeg (.int x) → Arv Z h' a k .int z (vs.set i (.int x)) dv → Go p.tables e below Q kc ks s (T'.setTop (mkF m pc' Ls st))) : Go p.tables e below Q kc ks s (T.setTop (mkF m pc Ls (.int x :: .int j :: .ref a :: st))) := by
  subst hp
  obtain ⟨cl, A1, q1, S1, N1, H1, G1⟩ := A
  obtain ⟨T', h', X', e', W', st'⟩ := stI X hx hZ eT A1 (inb_of S1 hj) (g := mkF m pc Ls (.int x :: .int j :: .ref a :: st)) rfl rfl (hb hby hd)
  exact Go.step st' (K T' h' X' e' W' (Arv.set A1 q1 S1 N1 H1 G1 (rfl) W' i hi hil))
theorem sR (X : Stand p l e R s m args below meth c T locs cells slots) (hx : p.tables.exec = Jvm.exec) (hZ : Z.Warmed39 s.vm) (hby : c.code = code) (eT : T.heap = h) {a : Addr} {C : String} {k : ClassId} {z : Int32} {vs : List Value} {dv : Value} (A : Arv Z h a k (.object C) z vs dv) {j : Int32} {v : Value} (hv : fits (.object C) v = true) (i : Nat) (hj : ¬ j < 0 ∧ j < z) (hi : j.toNatClampNeg = i) (hil : i < vs.length) (F : ∀ cl, Arr Z h a cl (.object C) → cl.cls = k → Sto Z h a v) (hd : decode code pc = .ok (.aastore, 1)) (hp : pc + 1 = pc')
    (K : ∀ T' h', Stand p l e R s m args below meth c T' (locs ++ [⟨a, j.toNatClampNeg⟩]) cells slots → T'.heap = h' → Wr h h' a j.toNatClampNeg v → Arv Z h' a k (.object C) z (vs.set i v) dv → Go p.tables e below Q kc ks s (T'.setTop (mkF m pc' Ls st))) : Go p.tables e below Q kc ks s (T.setTop (mkF m pc Ls (v :: .int j :: .ref a :: st))) := by
  subst hp
  obtain ⟨cl, A1, q1, S1, N1, H1, G1⟩ := A
  obtain ⟨T', h', X', e', W', st'⟩ := stR X hx hZ eT A1 (inb_of S1 hj) rfl (F cl A1 q1) (g := mkF m pc Ls (v :: .int j :: .ref a :: st)) rfl rfl (hb hby hd)
  exact Go.step st' (K T' h' X' e' W' (Arv.set A1 q1 S1 N1 H1 G1 hv W' i hi hil))
theorem lR (X : Stand p l e R s m args below meth c T locs cells slots) (hx : p.tables.exec = Jvm.exec) (hZ : Z.Warmed39 s.vm) (hby : c.code = code) {ty : FieldType} (hty : ty.isReference = true) (eT : T.heap = h) {a : Addr} {k : ClassId} {z : Int32} {vs : List Value} {dv : Value} (A : Arv Z h a k ty z vs dv) {j : Int32} {v : Value} (hj : ¬ j < 0 ∧ j < z) (hv : vs.getD j.toNatClampNeg dv = v) (hd : decode code pc = .ok (.aaload, 1)) (hp : pc + 1 = pc')
    (K : Go p.tables e below Q kc ks s (T.setTop (mkF m pc' Ls (v :: st)))) : Go p.tables e below Q kc ks s (T.setTop (mkF m pc Ls (.int j :: .ref a :: st))) := by
  subst hp
  obtain ⟨cl, A1, q1, S1, N1, H1, G1⟩ := A
  exact Go.step (fun t hr => X.aaload hx (j := j) (v := v) (by rw [eT]; exact A1.1) (State.isArrayOf_alike hZ.alike A1.2.1) hty A1.2.2 (inb_of S1 hj) (Has.at H1 (inb_of S1 hj) hv) (g := mkF m pc Ls (.int j :: .ref a :: st)) rfl rfl (hb hby hd) t hr) K
theorem lC (X : Stand p l e R s m args below meth c T locs cells slots) (hx : p.tables.exec = Jvm.exec) (hZ : Z.Warmed39 s.vm) (hby : c.code = code) (eT : T.heap = h) {a : Addr} {k : ClassId} {z : Int32} {vs : List Value} {dv : Value} (A : Arv Z h a k .char z vs dv) {j : Int32} {v : Int32} (hj : ¬ j < 0 ∧ j < z) (hv : vs.getD j.toNatClampNeg dv = (.int v)) (hd : decode code pc = .ok (.caload, 1)) (hp : pc + 1 = pc')
    (K : Go p.tables e below Q kc ks s (T.setTop (mkF m pc' Ls ((.int v) :: st)))) : Go p.tables e below Q kc ks s (T.setTop (mkF m pc Ls (.int j :: .ref a :: st))) := by
  subst hp
  obtain ⟨cl, A1, q1, S1, N1, H1, G1⟩ := A
  exact Go.step (fun t hr => X.caload hx (j := j) (v := (.int v)) (by rw [eT]; exact A1.1) (State.isArrayOf_alike hZ.alike A1.2.1) A1.2.2 (inb_of S1 hj) (Has.at H1 (inb_of S1 hj) hv) (g := mkF m pc Ls (.int j :: .ref a :: st)) rfl rfl (hb hby hd) t hr) K
theorem lB (X : Stand p l e R s m args below meth c T locs cells slots) (hx : p.tables.exec = Jvm.exec) (hZ : Z.Warmed39 s.vm) (hby : c.code = code) (eT : T.heap = h) {a : Addr} {k : ClassId} {z : Int32} {vs : List Value} {dv : Value} (A : Arv Z h a k .byte z vs dv) {j : Int32} {v : Int32} (hj : ¬ j < 0 ∧ j < z) (hv : vs.getD j.toNatClampNeg dv = (.int v)) (hd : decode code pc = .ok (.baload, 1)) (hp : pc + 1 = pc')
    (K : Go p.tables e below Q kc ks s (T.setTop (mkF m pc' Ls ((.int v) :: st)))) : Go p.tables e below Q kc ks s (T.setTop (mkF m pc Ls (.int j :: .ref a :: st))) := by
  subst hp
  obtain ⟨cl, A1, q1, S1, N1, H1, G1⟩ := A
  exact Go.step (fun t hr => X.baloadBytes hx (j := j) (v := (.int v)) (by rw [eT]; exact A1.1) (State.isArrayOf_alike hZ.alike A1.2.1) A1.2.2 (inb_of S1 hj) (Has.at H1 (inb_of S1 hj) hv) (g := mkF m pc Ls (.int j :: .ref a :: st)) rfl rfl (hb hby hd) t hr) K
theorem lI (X : Stand p l e R s m args below meth c T locs cells slots) (hx : p.tables.exec = Jvm.exec) (hZ : Z.Warmed39 s.vm) (hby : c.code = code) (eT : T.heap = h) {a : Addr} {k : ClassId} {z : Int32} {vs : List Value} {dv : Value} (A : Arv Z h a k .int z vs dv) {j : Int32} {v : Int32} (hj : ¬ j < 0 ∧ j < z) (hv : vs.getD j.toNatClampNeg dv = (.int v)) (hd : decode code pc = .ok (.iaload, 1)) (hp : pc + 1 = pc')
    (K : Go p.tables e below Q kc ks s (T.setTop (mkF m pc' Ls ((.int v) :: st)))) : Go p.tables e below Q kc ks s (T.setTop (mkF m pc Ls (.int j :: .ref a :: st))) := by
  subst hp
  obtain ⟨cl, A1, q1, S1, N1, H1, G1⟩ := A
  exact Go.step (fun t hr => X.iaload hx (j := j) (v := (.int v)) (by rw [eT]; exact A1.1) (State.isArrayOf_alike hZ.alike A1.2.1) A1.2.2 (inb_of S1 hj) (Has.at H1 (inb_of S1 hj) hv) (g := mkF m pc Ls (.int j :: .ref a :: st)) rfl rfl (hb hby hd) t hr) K
theorem aL (X : Stand p l e R s m args below meth c T locs cells slots) (hx : p.tables.exec = Jvm.exec) (hZ : Z.Warmed39 s.vm) (hby : c.code = code) (eT : T.heap = h) {a : Addr} {ty : FieldType} {k : ClassId} {z : Int32} {vs : List Value} {dv : Value} (A : Arv Z h a k ty z vs dv) (hd : decode code pc = .ok (.arraylength, 1)) (hp : pc + 1 = pc')
    (K : Go p.tables e below Q kc ks s (T.setTop (mkF m pc' Ls (.int z :: st)))) : Go p.tables e below Q kc ks s (T.setTop (mkF m pc Ls (.ref a :: st))) := by
  subst hp
  obtain ⟨cl, A1, q1, S1, N1, H1, G1⟩ := A
  refine Go.step (fun t hr => X.arraylength hx (by rw [eT]; exact A1.1) (State.isArrayOf_alike hZ.alike A1.2.1) (g := mkF m pc Ls (.ref a :: st)) rfl rfl (hb hby hd) t hr) ?_
  rw [len_of S1 N1]
  exact K
theorem cV (X : Stand p l e R s m args below meth c T locs cells slots) (hx : p.tables.exec = Jvm.exec) (hZ : Z.Warmed39 s.vm) (hby : c.code = code) (hsz : Ls.size = c.maxLocals) {own : String} {index : Nat} (hown : s.vm.findClass own = some m.cls) {C : String} {y z : MethodName} {bytes : ByteArray} {maxL : Nat} {ret : Option FieldType} {rm : Room} {as' : Array Value} {Qc : Option Value → Heap → List Loc → Prop} (wl : (Cond.methodLink own index y).before a0 Z = true) (wd : (Cond.declares y).before a0 Z = true) (hnf : NotFace s y) (ws : (Cond.selects C y z).before a0 Z = true) (wi : (Cond.instanceMethod z).before a0 Z = true) (wc : (Cond.code z bytes maxL ret).before a0 Z = true) (wz : (Cond.initialized z.cls).before a0 Z = true) (hy : y.cls ≠ "java/lang/invoke/MethodHandle" ∧ y.cls ≠ "java/lang/invoke/VarHandle") (hM : MetFree l z (head1 [Cond.code z bytes maxL ret] rm) (fun a U => a = as' ∧ Z.Warmed39 U.vm ∧ U.heap = h) (fun _ _ _ _ _ => True) (fun _ U o U' => ∃ v L, o = .returned v ∧ Qc v U'.heap L ∧ FrameEnd U o U' L rm.cells rm.slots)) {b : Addr} (E : Exa Z h b C) (eT : T.heap = h) {argsL stk : List Value} {ps : List FieldType} {r : Option FieldType} (hpd : parseMethodDescriptor y.desc = some ⟨ps, r⟩) (hpl : argsL.length = ps.length) (has : as' = (Value.ref b :: argsL).toArray) (hstk : stk = argsL.reverse ++ .ref b :: st) {W : Nat} (hW : (st.map fun v => v.category).sum = W) (hf : rm.frames + 1 ≤ R.frames) (hl : W + (maxL + 11) + rm.locals ≤ R.locals) (hcl : cells + rm.cells ≤ R.cells) (hsl : slots + rm.slots ≤ R.slots) (hd : decode code pc = .ok (.invokevirtual index, 3)) (hp : pc + 3 = pc')
    (K : ∀ T' L v, Stand p l e R s m args below meth c T' (locs ++ L) (cells + rm.cells) (slots + rm.slots) → Qc v T'.heap L → Go p.tables e below Q kc ks s (T'.setTop (mkF m pc' Ls (v.toList ++ st)))) : Go p.tables e below Q kc ks s (T.setTop (mkF m pc Ls stk)) := by
  subst hp has hstk hW
  obtain ⟨cq, kq, qa, qb, qc⟩ := isOf hZ eT E
  obtain ⟨_, _, ⟨T1, L1, k1, n1⟩, -, X1, ⟨Lc1, hQ1, l1, y1, z1⟩, st1⟩ := X.virtualBack hx (y := y) (z := z) hown (mvT hZ wl) (mvT hZ wd) hnf (mvT hZ ws) (mvT hZ wi) hy (backOf (W := (st.map fun v => v.category).sum) hM hZ wc wz hf hl) qa qc (g := mkF m pc Ls (argsL.reverse ++ .ref b :: st)) rfl hsz (Steps.refl _) (argsL := argsL) (rest := st) (lenOf hpd hpl) rfl (by show 2 * 0 + _ ≤ _; omega) (hb hby hd) (fun _ _ => ⟨rfl, eT, hcl, hsl⟩)
  dsimp only [Pt.U, Pt.locs, Pt.cells, Pt.slots] at X1 l1 y1 z1 st1 hQ1
  subst l1 y1 z1
  exact Go.via st1 (K _ _ _ X1 hQ1)
theorem cI (X : Stand p l e R s m args below meth c T locs cells slots) (hx : p.tables.exec = Jvm.exec) (hZ : Z.Warmed39 s.vm) (hby : c.code = code) (hsz : Ls.size = c.maxLocals) {own : String} {index : Nat} (hown : s.vm.findClass own = some m.cls) {C : String} {count : Nat} {xi y : MethodName} {bytes : ByteArray} {maxL : Nat} {ret : Option FieldType} {rm : Room} {as' : Array Value} {Qc : Option Value → Heap → List Loc → Prop} (wl : (Cond.methodLink own index xi).before a0 Z = true) (wd : (Cond.declares xi).before a0 Z = true) (wf : (Cond.interfaceMethod xi.cls xi.cls xi.name xi.desc).before a0 Z = true) (hwf : ((Cond.interfaceMethod xi.cls xi.cls xi.name xi.desc).onTables && (Cond.interfaceMethod xi.cls xi.cls xi.name xi.desc).keepsFace) = true) (ws : (Cond.selects C xi y).before a0 Z = true) (wi : (Cond.instanceMethod y).before a0 Z = true) (wp : (Cond.publicMethod y).before a0 Z = true) (wu : (Cond.unhidden C xi.name xi.desc).before a0 Z = true) (wct : (Cond.castable C xi.cls).before a0 Z = true) (wc : (Cond.code y bytes maxL ret).before a0 Z = true) (wz : (Cond.initialized y.cls).before a0 Z = true) (hy : xi.cls ≠ "java/lang/invoke/MethodHandle" ∧ xi.cls ≠ "java/lang/invoke/VarHandle") (hM : MetFree l y (head1 [Cond.code y bytes maxL ret] rm) (fun a U => a = as' ∧ Z.Warmed39 U.vm ∧ U.heap = h) (fun _ _ _ _ _ => True) (fun _ U o U' => ∃ v L, o = .returned v ∧ Qc v U'.heap L ∧ FrameEnd U o U' L rm.cells rm.slots)) {b : Addr} (E : Exa Z h b C) (eT : T.heap = h) {argsL stk : List Value} {ps : List FieldType} {r : Option FieldType} (hpd : parseMethodDescriptor xi.desc = some ⟨ps, r⟩) (hpl : argsL.length = ps.length) (has : as' = (Value.ref b :: argsL).toArray) (hstk : stk = argsL.reverse ++ .ref b :: st) {W : Nat} (hW : (st.map fun v => v.category).sum = W) (hf : rm.frames + 1 ≤ R.frames) (hl : W + (maxL + 11) + rm.locals ≤ R.locals) (hcl : cells + rm.cells ≤ R.cells) (hsl : slots + rm.slots ≤ R.slots) (hd : decode code pc = .ok (.invokeinterface index count, 5)) (hp : pc + 5 = pc')
    (K : ∀ T' L v, Stand p l e R s m args below meth c T' (locs ++ L) (cells + rm.cells) (slots + rm.slots) → Qc v T'.heap L → Go p.tables e below Q kc ks s (T'.setTop (mkF m pc' Ls (v.toList ++ st)))) : Go p.tables e below Q kc ks s (T.setTop (mkF m pc Ls stk)) := by
  subst hp has hstk hW
  obtain ⟨cq, kq, qa, qb, qc⟩ := isOf hZ eT E
  obtain ⟨_, _, ⟨T1, L1, k1, n1⟩, -, X1, ⟨Lc1, hQ1, l1, y1, z1⟩, st1⟩ := X.interfaceBack hx (xi := xi) (y := y) hown (mvT hZ wl) (mvT hZ wd) (mvT hZ wf hwf) (mvT hZ ws) (mvT hZ wi) (mvT hZ wp) (mvT hZ wu) (mvT hZ wct) hy (backOf (W := (st.map fun v => v.category).sum) hM hZ wc wz hf hl) qa qb qc (g := mkF m pc Ls (argsL.reverse ++ .ref b :: st)) rfl hsz (Steps.refl _) (argsL := argsL) (rest := st) (lenOf hpd hpl) rfl (by show 2 * 0 + _ ≤ _; omega) (hb hby hd) (fun _ _ => ⟨rfl, eT, hcl, hsl⟩)
  dsimp only [Pt.U, Pt.locs, Pt.cells, Pt.slots] at X1 l1 y1 z1 st1 hQ1
  subst l1 y1 z1
  exact Go.via st1 (K _ _ _ X1 hQ1)
theorem cS (X : Stand p l e R s m args below meth c T locs cells slots) (hx : p.tables.exec = Jvm.exec) (hZ : Z.Warmed39 s.vm) (hby : c.code = code) (hsz : Ls.size = c.maxLocals) {own : String} {index : Nat} (hown : s.vm.findClass own = some m.cls) {y : MethodName} {bytes : ByteArray} {maxL : Nat} {ret : Option FieldType} {rm : Room} {as' : Array Value} {Qc : Option Value → Heap → List Loc → Prop} (wl : (Cond.methodLink own index y).before a0 Z = true) (wst : (Cond.static y).before a0 Z = true) (wc : (Cond.code y bytes maxL ret).before a0 Z = true) (wz : (Cond.initialized y.cls).before a0 Z = true) (hy : y.cls ≠ "java/lang/invoke/MethodHandle" ∧ y.cls ≠ "java/lang/invoke/VarHandle") (hM : MetFree l y (head1 [Cond.code y bytes maxL ret] rm) (fun a U => a = as' ∧ Z.Warmed39 U.vm ∧ U.heap = h) (fun _ _ _ _ _ => True) (fun _ U o U' => ∃ v L, o = .returned v ∧ Qc v U'.heap L ∧ FrameEnd U o U' L rm.cells rm.slots)) (eT : T.heap = h) {argsL stk : List Value} {ps : List FieldType} {r : Option FieldType} (hpd : parseMethodDescriptor y.desc = some ⟨ps, r⟩) (hpl : argsL.length = ps.length) (has : as' = (argsL).toArray) (hstk : stk = argsL.reverse ++ st) {W : Nat} (hW : (st.map fun v => v.category).sum = W) (hf : rm.frames + 1 ≤ R.frames) (hl : W + (maxL + 11) + rm.locals ≤ R.locals) (hcl : cells + rm.cells ≤ R.cells) (hsl : slots + rm.slots ≤ R.slots) (hd : decode code pc = .ok (.invokestatic index, 3)) (hp : pc + 3 = pc')
    (K : ∀ T' L v, Stand p l e R s m args below meth c T' (locs ++ L) (cells + rm.cells) (slots + rm.slots) → Qc v T'.heap L → Go p.tables e below Q kc ks s (T'.setTop (mkF m pc' Ls (v.toList ++ st)))) : Go p.tables e below Q kc ks s (T.setTop (mkF m pc Ls stk)) := by
  subst hp has hstk hW
  obtain ⟨_, _, ⟨T1, L1, k1, n1⟩, -, X1, ⟨Lc1, hQ1, l1, y1, z1⟩, st1⟩ := Jvm.LawKit.callS X hx (y := y) hown (mvT hZ wl) (mvT hZ wst) (mvT hZ wz) (mvT hZ wc) hy (backOf (W := (st.map fun v => v.category).sum) hM hZ wc wz hf hl) (g := mkF m pc Ls (argsL.reverse ++ st)) rfl hsz (argsL := argsL) (rest := st) (lenOf hpd hpl) rfl (by show 2 * 0 + _ ≤ _; omega) (hb hby hd) (fun _ _ => ⟨rfl, eT, hcl, hsl⟩)
  dsimp only [Pt.U, Pt.locs, Pt.cells, Pt.slots] at X1 l1 y1 z1 st1 hQ1
  subst l1 y1 z1
  exact Go.step st1 (K _ _ _ X1 hQ1)
theorem cN (X : Stand p l e R s m args below meth c T locs cells slots) (hx : p.tables.exec = Jvm.exec) (hZ : Z.Warmed39 s.vm) (hby : c.code = code) (hsz : Ls.size = c.maxLocals) {own : String} {index : Nat} (hown : s.vm.findClass own = some m.cls) {y : MethodName} {bytes : ByteArray} {maxL : Nat} {ret : Option FieldType} {rm : Room} {as' : Array Value} {Qc : Option Value → Heap → List Loc → Prop} (hyi : y.name = "<init>") (hrn : ret = none) (wl : (Cond.methodLink own index y).before a0 Z = true) (wi : (Cond.instanceMethod y).before a0 Z = true) (wc : (Cond.code y bytes maxL ret).before a0 Z = true) (wz : (Cond.initialized y.cls).before a0 Z = true) (hy : y.cls ≠ "java/lang/invoke/MethodHandle" ∧ y.cls ≠ "java/lang/invoke/VarHandle") (hM : MetFree l y (head1 [Cond.code y bytes maxL ret] rm) (fun a U => a = as' ∧ Z.Warmed39 U.vm ∧ U.heap = h) (fun _ _ _ _ _ => True) (fun _ U o U' => ∃ v L, o = .returned v ∧ Qc v U'.heap L ∧ FrameEnd U o U' L rm.cells rm.slots)) {b : Addr} (eT : T.heap = h) {argsL stk : List Value} {ps : List FieldType} {r : Option FieldType} (hpd : parseMethodDescriptor y.desc = some ⟨ps, r⟩) (hpl : argsL.length = ps.length) (has : as' = (Value.ref b :: argsL).toArray) (hstk : stk = argsL.reverse ++ .ref b :: st) {W : Nat} (hW : (st.map fun v => v.category).sum = W) (hf : rm.frames + 1 ≤ R.frames) (hl : W + (maxL + 11) + rm.locals ≤ R.locals) (hcl : cells + rm.cells ≤ R.cells) (hsl : slots + rm.slots ≤ R.slots) (hd : decode code pc = .ok (.invokespecial index, 3)) (hp : pc + 3 = pc')
    (K : ∀ T' L v, Stand p l e R s m args below meth c T' (locs ++ L) (cells + rm.cells) (slots + rm.slots) → Qc v T'.heap L → Go p.tables e below Q kc ks s (T'.setTop (mkF m pc' Ls (v.toList ++ st)))) : Go p.tables e below Q kc ks s (T.setTop (mkF m pc Ls stk)) := by
  subst hp has hstk hW hrn
  obtain ⟨_, _, ⟨T1, L1, k1, n1⟩, -, X1, ⟨Lc1, hQ1, l1, y1, z1⟩, st1⟩ := X.specialBack hx (y := y) hyi hown (mvT hZ wl) (mvT hZ wi) (mvT hZ wc) hy (backOf (W := (st.map fun v => v.category).sum) hM hZ wc wz hf hl) (g := mkF m pc Ls (argsL.reverse ++ .ref b :: st)) rfl hsz (Steps.refl _) (a := b) (argsL := argsL) (rest := st) (lenOf hpd hpl) rfl (by show 2 * 0 + _ ≤ _; omega) (hb hby hd) (fun _ _ => ⟨rfl, eT, hcl, hsl⟩)
  dsimp only [Pt.U, Pt.locs, Pt.cells, Pt.slots] at X1 l1 y1 z1 st1 hQ1
  subst l1 y1 z1
  exact Go.via st1 (K _ _ _ X1 hQ1)
theorem cP (X : Stand p l e R s m args below meth c T locs cells slots) (hx : p.tables.exec = Jvm.exec) (hZ : Z.Warmed39 s.vm) (hby : c.code = code) (hsz : Ls.size = c.maxLocals) {own : String} {index : Nat} (hown : s.vm.findClass own = some m.cls) {C : String} {y : MethodName} {bytes : ByteArray} {maxL : Nat} {ret : Option FieldType} {rm : Room} {as' : Array Value} {Qc : Option Value → Heap → List Loc → Prop} (wl : (Cond.methodLink own index y).before a0 Z = true) (wi : (Cond.instanceMethod y).before a0 Z = true) (ws : (Cond.selects y.cls y y).before a0 Z = true) (wp : (Cond.privateMethod y).before a0 Z = true) (wc : (Cond.code y bytes maxL ret).before a0 Z = true) (wz : (Cond.initialized y.cls).before a0 Z = true) (hy : y.cls ≠ "java/lang/invoke/MethodHandle" ∧ y.cls ≠ "java/lang/invoke/VarHandle") (hM : MetFree l y (head1 [Cond.code y bytes maxL ret] rm) (fun a U => a = as' ∧ Z.Warmed39 U.vm ∧ U.heap = h) (fun _ _ _ _ _ => True) (fun _ U o U' => ∃ v L, o = .returned v ∧ Qc v U'.heap L ∧ FrameEnd U o U' L rm.cells rm.slots)) {b : Addr} (E : Exa Z h b C) (eT : T.heap = h) {argsL stk : List Value} {ps : List FieldType} {r : Option FieldType} (hpd : parseMethodDescriptor y.desc = some ⟨ps, r⟩) (hpl : argsL.length = ps.length) (has : as' = (Value.ref b :: argsL).toArray) (hstk : stk = argsL.reverse ++ .ref b :: st) {W : Nat} (hW : (st.map fun v => v.category).sum = W) (hf : rm.frames + 1 ≤ R.frames) (hl : W + (maxL + 11) + rm.locals ≤ R.locals) (hcl : cells + rm.cells ≤ R.cells) (hsl : slots + rm.slots ≤ R.slots) (hd : decode code pc = .ok (.invokevirtual index, 3)) (hp : pc + 3 = pc')
    (K : ∀ T' L v, Stand p l e R s m args below meth c T' (locs ++ L) (cells + rm.cells) (slots + rm.slots) → Qc v T'.heap L → Go p.tables e below Q kc ks s (T'.setTop (mkF m pc' Ls (v.toList ++ st)))) : Go p.tables e below Q kc ks s (T.setTop (mkF m pc Ls stk)) := by
  subst hp has hstk hW
  obtain ⟨cq, qa, qb⟩ := E.cell
  obtain ⟨_, _, ⟨T1, L1, k1, n1⟩, -, X1, ⟨Lc1, hQ1, l1, y1, z1⟩, st1⟩ := X.privateBack hx (y := y) hown (mvT hZ wl) (mvT hZ wi) (mvT hZ ws) (Cond.privateMethod_at (mvP hZ wp (args := #[]))) (mvT hZ wc) hy (backOf (W := (st.map fun v => v.category).sum) hM hZ wc wz hf hl) (g := mkF m pc Ls (argsL.reverse ++ .ref b :: st)) rfl hsz (Steps.refl _) (a := b) (by rw [eT]; exact qa) qb (argsL := argsL) (rest := st) (lenOf hpd hpl) rfl (by show 2 * 0 + _ ≤ _; omega) (hb hby hd) (fun _ _ => ⟨rfl, eT, hcl, hsl⟩)
  dsimp only [Pt.U, Pt.locs, Pt.cells, Pt.slots] at X1 l1 y1 z1 st1 hQ1
  subst l1 y1 z1
  exact Go.via st1 (K _ _ _ X1 hQ1)
theorem cU (X : Stand p l e R s m args below meth c T locs cells slots) (hx : p.tables.exec = Jvm.exec) (hZ : Z.Warmed39 s.vm) (hby : c.code = code) (hsz : Ls.size = c.maxLocals) {own : String} {index : Nat} (hown : s.vm.findClass own = some m.cls) {C : String} {y : MethodName} {bytes : ByteArray} {maxL : Nat} {ret : Option FieldType} {rm : Room} {as' : Array Value} {Qc : Option Value → Heap → List Loc → Prop} (wl : (Cond.methodLink own index y).before a0 Z = true) (wsm : (Cond.sameMethod y.cls y.cls y.name y.desc).before a0 Z = true) (wi : (Cond.instanceMethod y).before a0 Z = true) (wsc : (Cond.superclass own y.cls).before a0 Z = true) (hne : y.name ≠ "<init>") (wc : (Cond.code y bytes maxL ret).before a0 Z = true) (wz : (Cond.initialized y.cls).before a0 Z = true) (hM : MetFree l y (head1 [Cond.code y bytes maxL ret] rm) (fun a U => a = as' ∧ Z.Warmed39 U.vm ∧ U.heap = h) (fun _ _ _ _ _ => True) (fun _ U o U' => ∃ v L, o = .returned v ∧ Qc v U'.heap L ∧ FrameEnd U o U' L rm.cells rm.slots)) {b : Addr} (E : Exa Z h b C) (eT : T.heap = h) {argsL stk : List Value} {ps : List FieldType} {r : Option FieldType} (hpd : parseMethodDescriptor y.desc = some ⟨ps, r⟩) (hpl : argsL.length = ps.length) (has : as' = (Value.ref b :: argsL).toArray) (hstk : stk = argsL.reverse ++ .ref b :: st) {W : Nat} (hW : (st.map fun v => v.category).sum = W) (hf : rm.frames + 1 ≤ R.frames) (hl : W + (maxL + 11) + rm.locals ≤ R.locals) (hcl : cells + rm.cells ≤ R.cells) (hsl : slots + rm.slots ≤ R.slots) (hd : decode code pc = .ok (.invokespecial index, 3)) (hp : pc + 3 = pc')
    (K : ∀ T' L v, Stand p l e R s m args below meth c T' (locs ++ L) (cells + rm.cells) (slots + rm.slots) → Qc v T'.heap L → Go p.tables e below Q kc ks s (T'.setTop (mkF m pc' Ls (v.toList ++ st)))) : Go p.tables e below Q kc ks s (T.setTop (mkF m pc Ls stk)) := by
  subst hp has hstk hW
  obtain ⟨_, _, ⟨T1, L1, k1, n1⟩, -, X1, ⟨Lc1, hQ1, l1, y1, z1⟩, st1⟩ := superBack X hx hZ (y := y) hown wl wsm wi wsc hne (backOf (W := (st.map fun v => v.category).sum) hM hZ wc wz hf hl) eT (Ins.self E) (g := mkF m pc Ls (argsL.reverse ++ .ref b :: st)) rfl hsz wc (argsL := argsL) (rest := st) (lenOf hpd hpl) rfl (by show 2 * 0 + _ ≤ _; omega) (hb hby hd) (fun _ _ => ⟨rfl, eT, hcl, hsl⟩)
  dsimp only [Pt.U, Pt.locs, Pt.cells, Pt.slots] at X1 l1 y1 z1 st1 hQ1
  subst l1 y1 z1
  exact Go.via st1 (K _ _ _ X1 hQ1)
end Laws2
end Jvm.OG
namespace Jvm.Pilot.@@N@@
open Jvm Jvm.ClassFile Sem Op Lib Jvm.Free Jvm.Stand Jvm.LawKit Jvm.RoadKit Bundle Jvm.Pilot.@@N@@.Jvm.D
theorem own_pd_0 : parseMethodDescriptor "(I)Lcom/example/sliceline/sliceline/store/SliceState;" = some ⟨[.int], some (.object "com/example/sliceline/sliceline/store/SliceState")⟩ := by decide +kernel
theorem own_pd_1 : parseMethodDescriptor "()Z" = some ⟨[], some .boolean⟩ := by decide +kernel
theorem own_mod7 (x : Int32) : (x &&& (2147483647 : Int32)) % (7 : Int32) = (0 : Int32) ∨ (x &&& (2147483647 : Int32)) % (7 : Int32) = (1 : Int32) ∨ (x &&& (2147483647 : Int32)) % (7 : Int32) = (2 : Int32) ∨ (x &&& (2147483647 : Int32)) % (7 : Int32) = (3 : Int32) ∨ (x &&& (2147483647 : Int32)) % (7 : Int32) = (4 : Int32) ∨ (x &&& (2147483647 : Int32)) % (7 : Int32) = (5 : Int32) ∨ (x &&& (2147483647 : Int32)) % (7 : Int32) = (6 : Int32) := by
  have e1 : (x &&& (2147483647 : Int32)).toInt = x.toInt % 2 ^ 31 := Jvm.Kit.i32_mask x 2147483647 (k := 31) (by decide) (by decide)
  have e2 : ((x &&& (2147483647 : Int32)) % (7 : Int32)).toInt = (x &&& (2147483647 : Int32)).toInt % (7 : Int32).toInt := Jvm.Kit.i32_rem_nonneg (by omega)
  have e3 : (7 : Int32).toInt = 7 := by decide
  rw [e3] at e2
  have e4 : ((x &&& (2147483647 : Int32)) % (7 : Int32)).toInt = 0 ∨ ((x &&& (2147483647 : Int32)) % (7 : Int32)).toInt = 1 ∨ ((x &&& (2147483647 : Int32)) % (7 : Int32)).toInt = 2 ∨ ((x &&& (2147483647 : Int32)) % (7 : Int32)).toInt = 3 ∨ ((x &&& (2147483647 : Int32)) % (7 : Int32)).toInt = 4 ∨ ((x &&& (2147483647 : Int32)) % (7 : Int32)).toInt = 5 ∨ ((x &&& (2147483647 : Int32)) % (7 : Int32)).toInt = 6 := by omega
  rcases e4 with h | h | h | h | h | h | h <;> simp only [← Int32.toInt_inj, h] <;> decide
theorem own_d_pick_0 : decode method_3_code 0 = .ok (.iload_n 0, 1) := by decide +kernel
theorem own_d_pick_1 : decode method_3_code 1 = .ok (.ifCond .ne 7, 3) := by decide +kernel
theorem own_d_pick_4 : decode method_3_code 4 = .ok (.getstatic 33, 3) := by decide +kernel
theorem own_d_pick_7 : decode method_3_code 7 = .ok (.areturn, 1) := by decide +kernel
theorem own_d_pick_8 : decode method_3_code 8 = .ok (.iload_n 0, 1) := by decide +kernel
theorem own_d_pick_9 : decode method_3_code 9 = .ok (.iconst 1, 1) := by decide +kernel
theorem own_d_pick_10 : decode method_3_code 10 = .ok (.if_icmp .ne 7, 3) := by decide +kernel
theorem own_d_pick_13 : decode method_3_code 13 = .ok (.getstatic 14, 3) := by decide +kernel
theorem own_d_pick_16 : decode method_3_code 16 = .ok (.areturn, 1) := by decide +kernel
theorem own_d_pick_17 : decode method_3_code 17 = .ok (.iload_n 0, 1) := by decide +kernel
theorem own_d_pick_18 : decode method_3_code 18 = .ok (.iconst 2, 1) := by decide +kernel
theorem own_d_pick_19 : decode method_3_code 19 = .ok (.if_icmp .ne 7, 3) := by decide +kernel
theorem own_d_pick_22 : decode method_3_code 22 = .ok (.getstatic 36, 3) := by decide +kernel
theorem own_d_pick_25 : decode method_3_code 25 = .ok (.areturn, 1) := by decide +kernel
theorem own_d_pick_26 : decode method_3_code 26 = .ok (.iload_n 0, 1) := by decide +kernel
theorem own_d_pick_27 : decode method_3_code 27 = .ok (.iconst 3, 1) := by decide +kernel
theorem own_d_pick_28 : decode method_3_code 28 = .ok (.if_icmp .ne 7, 3) := by decide +kernel
theorem own_d_pick_31 : decode method_3_code 31 = .ok (.getstatic 39, 3) := by decide +kernel
theorem own_d_pick_34 : decode method_3_code 34 = .ok (.areturn, 1) := by decide +kernel
theorem own_d_pick_35 : decode method_3_code 35 = .ok (.iload_n 0, 1) := by decide +kernel
theorem own_d_pick_36 : decode method_3_code 36 = .ok (.iconst 4, 1) := by decide +kernel
theorem own_d_pick_37 : decode method_3_code 37 = .ok (.if_icmp .ne 7, 3) := by decide +kernel
theorem own_d_pick_40 : decode method_3_code 40 = .ok (.getstatic 20, 3) := by decide +kernel
theorem own_d_pick_43 : decode method_3_code 43 = .ok (.areturn, 1) := by decide +kernel
theorem own_d_pick_44 : decode method_3_code 44 = .ok (.iload_n 0, 1) := by decide +kernel
theorem own_d_pick_45 : decode method_3_code 45 = .ok (.iconst 5, 1) := by decide +kernel
theorem own_d_pick_46 : decode method_3_code 46 = .ok (.if_icmp .ne 7, 3) := by decide +kernel
theorem own_d_pick_49 : decode method_3_code 49 = .ok (.getstatic 23, 3) := by decide +kernel
theorem own_d_pick_52 : decode method_3_code 52 = .ok (.areturn, 1) := by decide +kernel
theorem own_d_pick_53 : decode method_3_code 53 = .ok (.getstatic 26, 3) := by decide +kernel
theorem own_d_pick_56 : decode method_3_code 56 = .ok (.areturn, 1) := by decide +kernel
theorem own_pn_pick : plainName "com/example/sliceline/sliceline/store/SliceStateWaitsForRunPinLaw" = true := by first | (simp [plainName, overriddenIn]; done) | decide +kernel
theorem own_ef_pick (m : MethodId) (x0 : Int32)  : entryFrame m #[(.int x0)] 1 = mkF m 0 #[.val (.int x0)] [] := by first | (simp [entryFrame, mkF, argsToLocals, Value.category]; done) | rfl
def own_Q_pick (Z : State) (p1 : Int32) (w0 : Addr) (w1 : Addr) (w2 : Addr) (w3 : Addr) (w4 : Addr) (w5 : Addr) (w6 : Addr) (r : Addr) (h0 : Heap) (n0 : Nat) (v : Option Value) (h : Heap) (L : List Loc) : Prop := v = some (.ref r) ∧ Fr n0 L ∧ h = h0
set_option maxRecDepth 65536 in
set_option maxHeartbeats 40000000 in
theorem own_rm_pick (l : Launch) (Z : State) (a0 : Array Value) (hw : ∀ d ∈ tables_1, d.before a0 Z = true) (ws : List Jvm.Cond) (p1 : Int32) (w0 : Addr) (w1 : Addr) (w2 : Addr) (w3 : Addr) (w4 : Addr) (w5 : Addr) (w6 : Addr) (r : Addr) (h0 : Heap) (n0 : Nat) (Z0 : n0 ≤ h0.size) (S_WAITING : Sta Z h0 "com/example/sliceline/sliceline/store/SliceState" "WAITING" "Lcom/example/sliceline/sliceline/store/SliceState;" (.ref w0)) (S_IN_PROGRESS : Sta Z h0 "com/example/sliceline/sliceline/store/SliceState" "IN_PROGRESS" "Lcom/example/sliceline/sliceline/store/SliceState;" (.ref w1)) (S_RETRY : Sta Z h0 "com/example/sliceline/sliceline/store/SliceState" "RETRY" "Lcom/example/sliceline/sliceline/store/SliceState;" (.ref w2)) (S_LONG_RETRY : Sta Z h0 "com/example/sliceline/sliceline/store/SliceState" "LONG_RETRY" "Lcom/example/sliceline/sliceline/store/SliceState;" (.ref w3)) (S_READY : Sta Z h0 "com/example/sliceline/sliceline/store/SliceState" "READY" "Lcom/example/sliceline/sliceline/store/SliceState;" (.ref w4)) (S_FAILED : Sta Z h0 "com/example/sliceline/sliceline/store/SliceState" "FAILED" "Lcom/example/sliceline/sliceline/store/SliceState;" (.ref w5)) (S_TIMED_OUT : Sta Z h0 "com/example/sliceline/sliceline/store/SliceState" "TIMED_OUT" "Lcom/example/sliceline/sliceline/store/SliceState;" (.ref w6)) (hr : (if p1 = (0 : Int32) then w0 else (if p1 = (1 : Int32) then w1 else (if p1 = (2 : Int32) then w2 else (if p1 = (3 : Int32) then w3 else (if p1 = (4 : Int32) then w4 else (if p1 = (5 : Int32) then w5 else w6)))))) = r) :
    MetFree l (⟨"com/example/sliceline/sliceline/store/SliceStateWaitsForRunPinLaw", "pick", "(I)Lcom/example/sliceline/sliceline/store/SliceState;"⟩ : MethodName) (head1 (Jvm.Cond.code (⟨"com/example/sliceline/sliceline/store/SliceStateWaitsForRunPinLaw", "pick", "(I)Lcom/example/sliceline/sliceline/store/SliceState;"⟩ : MethodName) method_3_code 1 (some (.object "com/example/sliceline/sliceline/store/SliceState")) :: ws) ({ frames := 0, cells := 0, slots := 0, locals := 0 } : Room)) (fun a U => a = #[(.int p1)] ∧ Z.Warmed39 U.vm ∧ U.heap = h0) (fun _ _ _ _ _ => True) (fun _ U o U' => ∃ v L, o = .returned v ∧ own_Q_pick Z p1 w0 w1 w2 w3 w4 w5 w6 r h0 n0 v U'.heap L ∧ FrameEnd U o U' L ({ frames := 0, cells := 0, slots := 0, locals := 0 } : Room).cells ({ frames := 0, cells := 0, slots := 0, locals := 0 } : Room).slots) := by
  refine MetFree.of_bodySF (plainFor_of_name own_pn_pick) hisR ?_
  intro p e s m args below meth c s₁ Bd hml0 hP hK
  obtain ⟨rfl, hZ, hh⟩ := hP
  have hx := Bd.exec
  have hby := Bd.bytes
  have hml : c.maxLocals = 1 := hml0
  have hown : s.vm.findClass "com/example/sliceline/sliceline/store/SliceStateWaitsForRunPinLaw" = some m.cls := findClass_of_methodNamed Bd.named
  have hnm := (name_of_methodNamed Bd.named Bd.method).1
  have X0 : Stand p l e ({ frames := 0, cells := 0, slots := 0, locals := 0 } : Room) s m #[(.int p1)] below meth c s₁ [] 0 0 := Stand.of_body Bd
  have e0 : s₁.heap = h0 := by rw [← hh, Bd.state]; rfl
  have N0 := Fr.nil n0
  show OG.Go p.tables e below (own_Q_pick Z p1 w0 w1 w2 w3 w4 w5 w6 r h0 n0) ({ frames := 0, cells := 0, slots := 0, locals := 0 } : Room).cells ({ frames := 0, cells := 0, slots := 0, locals := 0 } : Room).slots s (s₁.setTop (entryFrame m #[(.int p1)] 1))
  refine OG.Go.cast (own_ef_pick m p1) ?_
  refine OG.iloadN X0 hx hby own_d_pick_0 rfl rfl ?_
  by_cases hc1_1 : p1 = (0 : Int32)
  · refine OG.ifNo X0 hx hby own_d_pick_1 (teq hc1_1).2 rfl ?_
    refine OG.gS X0 hx hZ hby hown (hw _ (List.mem_of_getElem? (i := 5) rfl)) Via.refl e0 S_WAITING own_d_pick_4 rfl ?_
    intro T2 X2 e2
    refine OG.retA X2 hx hby Bd.returns rfl rfl rfl own_d_pick_7 Bd.notSynchronized (by decide) (by decide) ?_
    exact ⟨by subst hr; simp [hc1_1], N0, e2⟩
  · refine OG.ifYes (pc' := 8) X0 hx hby own_d_pick_1 (feq hc1_1).2 (by decide) (by decide) ?_
    refine OG.iloadN X0 hx hby own_d_pick_8 rfl rfl ?_
    refine OG.iconst (v := (1 : Int32)) X0 hx hby own_d_pick_9 (by decide) rfl ?_
    by_cases hc10_3 : p1 = (1 : Int32)
    · refine OG.icmpNo X0 hx hby own_d_pick_10 (teq hc10_3).2 rfl ?_
      refine OG.gS X0 hx hZ hby hown (hw _ (List.mem_of_getElem? (i := 8) rfl)) Via.refl e0 S_IN_PROGRESS own_d_pick_13 rfl ?_
      intro T4 X4 e4
      refine OG.retA X4 hx hby Bd.returns rfl rfl rfl own_d_pick_16 Bd.notSynchronized (by decide) (by decide) ?_
      exact ⟨by subst hr; simp [hc1_1, hc10_3], N0, e4⟩
    · refine OG.icmpYes (pc' := 17) X0 hx hby own_d_pick_10 (feq hc10_3).2 (by decide) (by decide) ?_
      refine OG.iloadN X0 hx hby own_d_pick_17 rfl rfl ?_
      refine OG.iconst (v := (2 : Int32)) X0 hx hby own_d_pick_18 (by decide) rfl ?_
      by_cases hc19_5 : p1 = (2 : Int32)
      · refine OG.icmpNo X0 hx hby own_d_pick_19 (teq hc19_5).2 rfl ?_
        refine OG.gS X0 hx hZ hby hown (hw _ (List.mem_of_getElem? (i := 27) rfl)) Via.refl e0 S_RETRY own_d_pick_22 rfl ?_
        intro T6 X6 e6
        refine OG.retA X6 hx hby Bd.returns rfl rfl rfl own_d_pick_25 Bd.notSynchronized (by decide) (by decide) ?_
        exact ⟨by subst hr; simp [hc1_1, hc10_3, hc19_5], N0, e6⟩
      · refine OG.icmpYes (pc' := 26) X0 hx hby own_d_pick_19 (feq hc19_5).2 (by decide) (by decide) ?_
        refine OG.iloadN X0 hx hby own_d_pick_26 rfl rfl ?_
        refine OG.iconst (v := (3 : Int32)) X0 hx hby own_d_pick_27 (by decide) rfl ?_
        by_cases hc28_7 : p1 = (3 : Int32)
        · refine OG.icmpNo X0 hx hby own_d_pick_28 (teq hc28_7).2 rfl ?_
          refine OG.gS X0 hx hZ hby hown (hw _ (List.mem_of_getElem? (i := 22) rfl)) Via.refl e0 S_LONG_RETRY own_d_pick_31 rfl ?_
          intro T8 X8 e8
          refine OG.retA X8 hx hby Bd.returns rfl rfl rfl own_d_pick_34 Bd.notSynchronized (by decide) (by decide) ?_
          exact ⟨by subst hr; simp [hc1_1, hc10_3, hc19_5, hc28_7], N0, e8⟩
        · refine OG.icmpYes (pc' := 35) X0 hx hby own_d_pick_28 (feq hc28_7).2 (by decide) (by decide) ?_
          refine OG.iloadN X0 hx hby own_d_pick_35 rfl rfl ?_
          refine OG.iconst (v := (4 : Int32)) X0 hx hby own_d_pick_36 (by decide) rfl ?_
          by_cases hc37_9 : p1 = (4 : Int32)
          · refine OG.icmpNo X0 hx hby own_d_pick_37 (teq hc37_9).2 rfl ?_
            refine OG.gS X0 hx hZ hby hown (hw _ (List.mem_of_getElem? (i := 10) rfl)) Via.refl e0 S_READY own_d_pick_40 rfl ?_
            intro T10 X10 e10
            refine OG.retA X10 hx hby Bd.returns rfl rfl rfl own_d_pick_43 Bd.notSynchronized (by decide) (by decide) ?_
            exact ⟨by subst hr; simp [hc1_1, hc10_3, hc19_5, hc28_7, hc37_9], N0, e10⟩
          · refine OG.icmpYes (pc' := 44) X0 hx hby own_d_pick_37 (feq hc37_9).2 (by decide) (by decide) ?_
            refine OG.iloadN X0 hx hby own_d_pick_44 rfl rfl ?_
            refine OG.iconst (v := (5 : Int32)) X0 hx hby own_d_pick_45 (by decide) rfl ?_
            by_cases hc46_11 : p1 = (5 : Int32)
            · refine OG.icmpNo X0 hx hby own_d_pick_46 (teq hc46_11).2 rfl ?_
              refine OG.gS X0 hx hZ hby hown (hw _ (List.mem_of_getElem? (i := 12) rfl)) Via.refl e0 S_FAILED own_d_pick_49 rfl ?_
              intro T12 X12 e12
              refine OG.retA X12 hx hby Bd.returns rfl rfl rfl own_d_pick_52 Bd.notSynchronized (by decide) (by decide) ?_
              exact ⟨by subst hr; simp [hc1_1, hc10_3, hc19_5, hc28_7, hc37_9, hc46_11], N0, e12⟩
            · refine OG.icmpYes (pc' := 53) X0 hx hby own_d_pick_46 (feq hc46_11).2 (by decide) (by decide) ?_
              refine OG.gS X0 hx hZ hby hown (hw _ (List.mem_of_getElem? (i := 14) rfl)) Via.refl e0 S_TIMED_OUT own_d_pick_53 rfl ?_
              intro T13 X13 e13
              refine OG.retA X13 hx hby Bd.returns rfl rfl rfl own_d_pick_56 Bd.notSynchronized (by decide) (by decide) ?_
              exact ⟨by subst hr; simp [hc1_1, hc10_3, hc19_5, hc28_7, hc37_9, hc46_11], N0, e13⟩
theorem own_d_waits_0 : decode prog_47_method_4_code 0 = .ok (.aload_n 0, 1) := by decide +kernel
theorem own_d_waits_1 : decode prog_47_method_4_code 1 = .ok (.getstatic 3, 3) := by decide +kernel
theorem own_d_waits_4 : decode prog_47_method_4_code 4 = .ok (.if_acmp .eq 17, 3) := by decide +kernel
theorem own_d_waits_7 : decode prog_47_method_4_code 7 = .ok (.aload_n 0, 1) := by decide +kernel
theorem own_d_waits_8 : decode prog_47_method_4_code 8 = .ok (.getstatic 10, 3) := by decide +kernel
theorem own_d_waits_11 : decode prog_47_method_4_code 11 = .ok (.if_acmp .eq 10, 3) := by decide +kernel
theorem own_d_waits_14 : decode prog_47_method_4_code 14 = .ok (.aload_n 0, 1) := by decide +kernel
theorem own_d_waits_15 : decode prog_47_method_4_code 15 = .ok (.getstatic 13, 3) := by decide +kernel
theorem own_d_waits_18 : decode prog_47_method_4_code 18 = .ok (.if_acmp .ne 7, 3) := by decide +kernel
theorem own_d_waits_21 : decode prog_47_method_4_code 21 = .ok (.iconst 1, 1) := by decide +kernel
theorem own_d_waits_22 : decode prog_47_method_4_code 22 = .ok (.goto 4, 3) := by decide +kernel
theorem own_d_waits_25 : decode prog_47_method_4_code 25 = .ok (.iconst 0, 1) := by decide +kernel
theorem own_d_waits_26 : decode prog_47_method_4_code 26 = .ok (.ireturn, 1) := by decide +kernel
theorem own_pn_waits : plainName "com/example/sliceline/sliceline/store/SliceState" = true := by first | (simp [plainName, overriddenIn]; done) | decide +kernel
theorem own_ef_waits (m : MethodId) (x0 : Addr)  : entryFrame m #[(.ref x0)] 1 = mkF m 0 #[.val (.ref x0)] [] := by first | (simp [entryFrame, mkF, argsToLocals, Value.category]; done) | rfl
def own_Q_waits (Z : State) (a1 : Addr) (w0 : Addr) (w2 : Addr) (w3 : Addr) (r : Int32) (h0 : Heap) (n0 : Nat) (v : Option Value) (h : Heap) (L : List Loc) : Prop := v = some (.int r) ∧ Fr n0 L ∧ h = h0
set_option maxRecDepth 65536 in
set_option maxHeartbeats 40000000 in
theorem own_rm_waits (l : Launch) (Z : State) (a0 : Array Value) (hw : ∀ d ∈ tables_1, d.before a0 Z = true) (ws : List Jvm.Cond) (a1 : Addr) (w0 : Addr) (w2 : Addr) (w3 : Addr) (r : Int32) (h0 : Heap) (n0 : Nat) (Z0 : n0 ≤ h0.size) (S_WAITING : Sta Z h0 "com/example/sliceline/sliceline/store/SliceState" "WAITING" "Lcom/example/sliceline/sliceline/store/SliceState;" (.ref w0)) (S_RETRY : Sta Z h0 "com/example/sliceline/sliceline/store/SliceState" "RETRY" "Lcom/example/sliceline/sliceline/store/SliceState;" (.ref w2)) (S_LONG_RETRY : Sta Z h0 "com/example/sliceline/sliceline/store/SliceState" "LONG_RETRY" "Lcom/example/sliceline/sliceline/store/SliceState;" (.ref w3)) (hr : (if a1 = w0 then (1 : Int32) else if a1 = w2 then 1 else if a1 = w3 then 1 else 0) = r) :
    MetFree l (⟨"com/example/sliceline/sliceline/store/SliceState", "waitsForRun", "()Z"⟩ : MethodName) (head1 (Jvm.Cond.code (⟨"com/example/sliceline/sliceline/store/SliceState", "waitsForRun", "()Z"⟩ : MethodName) prog_47_method_4_code 1 (some .boolean) :: ws) ({ frames := 0, cells := 0, slots := 0, locals := 0 } : Room)) (fun a U => a = #[(.ref a1)] ∧ Z.Warmed39 U.vm ∧ U.heap = h0) (fun _ _ _ _ _ => True) (fun _ U o U' => ∃ v L, o = .returned v ∧ own_Q_waits Z a1 w0 w2 w3 r h0 n0 v U'.heap L ∧ FrameEnd U o U' L ({ frames := 0, cells := 0, slots := 0, locals := 0 } : Room).cells ({ frames := 0, cells := 0, slots := 0, locals := 0 } : Room).slots) := by
  refine MetFree.of_bodySF (plainFor_of_name own_pn_waits) hisR ?_
  intro p e s m args below meth c s₁ Bd hml0 hP hK
  obtain ⟨rfl, hZ, hh⟩ := hP
  have hx := Bd.exec
  have hby := Bd.bytes
  have hml : c.maxLocals = 1 := hml0
  have hown : s.vm.findClass "com/example/sliceline/sliceline/store/SliceState" = some m.cls := findClass_of_methodNamed Bd.named
  have hnm := (name_of_methodNamed Bd.named Bd.method).1
  have X0 : Stand p l e ({ frames := 0, cells := 0, slots := 0, locals := 0 } : Room) s m #[(.ref a1)] below meth c s₁ [] 0 0 := Stand.of_body Bd
  have e0 : s₁.heap = h0 := by rw [← hh, Bd.state]; rfl
  have N0 := Fr.nil n0
  show OG.Go p.tables e below (own_Q_waits Z a1 w0 w2 w3 r h0 n0) ({ frames := 0, cells := 0, slots := 0, locals := 0 } : Room).cells ({ frames := 0, cells := 0, slots := 0, locals := 0 } : Room).slots s (s₁.setTop (entryFrame m #[(.ref a1)] 1))
  refine OG.Go.cast (own_ef_waits m a1) ?_
  refine OG.aloadN X0 hx hby own_d_waits_0 rfl rfl rfl ?_
  refine OG.gS X0 hx hZ hby hown (hw _ (List.mem_of_getElem? (i := 21) rfl)) Via.refl e0 S_WAITING own_d_waits_1 rfl ?_
  intro T1 X1 e1
  by_cases ha4_2 : a1 = w0
  · refine OG.acmp (pc' := 21) (same := true) X1 hx hby own_d_waits_4 rfl rfl (decide_eq_true (congrArg Value.ref ha4_2)) (by decide) (by decide) ?_
    refine OG.iconst (v := (1 : Int32)) X1 hx hby own_d_waits_21 (by decide) rfl ?_
    refine OG.goto (pc' := 26) X1 hx hby own_d_waits_22 (by decide) (by decide) ?_
    refine OG.retZ X1 hx hby Bd.returns (by simp) own_d_waits_26 Bd.notSynchronized (by decide) (by decide) ?_
    exact ⟨by subst hr; simp [nar, ha4_2], N0, e1⟩
  · refine OG.acmp (pc' := 7) (same := false) X1 hx hby own_d_waits_4 rfl rfl (decide_eq_false fun q => ha4_2 (Value.ref.inj q)) (by decide) (by decide) ?_
    refine OG.aloadN X1 hx hby own_d_waits_7 rfl rfl rfl ?_
    refine OG.gS X1 hx hZ hby hown (hw _ (List.mem_of_getElem? (i := 24) rfl)) Via.refl e1 S_RETRY own_d_waits_8 rfl ?_
    intro T3 X3 e3
    by_cases ha11_4 : a1 = w2
    · refine OG.acmp (pc' := 21) (same := true) X3 hx hby own_d_waits_11 rfl rfl (decide_eq_true (congrArg Value.ref ha11_4)) (by decide) (by decide) ?_
      refine OG.iconst (v := (1 : Int32)) X3 hx hby own_d_waits_21 (by decide) rfl ?_
      refine OG.goto (pc' := 26) X3 hx hby own_d_waits_22 (by decide) (by decide) ?_
      refine OG.retZ X3 hx hby Bd.returns (by simp) own_d_waits_26 Bd.notSynchronized (by decide) (by decide) ?_
      exact ⟨by subst hr; simp [nar, ha4_2, ha11_4], N0, e3⟩
    · refine OG.acmp (pc' := 14) (same := false) X3 hx hby own_d_waits_11 rfl rfl (decide_eq_false fun q => ha11_4 (Value.ref.inj q)) (by decide) (by decide) ?_
      refine OG.aloadN X3 hx hby own_d_waits_14 rfl rfl rfl ?_
      refine OG.gS X3 hx hZ hby hown (hw _ (List.mem_of_getElem? (i := 26) rfl)) Via.refl e3 S_LONG_RETRY own_d_waits_15 rfl ?_
      intro T5 X5 e5
      by_cases ha18_6 : a1 = w3
      · refine OG.acmp (pc' := 21) (same := true) X5 hx hby own_d_waits_18 rfl rfl (decide_eq_true (congrArg Value.ref ha18_6)) (by decide) (by decide) ?_
        refine OG.iconst (v := (1 : Int32)) X5 hx hby own_d_waits_21 (by decide) rfl ?_
        refine OG.goto (pc' := 26) X5 hx hby own_d_waits_22 (by decide) (by decide) ?_
        refine OG.retZ X5 hx hby Bd.returns (by simp) own_d_waits_26 Bd.notSynchronized (by decide) (by decide) ?_
        exact ⟨by subst hr; simp [nar, ha4_2, ha11_4, ha18_6], N0, e5⟩
      · refine OG.acmp (pc' := 25) (same := false) X5 hx hby own_d_waits_18 rfl rfl (decide_eq_false fun q => ha18_6 (Value.ref.inj q)) (by decide) (by decide) ?_
        refine OG.iconst (v := (0 : Int32)) X5 hx hby own_d_waits_25 (by decide) rfl ?_
        refine OG.retZ X5 hx hby Bd.returns (by simp) own_d_waits_26 Bd.notSynchronized (by decide) (by decide) ?_
        exact ⟨by subst hr; simp [nar, ha4_2, ha11_4, ha18_6], N0, e5⟩
theorem own_pn_law : plainName "com/example/sliceline/sliceline/store/SliceStateWaitsForRunPinLaw" = true := by first | (simp [plainName, overriddenIn]; done) | decide +kernel
theorem own_ef_law (m : MethodId) (x0 : Int32)  : entryFrame m #[(.int x0)] maxLocals = mkF m 0 #[.val (.int x0), .unset, .unset, .unset, .unset, .unset] [] := by first | (simp [entryFrame, mkF, argsToLocals, Value.category, maxLocals]; done) | rfl
def own_Q_law (Z : State) (p1 : Int32) (w0 : Addr) (w1 : Addr) (w2 : Addr) (w3 : Addr) (w4 : Addr) (w5 : Addr) (w6 : Addr) (h0 : Heap) (n0 : Nat) (v : Option Value) (h : Heap) (L : List Loc) : Prop := v = some (.int (1 : Int32)) ∧ Fr n0 L
set_option maxRecDepth 65536 in
set_option maxHeartbeats 40000000 in
theorem own_rm_law (l : Launch) (Z : State) (a0 : Array Value) (hw : ∀ d ∈ tables_1, d.before a0 Z = true) (ws : List Jvm.Cond) (p1 : Int32) (w0 : Addr) (w1 : Addr) (w2 : Addr) (w3 : Addr) (w4 : Addr) (w5 : Addr) (w6 : Addr) (h0 : Heap) (n0 : Nat) (Z0 : n0 ≤ h0.size) (S_WAITING : Sta Z h0 "com/example/sliceline/sliceline/store/SliceState" "WAITING" "Lcom/example/sliceline/sliceline/store/SliceState;" (.ref w0)) (S_IN_PROGRESS : Sta Z h0 "com/example/sliceline/sliceline/store/SliceState" "IN_PROGRESS" "Lcom/example/sliceline/sliceline/store/SliceState;" (.ref w1)) (S_RETRY : Sta Z h0 "com/example/sliceline/sliceline/store/SliceState" "RETRY" "Lcom/example/sliceline/sliceline/store/SliceState;" (.ref w2)) (S_LONG_RETRY : Sta Z h0 "com/example/sliceline/sliceline/store/SliceState" "LONG_RETRY" "Lcom/example/sliceline/sliceline/store/SliceState;" (.ref w3)) (S_READY : Sta Z h0 "com/example/sliceline/sliceline/store/SliceState" "READY" "Lcom/example/sliceline/sliceline/store/SliceState;" (.ref w4)) (S_FAILED : Sta Z h0 "com/example/sliceline/sliceline/store/SliceState" "FAILED" "Lcom/example/sliceline/sliceline/store/SliceState;" (.ref w5)) (S_TIMED_OUT : Sta Z h0 "com/example/sliceline/sliceline/store/SliceState" "TIMED_OUT" "Lcom/example/sliceline/sliceline/store/SliceState;" (.ref w6)) (E_WAITING : Exa Z h0 w0 "com/example/sliceline/sliceline/store/SliceState") (E_IN_PROGRESS : Exa Z h0 w1 "com/example/sliceline/sliceline/store/SliceState") (E_RETRY : Exa Z h0 w2 "com/example/sliceline/sliceline/store/SliceState") (E_LONG_RETRY : Exa Z h0 w3 "com/example/sliceline/sliceline/store/SliceState") (E_READY : Exa Z h0 w4 "com/example/sliceline/sliceline/store/SliceState") (E_FAILED : Exa Z h0 w5 "com/example/sliceline/sliceline/store/SliceState") (E_TIMED_OUT : Exa Z h0 w6 "com/example/sliceline/sliceline/store/SliceState") (hn0_1 : ¬ (w0 = w1)) (hn0_2 : ¬ (w0 = w2)) (hn0_3 : ¬ (w0 = w3)) (hn0_4 : ¬ (w0 = w4)) (hn0_5 : ¬ (w0 = w5)) (hn0_6 : ¬ (w0 = w6)) (hn1_0 : ¬ (w1 = w0)) (hn1_2 : ¬ (w1 = w2)) (hn1_3 : ¬ (w1 = w3)) (hn1_4 : ¬ (w1 = w4)) (hn1_5 : ¬ (w1 = w5)) (hn1_6 : ¬ (w1 = w6)) (hn2_0 : ¬ (w2 = w0)) (hn2_1 : ¬ (w2 = w1)) (hn2_3 : ¬ (w2 = w3)) (hn2_4 : ¬ (w2 = w4)) (hn2_5 : ¬ (w2 = w5)) (hn2_6 : ¬ (w2 = w6)) (hn3_0 : ¬ (w3 = w0)) (hn3_1 : ¬ (w3 = w1)) (hn3_2 : ¬ (w3 = w2)) (hn3_4 : ¬ (w3 = w4)) (hn3_5 : ¬ (w3 = w5)) (hn3_6 : ¬ (w3 = w6)) (hn4_0 : ¬ (w4 = w0)) (hn4_1 : ¬ (w4 = w1)) (hn4_2 : ¬ (w4 = w2)) (hn4_3 : ¬ (w4 = w3)) (hn4_5 : ¬ (w4 = w5)) (hn4_6 : ¬ (w4 = w6)) (hn5_0 : ¬ (w5 = w0)) (hn5_1 : ¬ (w5 = w1)) (hn5_2 : ¬ (w5 = w2)) (hn5_3 : ¬ (w5 = w3)) (hn5_4 : ¬ (w5 = w4)) (hn5_6 : ¬ (w5 = w6)) (hn6_0 : ¬ (w6 = w0)) (hn6_1 : ¬ (w6 = w1)) (hn6_2 : ¬ (w6 = w2)) (hn6_3 : ¬ (w6 = w3)) (hn6_4 : ¬ (w6 = w4)) (hn6_5 : ¬ (w6 = w5)) :
    MetFree l x (head1 (Jvm.Cond.code x code maxLocals ret :: ws) room_1) (fun a U => a = #[(.int p1)] ∧ Z.Warmed39 U.vm ∧ U.heap = h0) (fun _ _ _ _ _ => True) (fun _ U o U' => ∃ v L, o = .returned v ∧ own_Q_law Z p1 w0 w1 w2 w3 w4 w5 w6 h0 n0 v U'.heap L ∧ FrameEnd U o U' L room_1.cells room_1.slots) := by
  refine MetFree.of_bodySF (plainFor_of_name own_pn_law) hisR ?_
  intro p e s m args below meth c s₁ Bd hml0 hP hK
  obtain ⟨rfl, hZ, hh⟩ := hP
  have hx := Bd.exec
  have hby := Bd.bytes
  have hml : c.maxLocals = 6 := hml0
  have hown : s.vm.findClass "com/example/sliceline/sliceline/store/SliceStateWaitsForRunPinLaw" = some m.cls := findClass_of_methodNamed Bd.named
  have hnm := (name_of_methodNamed Bd.named Bd.method).1
  have X0 : Stand p l e room_1 s m #[(.int p1)] below meth c s₁ [] 0 0 := Stand.of_body Bd
  have e0 : s₁.heap = h0 := by rw [← hh, Bd.state]; rfl
  have N0 := Fr.nil n0
  show OG.Go p.tables e below (own_Q_law Z p1 w0 w1 w2 w3 w4 w5 w6 h0 n0) room_1.cells room_1.slots s (s₁.setTop (entryFrame m #[(.int p1)] maxLocals))
  refine OG.Go.cast (own_ef_law m p1) ?_
  refine OG.iloadN X0 hx hby at_0 rfl rfl ?_
  refine OG.ldcI (v := (2147483647 : Int32)) X0 hx hZ hby hown (hw _ (List.mem_of_getElem? (i := 0) rfl)) at_1 rfl ?_
  refine OG.iand X0 hx hby at_3 rfl ?_
  refine OG.bipush (v := (7 : Int32)) X0 hx hby at_4 (by decide) rfl ?_
  refine OG.irem X0 hx hby at_6 (by decide) rfl ?_
  rcases own_mod7 p1 with hi | hi | hi | hi | hi | hi | hi
  · rw [hi]
    refine OG.istoreN (Ls' := #[.val (.int p1), .val (.int (0 : Int32)), .unset, .unset, .unset, .unset]) X0 hx hby at_7 rfl rfl ?_
    refine OG.iloadN X0 hx hby at_8 rfl rfl ?_
    refine OG.cS X0 hx hZ hby (by rw [hml]; rfl) hown (y := (⟨"com/example/sliceline/sliceline/store/SliceStateWaitsForRunPinLaw", "pick", "(I)Lcom/example/sliceline/sliceline/store/SliceState;"⟩ : MethodName)) (hw _ (List.mem_of_getElem? (i := 1) rfl)) (hw _ (List.mem_of_getElem? (i := 2) rfl)) (hw _ (List.mem_of_getElem? (i := 4) rfl)) (hw _ (List.mem_of_getElem? (i := 3) rfl)) (by decide) (own_rm_pick l Z a0 hw [] (0 : Int32) w0 w1 w2 w3 w4 w5 w6 w0 h0 n0 Z0 S_WAITING S_IN_PROGRESS S_RETRY S_LONG_RETRY S_READY S_FAILED S_TIMED_OUT (by simp)) e0 (argsL := [(.int (0 : Int32))]) (stk := [(.int (0 : Int32))]) (st := []) own_pd_0 rfl rfl rfl (W := 0) rfl (by decide) (by decide) (by decide) (by decide) at_9 rfl ?_
    intro T1 L1 v1 X1 q1
    obtain ⟨rfl, N1, e1⟩ := q1
    have M1 := Fr.app N0 N1
    show OG.Go _ _ _ _ _ _ _ (T1.setTop (mkF m 12 #[.val (.int p1), .val (.int (0 : Int32)), .unset, .unset, .unset, .unset] [(.ref w0)]))
    refine OG.astoreN (Ls' := #[.val (.int p1), .val (.int (0 : Int32)), .val (.ref w0), .unset, .unset, .unset]) X1 hx hby at_12 rfl rfl rfl ?_
    refine OG.aloadN X1 hx hby at_13 rfl rfl rfl ?_
    refine OG.gS X1 hx hZ hby hown (hw _ (List.mem_of_getElem? (i := 8) rfl)) Via.refl e1 S_IN_PROGRESS at_14 rfl ?_
    intro T2 X2 e2
    refine OG.acmp (pc' := 24) (same := false) X2 hx hby at_17 rfl rfl (decide_eq_false fun q => hn0_1 (Value.ref.inj q)) (by decide) (by decide) ?_
    refine OG.iconst (v := (0 : Int32)) X2 hx hby at_24 (by decide) rfl ?_
    refine OG.istoreN (Ls' := #[.val (.int p1), .val (.int (0 : Int32)), .val (.ref w0), .val (.int (0 : Int32)), .unset, .unset]) X2 hx hby at_25 rfl rfl ?_
    refine OG.aloadN X2 hx hby at_26 rfl rfl rfl ?_
    refine OG.gS X2 hx hZ hby hown (hw _ (List.mem_of_getElem? (i := 10) rfl)) Via.refl e2 S_READY at_27 rfl ?_
    intro T3 X3 e3
    refine OG.acmp (pc' := 33) (same := false) X3 hx hby at_30 rfl rfl (decide_eq_false fun q => hn0_4 (Value.ref.inj q)) (by decide) (by decide) ?_
    refine OG.aloadN X3 hx hby at_33 rfl rfl rfl ?_
    refine OG.gS X3 hx hZ hby hown (hw _ (List.mem_of_getElem? (i := 12) rfl)) Via.refl e3 S_FAILED at_34 rfl ?_
    intro T4 X4 e4
    refine OG.acmp (pc' := 40) (same := false) X4 hx hby at_37 rfl rfl (decide_eq_false fun q => hn0_5 (Value.ref.inj q)) (by decide) (by decide) ?_
    refine OG.aloadN X4 hx hby at_40 rfl rfl rfl ?_
    refine OG.gS X4 hx hZ hby hown (hw _ (List.mem_of_getElem? (i := 14) rfl)) Via.refl e4 S_TIMED_OUT at_41 rfl ?_
    intro T5 X5 e5
    refine OG.acmp (pc' := 51) (same := false) X5 hx hby at_44 rfl rfl (decide_eq_false fun q => hn0_6 (Value.ref.inj q)) (by decide) (by decide) ?_
    refine OG.iconst (v := (0 : Int32)) X5 hx hby at_51 (by decide) rfl ?_
    refine OG.istore (Ls' := #[.val (.int p1), .val (.int (0 : Int32)), .val (.ref w0), .val (.int (0 : Int32)), .val (.int (0 : Int32)), .unset]) X5 hx hby at_52 rfl rfl ?_
    refine OG.iloadN X5 hx hby at_54 rfl rfl ?_
    refine OG.ifNo X5 hx hby at_55 (teq (by decide)).2 rfl ?_
    refine OG.iload X5 hx hby at_58 rfl rfl ?_
    refine OG.ifNo X5 hx hby at_60 (teq (by decide)).2 rfl ?_
    refine OG.iconst (v := (1 : Int32)) X5 hx hby at_63 (by decide) rfl ?_
    refine OG.goto (pc' := 68) X5 hx hby at_64 (by decide) (by decide) ?_
    refine OG.istore (Ls' := #[.val (.int p1), .val (.int (0 : Int32)), .val (.ref w0), .val (.int (0 : Int32)), .val (.int (0 : Int32)), .val (.int (1 : Int32))]) X5 hx hby at_68 rfl rfl ?_
    refine OG.aloadN X5 hx hby at_70 rfl rfl rfl ?_
    refine OG.cV X5 hx hZ hby (by rw [hml]; rfl) hown (y := (⟨"com/example/sliceline/sliceline/store/SliceState", "waitsForRun", "()Z"⟩ : MethodName)) (z := (⟨"com/example/sliceline/sliceline/store/SliceState", "waitsForRun", "()Z"⟩ : MethodName)) (hw _ (List.mem_of_getElem? (i := 16) rfl)) (hw _ (List.mem_of_getElem? (i := 17) rfl)) (notFace_of_selects (args := #[]) (mvT hZ (hw _ (List.mem_of_getElem? (i := 19) rfl)))) (hw _ (List.mem_of_getElem? (i := 19) rfl)) (hw _ (List.mem_of_getElem? (i := 18) rfl)) (hw _ (List.mem_of_getElem? (i := 20) rfl)) (hw _ (List.mem_of_getElem? (i := 6) rfl)) (by decide) (own_rm_waits l Z a0 hw [] w0 w0 w2 w3 (1 : Int32) h0 n0 Z0 S_WAITING S_RETRY S_LONG_RETRY (by simp [hn0_2, hn0_3])) E_WAITING e5 (argsL := []) (stk := [(.ref w0)]) (st := []) own_pd_1 rfl rfl rfl (W := 0) rfl (by decide) (by decide) (by decide) (by decide) at_71 rfl ?_
    intro T6 L6 v6 X6 q6
    obtain ⟨rfl, N6, e6⟩ := q6
    have M6 := Fr.app M1 N6
    show OG.Go _ _ _ _ _ _ _ (T6.setTop (mkF m 74 #[.val (.int p1), .val (.int (0 : Int32)), .val (.ref w0), .val (.int (0 : Int32)), .val (.int (0 : Int32)), .val (.int (1 : Int32))] [(.int (1 : Int32))]))
    refine OG.iload X6 hx hby at_74 rfl rfl ?_
    refine OG.icmpNo X6 hx hby at_76 (teq (by decide)).2 rfl ?_
    refine OG.iconst (v := (1 : Int32)) X6 hx hby at_79 (by decide) rfl ?_
    refine OG.goto (pc' := 84) X6 hx hby at_80 (by decide) (by decide) ?_
    refine OG.retZ X6 hx hby Bd.returns (by simp) at_84 Bd.notSynchronized (by decide) (by decide) ?_
    exact ⟨rfl, M6⟩
  · rw [hi]
    refine OG.istoreN (Ls' := #[.val (.int p1), .val (.int (1 : Int32)), .unset, .unset, .unset, .unset]) X0 hx hby at_7 rfl rfl ?_
    refine OG.iloadN X0 hx hby at_8 rfl rfl ?_
    refine OG.cS X0 hx hZ hby (by rw [hml]; rfl) hown (y := (⟨"com/example/sliceline/sliceline/store/SliceStateWaitsForRunPinLaw", "pick", "(I)Lcom/example/sliceline/sliceline/store/SliceState;"⟩ : MethodName)) (hw _ (List.mem_of_getElem? (i := 1) rfl)) (hw _ (List.mem_of_getElem? (i := 2) rfl)) (hw _ (List.mem_of_getElem? (i := 4) rfl)) (hw _ (List.mem_of_getElem? (i := 3) rfl)) (by decide) (own_rm_pick l Z a0 hw [] (1 : Int32) w0 w1 w2 w3 w4 w5 w6 w1 h0 n0 Z0 S_WAITING S_IN_PROGRESS S_RETRY S_LONG_RETRY S_READY S_FAILED S_TIMED_OUT (by simp)) e0 (argsL := [(.int (1 : Int32))]) (stk := [(.int (1 : Int32))]) (st := []) own_pd_0 rfl rfl rfl (W := 0) rfl (by decide) (by decide) (by decide) (by decide) at_9 rfl ?_
    intro T7 L7 v7 X7 q7
    obtain ⟨rfl, N7, e7⟩ := q7
    have M7 := Fr.app N0 N7
    show OG.Go _ _ _ _ _ _ _ (T7.setTop (mkF m 12 #[.val (.int p1), .val (.int (1 : Int32)), .unset, .unset, .unset, .unset] [(.ref w1)]))
    refine OG.astoreN (Ls' := #[.val (.int p1), .val (.int (1 : Int32)), .val (.ref w1), .unset, .unset, .unset]) X7 hx hby at_12 rfl rfl rfl ?_
    refine OG.aloadN X7 hx hby at_13 rfl rfl rfl ?_
    refine OG.gS X7 hx hZ hby hown (hw _ (List.mem_of_getElem? (i := 8) rfl)) Via.refl e7 S_IN_PROGRESS at_14 rfl ?_
    intro T8 X8 e8
    refine OG.acmp (pc' := 20) (same := true) X8 hx hby at_17 rfl rfl (decide_eq_true rfl) (by decide) (by decide) ?_
    refine OG.iconst (v := (1 : Int32)) X8 hx hby at_20 (by decide) rfl ?_
    refine OG.goto (pc' := 25) X8 hx hby at_21 (by decide) (by decide) ?_
    refine OG.istoreN (Ls' := #[.val (.int p1), .val (.int (1 : Int32)), .val (.ref w1), .val (.int (1 : Int32)), .unset, .unset]) X8 hx hby at_25 rfl rfl ?_
    refine OG.aloadN X8 hx hby at_26 rfl rfl rfl ?_
    refine OG.gS X8 hx hZ hby hown (hw _ (List.mem_of_getElem? (i := 10) rfl)) Via.refl e8 S_READY at_27 rfl ?_
    intro T9 X9 e9
    refine OG.acmp (pc' := 33) (same := false) X9 hx hby at_30 rfl rfl (decide_eq_false fun q => hn1_4 (Value.ref.inj q)) (by decide) (by decide) ?_
    refine OG.aloadN X9 hx hby at_33 rfl rfl rfl ?_
    refine OG.gS X9 hx hZ hby hown (hw _ (List.mem_of_getElem? (i := 12) rfl)) Via.refl e9 S_FAILED at_34 rfl ?_
    intro T10 X10 e10
    refine OG.acmp (pc' := 40) (same := false) X10 hx hby at_37 rfl rfl (decide_eq_false fun q => hn1_5 (Value.ref.inj q)) (by decide) (by decide) ?_
    refine OG.aloadN X10 hx hby at_40 rfl rfl rfl ?_
    refine OG.gS X10 hx hZ hby hown (hw _ (List.mem_of_getElem? (i := 14) rfl)) Via.refl e10 S_TIMED_OUT at_41 rfl ?_
    intro T11 X11 e11
    refine OG.acmp (pc' := 51) (same := false) X11 hx hby at_44 rfl rfl (decide_eq_false fun q => hn1_6 (Value.ref.inj q)) (by decide) (by decide) ?_
    refine OG.iconst (v := (0 : Int32)) X11 hx hby at_51 (by decide) rfl ?_
    refine OG.istore (Ls' := #[.val (.int p1), .val (.int (1 : Int32)), .val (.ref w1), .val (.int (1 : Int32)), .val (.int (0 : Int32)), .unset]) X11 hx hby at_52 rfl rfl ?_
    refine OG.iloadN X11 hx hby at_54 rfl rfl ?_
    refine OG.ifYes (pc' := 67) X11 hx hby at_55 (feq (by decide)).2 (by decide) (by decide) ?_
    refine OG.iconst (v := (0 : Int32)) X11 hx hby at_67 (by decide) rfl ?_
    refine OG.istore (Ls' := #[.val (.int p1), .val (.int (1 : Int32)), .val (.ref w1), .val (.int (1 : Int32)), .val (.int (0 : Int32)), .val (.int (0 : Int32))]) X11 hx hby at_68 rfl rfl ?_
    refine OG.aloadN X11 hx hby at_70 rfl rfl rfl ?_
    refine OG.cV X11 hx hZ hby (by rw [hml]; rfl) hown (y := (⟨"com/example/sliceline/sliceline/store/SliceState", "waitsForRun", "()Z"⟩ : MethodName)) (z := (⟨"com/example/sliceline/sliceline/store/SliceState", "waitsForRun", "()Z"⟩ : MethodName)) (hw _ (List.mem_of_getElem? (i := 16) rfl)) (hw _ (List.mem_of_getElem? (i := 17) rfl)) (notFace_of_selects (args := #[]) (mvT hZ (hw _ (List.mem_of_getElem? (i := 19) rfl)))) (hw _ (List.mem_of_getElem? (i := 19) rfl)) (hw _ (List.mem_of_getElem? (i := 18) rfl)) (hw _ (List.mem_of_getElem? (i := 20) rfl)) (hw _ (List.mem_of_getElem? (i := 6) rfl)) (by decide) (own_rm_waits l Z a0 hw [] w1 w0 w2 w3 (0 : Int32) h0 n0 Z0 S_WAITING S_RETRY S_LONG_RETRY (by simp [hn1_0, hn1_2, hn1_3])) E_IN_PROGRESS e11 (argsL := []) (stk := [(.ref w1)]) (st := []) own_pd_1 rfl rfl rfl (W := 0) rfl (by decide) (by decide) (by decide) (by decide) at_71 rfl ?_
    intro T12 L12 v12 X12 q12
    obtain ⟨rfl, N12, e12⟩ := q12
    have M12 := Fr.app M7 N12
    show OG.Go _ _ _ _ _ _ _ (T12.setTop (mkF m 74 #[.val (.int p1), .val (.int (1 : Int32)), .val (.ref w1), .val (.int (1 : Int32)), .val (.int (0 : Int32)), .val (.int (0 : Int32))] [(.int (0 : Int32))]))
    refine OG.iload X12 hx hby at_74 rfl rfl ?_
    refine OG.icmpNo X12 hx hby at_76 (teq (by decide)).2 rfl ?_
    refine OG.iconst (v := (1 : Int32)) X12 hx hby at_79 (by decide) rfl ?_
    refine OG.goto (pc' := 84) X12 hx hby at_80 (by decide) (by decide) ?_
    refine OG.retZ X12 hx hby Bd.returns (by simp) at_84 Bd.notSynchronized (by decide) (by decide) ?_
    exact ⟨rfl, M12⟩
  · rw [hi]
    refine OG.istoreN (Ls' := #[.val (.int p1), .val (.int (2 : Int32)), .unset, .unset, .unset, .unset]) X0 hx hby at_7 rfl rfl ?_
    refine OG.iloadN X0 hx hby at_8 rfl rfl ?_
    refine OG.cS X0 hx hZ hby (by rw [hml]; rfl) hown (y := (⟨"com/example/sliceline/sliceline/store/SliceStateWaitsForRunPinLaw", "pick", "(I)Lcom/example/sliceline/sliceline/store/SliceState;"⟩ : MethodName)) (hw _ (List.mem_of_getElem? (i := 1) rfl)) (hw _ (List.mem_of_getElem? (i := 2) rfl)) (hw _ (List.mem_of_getElem? (i := 4) rfl)) (hw _ (List.mem_of_getElem? (i := 3) rfl)) (by decide) (own_rm_pick l Z a0 hw [] (2 : Int32) w0 w1 w2 w3 w4 w5 w6 w2 h0 n0 Z0 S_WAITING S_IN_PROGRESS S_RETRY S_LONG_RETRY S_READY S_FAILED S_TIMED_OUT (by simp)) e0 (argsL := [(.int (2 : Int32))]) (stk := [(.int (2 : Int32))]) (st := []) own_pd_0 rfl rfl rfl (W := 0) rfl (by decide) (by decide) (by decide) (by decide) at_9 rfl ?_
    intro T13 L13 v13 X13 q13
    obtain ⟨rfl, N13, e13⟩ := q13
    have M13 := Fr.app N0 N13
    show OG.Go _ _ _ _ _ _ _ (T13.setTop (mkF m 12 #[.val (.int p1), .val (.int (2 : Int32)), .unset, .unset, .unset, .unset] [(.ref w2)]))
    refine OG.astoreN (Ls' := #[.val (.int p1), .val (.int (2 : Int32)), .val (.ref w2), .unset, .unset, .unset]) X13 hx hby at_12 rfl rfl rfl ?_
    refine OG.aloadN X13 hx hby at_13 rfl rfl rfl ?_
    refine OG.gS X13 hx hZ hby hown (hw _ (List.mem_of_getElem? (i := 8) rfl)) Via.refl e13 S_IN_PROGRESS at_14 rfl ?_
    intro T14 X14 e14
    refine OG.acmp (pc' := 24) (same := false) X14 hx hby at_17 rfl rfl (decide_eq_false fun q => hn2_1 (Value.ref.inj q)) (by decide) (by decide) ?_
    refine OG.iconst (v := (0 : Int32)) X14 hx hby at_24 (by decide) rfl ?_
    refine OG.istoreN (Ls' := #[.val (.int p1), .val (.int (2 : Int32)), .val (.ref w2), .val (.int (0 : Int32)), .unset, .unset]) X14 hx hby at_25 rfl rfl ?_
    refine OG.aloadN X14 hx hby at_26 rfl rfl rfl ?_
    refine OG.gS X14 hx hZ hby hown (hw _ (List.mem_of_getElem? (i := 10) rfl)) Via.refl e14 S_READY at_27 rfl ?_
    intro T15 X15 e15
    refine OG.acmp (pc' := 33) (same := false) X15 hx hby at_30 rfl rfl (decide_eq_false fun q => hn2_4 (Value.ref.inj q)) (by decide) (by decide) ?_
    refine OG.aloadN X15 hx hby at_33 rfl rfl rfl ?_
    refine OG.gS X15 hx hZ hby hown (hw _ (List.mem_of_getElem? (i := 12) rfl)) Via.refl e15 S_FAILED at_34 rfl ?_
    intro T16 X16 e16
    refine OG.acmp (pc' := 40) (same := false) X16 hx hby at_37 rfl rfl (decide_eq_false fun q => hn2_5 (Value.ref.inj q)) (by decide) (by decide) ?_
    refine OG.aloadN X16 hx hby at_40 rfl rfl rfl ?_
    refine OG.gS X16 hx hZ hby hown (hw _ (List.mem_of_getElem? (i := 14) rfl)) Via.refl e16 S_TIMED_OUT at_41 rfl ?_
    intro T17 X17 e17
    refine OG.acmp (pc' := 51) (same := false) X17 hx hby at_44 rfl rfl (decide_eq_false fun q => hn2_6 (Value.ref.inj q)) (by decide) (by decide) ?_
    refine OG.iconst (v := (0 : Int32)) X17 hx hby at_51 (by decide) rfl ?_
    refine OG.istore (Ls' := #[.val (.int p1), .val (.int (2 : Int32)), .val (.ref w2), .val (.int (0 : Int32)), .val (.int (0 : Int32)), .unset]) X17 hx hby at_52 rfl rfl ?_
    refine OG.iloadN X17 hx hby at_54 rfl rfl ?_
    refine OG.ifNo X17 hx hby at_55 (teq (by decide)).2 rfl ?_
    refine OG.iload X17 hx hby at_58 rfl rfl ?_
    refine OG.ifNo X17 hx hby at_60 (teq (by decide)).2 rfl ?_
    refine OG.iconst (v := (1 : Int32)) X17 hx hby at_63 (by decide) rfl ?_
    refine OG.goto (pc' := 68) X17 hx hby at_64 (by decide) (by decide) ?_
    refine OG.istore (Ls' := #[.val (.int p1), .val (.int (2 : Int32)), .val (.ref w2), .val (.int (0 : Int32)), .val (.int (0 : Int32)), .val (.int (1 : Int32))]) X17 hx hby at_68 rfl rfl ?_
    refine OG.aloadN X17 hx hby at_70 rfl rfl rfl ?_
    refine OG.cV X17 hx hZ hby (by rw [hml]; rfl) hown (y := (⟨"com/example/sliceline/sliceline/store/SliceState", "waitsForRun", "()Z"⟩ : MethodName)) (z := (⟨"com/example/sliceline/sliceline/store/SliceState", "waitsForRun", "()Z"⟩ : MethodName)) (hw _ (List.mem_of_getElem? (i := 16) rfl)) (hw _ (List.mem_of_getElem? (i := 17) rfl)) (notFace_of_selects (args := #[]) (mvT hZ (hw _ (List.mem_of_getElem? (i := 19) rfl)))) (hw _ (List.mem_of_getElem? (i := 19) rfl)) (hw _ (List.mem_of_getElem? (i := 18) rfl)) (hw _ (List.mem_of_getElem? (i := 20) rfl)) (hw _ (List.mem_of_getElem? (i := 6) rfl)) (by decide) (own_rm_waits l Z a0 hw [] w2 w0 w2 w3 (1 : Int32) h0 n0 Z0 S_WAITING S_RETRY S_LONG_RETRY (by simp [hn2_0, hn2_3])) E_RETRY e17 (argsL := []) (stk := [(.ref w2)]) (st := []) own_pd_1 rfl rfl rfl (W := 0) rfl (by decide) (by decide) (by decide) (by decide) at_71 rfl ?_
    intro T18 L18 v18 X18 q18
    obtain ⟨rfl, N18, e18⟩ := q18
    have M18 := Fr.app M13 N18
    show OG.Go _ _ _ _ _ _ _ (T18.setTop (mkF m 74 #[.val (.int p1), .val (.int (2 : Int32)), .val (.ref w2), .val (.int (0 : Int32)), .val (.int (0 : Int32)), .val (.int (1 : Int32))] [(.int (1 : Int32))]))
    refine OG.iload X18 hx hby at_74 rfl rfl ?_
    refine OG.icmpNo X18 hx hby at_76 (teq (by decide)).2 rfl ?_
    refine OG.iconst (v := (1 : Int32)) X18 hx hby at_79 (by decide) rfl ?_
    refine OG.goto (pc' := 84) X18 hx hby at_80 (by decide) (by decide) ?_
    refine OG.retZ X18 hx hby Bd.returns (by simp) at_84 Bd.notSynchronized (by decide) (by decide) ?_
    exact ⟨rfl, M18⟩
  · rw [hi]
    refine OG.istoreN (Ls' := #[.val (.int p1), .val (.int (3 : Int32)), .unset, .unset, .unset, .unset]) X0 hx hby at_7 rfl rfl ?_
    refine OG.iloadN X0 hx hby at_8 rfl rfl ?_
    refine OG.cS X0 hx hZ hby (by rw [hml]; rfl) hown (y := (⟨"com/example/sliceline/sliceline/store/SliceStateWaitsForRunPinLaw", "pick", "(I)Lcom/example/sliceline/sliceline/store/SliceState;"⟩ : MethodName)) (hw _ (List.mem_of_getElem? (i := 1) rfl)) (hw _ (List.mem_of_getElem? (i := 2) rfl)) (hw _ (List.mem_of_getElem? (i := 4) rfl)) (hw _ (List.mem_of_getElem? (i := 3) rfl)) (by decide) (own_rm_pick l Z a0 hw [] (3 : Int32) w0 w1 w2 w3 w4 w5 w6 w3 h0 n0 Z0 S_WAITING S_IN_PROGRESS S_RETRY S_LONG_RETRY S_READY S_FAILED S_TIMED_OUT (by simp)) e0 (argsL := [(.int (3 : Int32))]) (stk := [(.int (3 : Int32))]) (st := []) own_pd_0 rfl rfl rfl (W := 0) rfl (by decide) (by decide) (by decide) (by decide) at_9 rfl ?_
    intro T19 L19 v19 X19 q19
    obtain ⟨rfl, N19, e19⟩ := q19
    have M19 := Fr.app N0 N19
    show OG.Go _ _ _ _ _ _ _ (T19.setTop (mkF m 12 #[.val (.int p1), .val (.int (3 : Int32)), .unset, .unset, .unset, .unset] [(.ref w3)]))
    refine OG.astoreN (Ls' := #[.val (.int p1), .val (.int (3 : Int32)), .val (.ref w3), .unset, .unset, .unset]) X19 hx hby at_12 rfl rfl rfl ?_
    refine OG.aloadN X19 hx hby at_13 rfl rfl rfl ?_
    refine OG.gS X19 hx hZ hby hown (hw _ (List.mem_of_getElem? (i := 8) rfl)) Via.refl e19 S_IN_PROGRESS at_14 rfl ?_
    intro T20 X20 e20
    refine OG.acmp (pc' := 24) (same := false) X20 hx hby at_17 rfl rfl (decide_eq_false fun q => hn3_1 (Value.ref.inj q)) (by decide) (by decide) ?_
    refine OG.iconst (v := (0 : Int32)) X20 hx hby at_24 (by decide) rfl ?_
    refine OG.istoreN (Ls' := #[.val (.int p1), .val (.int (3 : Int32)), .val (.ref w3), .val (.int (0 : Int32)), .unset, .unset]) X20 hx hby at_25 rfl rfl ?_
    refine OG.aloadN X20 hx hby at_26 rfl rfl rfl ?_
    refine OG.gS X20 hx hZ hby hown (hw _ (List.mem_of_getElem? (i := 10) rfl)) Via.refl e20 S_READY at_27 rfl ?_
    intro T21 X21 e21
    refine OG.acmp (pc' := 33) (same := false) X21 hx hby at_30 rfl rfl (decide_eq_false fun q => hn3_4 (Value.ref.inj q)) (by decide) (by decide) ?_
    refine OG.aloadN X21 hx hby at_33 rfl rfl rfl ?_
    refine OG.gS X21 hx hZ hby hown (hw _ (List.mem_of_getElem? (i := 12) rfl)) Via.refl e21 S_FAILED at_34 rfl ?_
    intro T22 X22 e22
    refine OG.acmp (pc' := 40) (same := false) X22 hx hby at_37 rfl rfl (decide_eq_false fun q => hn3_5 (Value.ref.inj q)) (by decide) (by decide) ?_
    refine OG.aloadN X22 hx hby at_40 rfl rfl rfl ?_
    refine OG.gS X22 hx hZ hby hown (hw _ (List.mem_of_getElem? (i := 14) rfl)) Via.refl e22 S_TIMED_OUT at_41 rfl ?_
    intro T23 X23 e23
    refine OG.acmp (pc' := 51) (same := false) X23 hx hby at_44 rfl rfl (decide_eq_false fun q => hn3_6 (Value.ref.inj q)) (by decide) (by decide) ?_
    refine OG.iconst (v := (0 : Int32)) X23 hx hby at_51 (by decide) rfl ?_
    refine OG.istore (Ls' := #[.val (.int p1), .val (.int (3 : Int32)), .val (.ref w3), .val (.int (0 : Int32)), .val (.int (0 : Int32)), .unset]) X23 hx hby at_52 rfl rfl ?_
    refine OG.iloadN X23 hx hby at_54 rfl rfl ?_
    refine OG.ifNo X23 hx hby at_55 (teq (by decide)).2 rfl ?_
    refine OG.iload X23 hx hby at_58 rfl rfl ?_
    refine OG.ifNo X23 hx hby at_60 (teq (by decide)).2 rfl ?_
    refine OG.iconst (v := (1 : Int32)) X23 hx hby at_63 (by decide) rfl ?_
    refine OG.goto (pc' := 68) X23 hx hby at_64 (by decide) (by decide) ?_
    refine OG.istore (Ls' := #[.val (.int p1), .val (.int (3 : Int32)), .val (.ref w3), .val (.int (0 : Int32)), .val (.int (0 : Int32)), .val (.int (1 : Int32))]) X23 hx hby at_68 rfl rfl ?_
    refine OG.aloadN X23 hx hby at_70 rfl rfl rfl ?_
    refine OG.cV X23 hx hZ hby (by rw [hml]; rfl) hown (y := (⟨"com/example/sliceline/sliceline/store/SliceState", "waitsForRun", "()Z"⟩ : MethodName)) (z := (⟨"com/example/sliceline/sliceline/store/SliceState", "waitsForRun", "()Z"⟩ : MethodName)) (hw _ (List.mem_of_getElem? (i := 16) rfl)) (hw _ (List.mem_of_getElem? (i := 17) rfl)) (notFace_of_selects (args := #[]) (mvT hZ (hw _ (List.mem_of_getElem? (i := 19) rfl)))) (hw _ (List.mem_of_getElem? (i := 19) rfl)) (hw _ (List.mem_of_getElem? (i := 18) rfl)) (hw _ (List.mem_of_getElem? (i := 20) rfl)) (hw _ (List.mem_of_getElem? (i := 6) rfl)) (by decide) (own_rm_waits l Z a0 hw [] w3 w0 w2 w3 (1 : Int32) h0 n0 Z0 S_WAITING S_RETRY S_LONG_RETRY (by simp [hn3_0, hn3_2])) E_LONG_RETRY e23 (argsL := []) (stk := [(.ref w3)]) (st := []) own_pd_1 rfl rfl rfl (W := 0) rfl (by decide) (by decide) (by decide) (by decide) at_71 rfl ?_
    intro T24 L24 v24 X24 q24
    obtain ⟨rfl, N24, e24⟩ := q24
    have M24 := Fr.app M19 N24
    show OG.Go _ _ _ _ _ _ _ (T24.setTop (mkF m 74 #[.val (.int p1), .val (.int (3 : Int32)), .val (.ref w3), .val (.int (0 : Int32)), .val (.int (0 : Int32)), .val (.int (1 : Int32))] [(.int (1 : Int32))]))
    refine OG.iload X24 hx hby at_74 rfl rfl ?_
    refine OG.icmpNo X24 hx hby at_76 (teq (by decide)).2 rfl ?_
    refine OG.iconst (v := (1 : Int32)) X24 hx hby at_79 (by decide) rfl ?_
    refine OG.goto (pc' := 84) X24 hx hby at_80 (by decide) (by decide) ?_
    refine OG.retZ X24 hx hby Bd.returns (by simp) at_84 Bd.notSynchronized (by decide) (by decide) ?_
    exact ⟨rfl, M24⟩
  · rw [hi]
    refine OG.istoreN (Ls' := #[.val (.int p1), .val (.int (4 : Int32)), .unset, .unset, .unset, .unset]) X0 hx hby at_7 rfl rfl ?_
    refine OG.iloadN X0 hx hby at_8 rfl rfl ?_
    refine OG.cS X0 hx hZ hby (by rw [hml]; rfl) hown (y := (⟨"com/example/sliceline/sliceline/store/SliceStateWaitsForRunPinLaw", "pick", "(I)Lcom/example/sliceline/sliceline/store/SliceState;"⟩ : MethodName)) (hw _ (List.mem_of_getElem? (i := 1) rfl)) (hw _ (List.mem_of_getElem? (i := 2) rfl)) (hw _ (List.mem_of_getElem? (i := 4) rfl)) (hw _ (List.mem_of_getElem? (i := 3) rfl)) (by decide) (own_rm_pick l Z a0 hw [] (4 : Int32) w0 w1 w2 w3 w4 w5 w6 w4 h0 n0 Z0 S_WAITING S_IN_PROGRESS S_RETRY S_LONG_RETRY S_READY S_FAILED S_TIMED_OUT (by simp)) e0 (argsL := [(.int (4 : Int32))]) (stk := [(.int (4 : Int32))]) (st := []) own_pd_0 rfl rfl rfl (W := 0) rfl (by decide) (by decide) (by decide) (by decide) at_9 rfl ?_
    intro T25 L25 v25 X25 q25
    obtain ⟨rfl, N25, e25⟩ := q25
    have M25 := Fr.app N0 N25
    show OG.Go _ _ _ _ _ _ _ (T25.setTop (mkF m 12 #[.val (.int p1), .val (.int (4 : Int32)), .unset, .unset, .unset, .unset] [(.ref w4)]))
    refine OG.astoreN (Ls' := #[.val (.int p1), .val (.int (4 : Int32)), .val (.ref w4), .unset, .unset, .unset]) X25 hx hby at_12 rfl rfl rfl ?_
    refine OG.aloadN X25 hx hby at_13 rfl rfl rfl ?_
    refine OG.gS X25 hx hZ hby hown (hw _ (List.mem_of_getElem? (i := 8) rfl)) Via.refl e25 S_IN_PROGRESS at_14 rfl ?_
    intro T26 X26 e26
    refine OG.acmp (pc' := 24) (same := false) X26 hx hby at_17 rfl rfl (decide_eq_false fun q => hn4_1 (Value.ref.inj q)) (by decide) (by decide) ?_
    refine OG.iconst (v := (0 : Int32)) X26 hx hby at_24 (by decide) rfl ?_
    refine OG.istoreN (Ls' := #[.val (.int p1), .val (.int (4 : Int32)), .val (.ref w4), .val (.int (0 : Int32)), .unset, .unset]) X26 hx hby at_25 rfl rfl ?_
    refine OG.aloadN X26 hx hby at_26 rfl rfl rfl ?_
    refine OG.gS X26 hx hZ hby hown (hw _ (List.mem_of_getElem? (i := 10) rfl)) Via.refl e26 S_READY at_27 rfl ?_
    intro T27 X27 e27
    refine OG.acmp (pc' := 47) (same := true) X27 hx hby at_30 rfl rfl (decide_eq_true rfl) (by decide) (by decide) ?_
    refine OG.iconst (v := (1 : Int32)) X27 hx hby at_47 (by decide) rfl ?_
    refine OG.goto (pc' := 52) X27 hx hby at_48 (by decide) (by decide) ?_
    refine OG.istore (Ls' := #[.val (.int p1), .val (.int (4 : Int32)), .val (.ref w4), .val (.int (0 : Int32)), .val (.int (1 : Int32)), .unset]) X27 hx hby at_52 rfl rfl ?_
    refine OG.iloadN X27 hx hby at_54 rfl rfl ?_
    refine OG.ifNo X27 hx hby at_55 (teq (by decide)).2 rfl ?_
    refine OG.iload X27 hx hby at_58 rfl rfl ?_
    refine OG.ifYes (pc' := 67) X27 hx hby at_60 (feq (by decide)).2 (by decide) (by decide) ?_
    refine OG.iconst (v := (0 : Int32)) X27 hx hby at_67 (by decide) rfl ?_
    refine OG.istore (Ls' := #[.val (.int p1), .val (.int (4 : Int32)), .val (.ref w4), .val (.int (0 : Int32)), .val (.int (1 : Int32)), .val (.int (0 : Int32))]) X27 hx hby at_68 rfl rfl ?_
    refine OG.aloadN X27 hx hby at_70 rfl rfl rfl ?_
    refine OG.cV X27 hx hZ hby (by rw [hml]; rfl) hown (y := (⟨"com/example/sliceline/sliceline/store/SliceState", "waitsForRun", "()Z"⟩ : MethodName)) (z := (⟨"com/example/sliceline/sliceline/store/SliceState", "waitsForRun", "()Z"⟩ : MethodName)) (hw _ (List.mem_of_getElem? (i := 16) rfl)) (hw _ (List.mem_of_getElem? (i := 17) rfl)) (notFace_of_selects (args := #[]) (mvT hZ (hw _ (List.mem_of_getElem? (i := 19) rfl)))) (hw _ (List.mem_of_getElem? (i := 19) rfl)) (hw _ (List.mem_of_getElem? (i := 18) rfl)) (hw _ (List.mem_of_getElem? (i := 20) rfl)) (hw _ (List.mem_of_getElem? (i := 6) rfl)) (by decide) (own_rm_waits l Z a0 hw [] w4 w0 w2 w3 (0 : Int32) h0 n0 Z0 S_WAITING S_RETRY S_LONG_RETRY (by simp [hn4_0, hn4_2, hn4_3])) E_READY e27 (argsL := []) (stk := [(.ref w4)]) (st := []) own_pd_1 rfl rfl rfl (W := 0) rfl (by decide) (by decide) (by decide) (by decide) at_71 rfl ?_
    intro T28 L28 v28 X28 q28
    obtain ⟨rfl, N28, e28⟩ := q28
    have M28 := Fr.app M25 N28
    show OG.Go _ _ _ _ _ _ _ (T28.setTop (mkF m 74 #[.val (.int p1), .val (.int (4 : Int32)), .val (.ref w4), .val (.int (0 : Int32)), .val (.int (1 : Int32)), .val (.int (0 : Int32))] [(.int (0 : Int32))]))
    refine OG.iload X28 hx hby at_74 rfl rfl ?_
    refine OG.icmpNo X28 hx hby at_76 (teq (by decide)).2 rfl ?_
    refine OG.iconst (v := (1 : Int32)) X28 hx hby at_79 (by decide) rfl ?_
    refine OG.goto (pc' := 84) X28 hx hby at_80 (by decide) (by decide) ?_
    refine OG.retZ X28 hx hby Bd.returns (by simp) at_84 Bd.notSynchronized (by decide) (by decide) ?_
    exact ⟨rfl, M28⟩
  · rw [hi]
    refine OG.istoreN (Ls' := #[.val (.int p1), .val (.int (5 : Int32)), .unset, .unset, .unset, .unset]) X0 hx hby at_7 rfl rfl ?_
    refine OG.iloadN X0 hx hby at_8 rfl rfl ?_
    refine OG.cS X0 hx hZ hby (by rw [hml]; rfl) hown (y := (⟨"com/example/sliceline/sliceline/store/SliceStateWaitsForRunPinLaw", "pick", "(I)Lcom/example/sliceline/sliceline/store/SliceState;"⟩ : MethodName)) (hw _ (List.mem_of_getElem? (i := 1) rfl)) (hw _ (List.mem_of_getElem? (i := 2) rfl)) (hw _ (List.mem_of_getElem? (i := 4) rfl)) (hw _ (List.mem_of_getElem? (i := 3) rfl)) (by decide) (own_rm_pick l Z a0 hw [] (5 : Int32) w0 w1 w2 w3 w4 w5 w6 w5 h0 n0 Z0 S_WAITING S_IN_PROGRESS S_RETRY S_LONG_RETRY S_READY S_FAILED S_TIMED_OUT (by simp)) e0 (argsL := [(.int (5 : Int32))]) (stk := [(.int (5 : Int32))]) (st := []) own_pd_0 rfl rfl rfl (W := 0) rfl (by decide) (by decide) (by decide) (by decide) at_9 rfl ?_
    intro T29 L29 v29 X29 q29
    obtain ⟨rfl, N29, e29⟩ := q29
    have M29 := Fr.app N0 N29
    show OG.Go _ _ _ _ _ _ _ (T29.setTop (mkF m 12 #[.val (.int p1), .val (.int (5 : Int32)), .unset, .unset, .unset, .unset] [(.ref w5)]))
    refine OG.astoreN (Ls' := #[.val (.int p1), .val (.int (5 : Int32)), .val (.ref w5), .unset, .unset, .unset]) X29 hx hby at_12 rfl rfl rfl ?_
    refine OG.aloadN X29 hx hby at_13 rfl rfl rfl ?_
    refine OG.gS X29 hx hZ hby hown (hw _ (List.mem_of_getElem? (i := 8) rfl)) Via.refl e29 S_IN_PROGRESS at_14 rfl ?_
    intro T30 X30 e30
    refine OG.acmp (pc' := 24) (same := false) X30 hx hby at_17 rfl rfl (decide_eq_false fun q => hn5_1 (Value.ref.inj q)) (by decide) (by decide) ?_
    refine OG.iconst (v := (0 : Int32)) X30 hx hby at_24 (by decide) rfl ?_
    refine OG.istoreN (Ls' := #[.val (.int p1), .val (.int (5 : Int32)), .val (.ref w5), .val (.int (0 : Int32)), .unset, .unset]) X30 hx hby at_25 rfl rfl ?_
    refine OG.aloadN X30 hx hby at_26 rfl rfl rfl ?_
    refine OG.gS X30 hx hZ hby hown (hw _ (List.mem_of_getElem? (i := 10) rfl)) Via.refl e30 S_READY at_27 rfl ?_
    intro T31 X31 e31
    refine OG.acmp (pc' := 33) (same := false) X31 hx hby at_30 rfl rfl (decide_eq_false fun q => hn5_4 (Value.ref.inj q)) (by decide) (by decide) ?_
    refine OG.aloadN X31 hx hby at_33 rfl rfl rfl ?_
    refine OG.gS X31 hx hZ hby hown (hw _ (List.mem_of_getElem? (i := 12) rfl)) Via.refl e31 S_FAILED at_34 rfl ?_
    intro T32 X32 e32
    refine OG.acmp (pc' := 47) (same := true) X32 hx hby at_37 rfl rfl (decide_eq_true rfl) (by decide) (by decide) ?_
    refine OG.iconst (v := (1 : Int32)) X32 hx hby at_47 (by decide) rfl ?_
    refine OG.goto (pc' := 52) X32 hx hby at_48 (by decide) (by decide) ?_
    refine OG.istore (Ls' := #[.val (.int p1), .val (.int (5 : Int32)), .val (.ref w5), .val (.int (0 : Int32)), .val (.int (1 : Int32)), .unset]) X32 hx hby at_52 rfl rfl ?_
    refine OG.iloadN X32 hx hby at_54 rfl rfl ?_
    refine OG.ifNo X32 hx hby at_55 (teq (by decide)).2 rfl ?_
    refine OG.iload X32 hx hby at_58 rfl rfl ?_
    refine OG.ifYes (pc' := 67) X32 hx hby at_60 (feq (by decide)).2 (by decide) (by decide) ?_
    refine OG.iconst (v := (0 : Int32)) X32 hx hby at_67 (by decide) rfl ?_
    refine OG.istore (Ls' := #[.val (.int p1), .val (.int (5 : Int32)), .val (.ref w5), .val (.int (0 : Int32)), .val (.int (1 : Int32)), .val (.int (0 : Int32))]) X32 hx hby at_68 rfl rfl ?_
    refine OG.aloadN X32 hx hby at_70 rfl rfl rfl ?_
    refine OG.cV X32 hx hZ hby (by rw [hml]; rfl) hown (y := (⟨"com/example/sliceline/sliceline/store/SliceState", "waitsForRun", "()Z"⟩ : MethodName)) (z := (⟨"com/example/sliceline/sliceline/store/SliceState", "waitsForRun", "()Z"⟩ : MethodName)) (hw _ (List.mem_of_getElem? (i := 16) rfl)) (hw _ (List.mem_of_getElem? (i := 17) rfl)) (notFace_of_selects (args := #[]) (mvT hZ (hw _ (List.mem_of_getElem? (i := 19) rfl)))) (hw _ (List.mem_of_getElem? (i := 19) rfl)) (hw _ (List.mem_of_getElem? (i := 18) rfl)) (hw _ (List.mem_of_getElem? (i := 20) rfl)) (hw _ (List.mem_of_getElem? (i := 6) rfl)) (by decide) (own_rm_waits l Z a0 hw [] w5 w0 w2 w3 (0 : Int32) h0 n0 Z0 S_WAITING S_RETRY S_LONG_RETRY (by simp [hn5_0, hn5_2, hn5_3])) E_FAILED e32 (argsL := []) (stk := [(.ref w5)]) (st := []) own_pd_1 rfl rfl rfl (W := 0) rfl (by decide) (by decide) (by decide) (by decide) at_71 rfl ?_
    intro T33 L33 v33 X33 q33
    obtain ⟨rfl, N33, e33⟩ := q33
    have M33 := Fr.app M29 N33
    show OG.Go _ _ _ _ _ _ _ (T33.setTop (mkF m 74 #[.val (.int p1), .val (.int (5 : Int32)), .val (.ref w5), .val (.int (0 : Int32)), .val (.int (1 : Int32)), .val (.int (0 : Int32))] [(.int (0 : Int32))]))
    refine OG.iload X33 hx hby at_74 rfl rfl ?_
    refine OG.icmpNo X33 hx hby at_76 (teq (by decide)).2 rfl ?_
    refine OG.iconst (v := (1 : Int32)) X33 hx hby at_79 (by decide) rfl ?_
    refine OG.goto (pc' := 84) X33 hx hby at_80 (by decide) (by decide) ?_
    refine OG.retZ X33 hx hby Bd.returns (by simp) at_84 Bd.notSynchronized (by decide) (by decide) ?_
    exact ⟨rfl, M33⟩
  · rw [hi]
    refine OG.istoreN (Ls' := #[.val (.int p1), .val (.int (6 : Int32)), .unset, .unset, .unset, .unset]) X0 hx hby at_7 rfl rfl ?_
    refine OG.iloadN X0 hx hby at_8 rfl rfl ?_
    refine OG.cS X0 hx hZ hby (by rw [hml]; rfl) hown (y := (⟨"com/example/sliceline/sliceline/store/SliceStateWaitsForRunPinLaw", "pick", "(I)Lcom/example/sliceline/sliceline/store/SliceState;"⟩ : MethodName)) (hw _ (List.mem_of_getElem? (i := 1) rfl)) (hw _ (List.mem_of_getElem? (i := 2) rfl)) (hw _ (List.mem_of_getElem? (i := 4) rfl)) (hw _ (List.mem_of_getElem? (i := 3) rfl)) (by decide) (own_rm_pick l Z a0 hw [] (6 : Int32) w0 w1 w2 w3 w4 w5 w6 w6 h0 n0 Z0 S_WAITING S_IN_PROGRESS S_RETRY S_LONG_RETRY S_READY S_FAILED S_TIMED_OUT (by simp)) e0 (argsL := [(.int (6 : Int32))]) (stk := [(.int (6 : Int32))]) (st := []) own_pd_0 rfl rfl rfl (W := 0) rfl (by decide) (by decide) (by decide) (by decide) at_9 rfl ?_
    intro T34 L34 v34 X34 q34
    obtain ⟨rfl, N34, e34⟩ := q34
    have M34 := Fr.app N0 N34
    show OG.Go _ _ _ _ _ _ _ (T34.setTop (mkF m 12 #[.val (.int p1), .val (.int (6 : Int32)), .unset, .unset, .unset, .unset] [(.ref w6)]))
    refine OG.astoreN (Ls' := #[.val (.int p1), .val (.int (6 : Int32)), .val (.ref w6), .unset, .unset, .unset]) X34 hx hby at_12 rfl rfl rfl ?_
    refine OG.aloadN X34 hx hby at_13 rfl rfl rfl ?_
    refine OG.gS X34 hx hZ hby hown (hw _ (List.mem_of_getElem? (i := 8) rfl)) Via.refl e34 S_IN_PROGRESS at_14 rfl ?_
    intro T35 X35 e35
    refine OG.acmp (pc' := 24) (same := false) X35 hx hby at_17 rfl rfl (decide_eq_false fun q => hn6_1 (Value.ref.inj q)) (by decide) (by decide) ?_
    refine OG.iconst (v := (0 : Int32)) X35 hx hby at_24 (by decide) rfl ?_
    refine OG.istoreN (Ls' := #[.val (.int p1), .val (.int (6 : Int32)), .val (.ref w6), .val (.int (0 : Int32)), .unset, .unset]) X35 hx hby at_25 rfl rfl ?_
    refine OG.aloadN X35 hx hby at_26 rfl rfl rfl ?_
    refine OG.gS X35 hx hZ hby hown (hw _ (List.mem_of_getElem? (i := 10) rfl)) Via.refl e35 S_READY at_27 rfl ?_
    intro T36 X36 e36
    refine OG.acmp (pc' := 33) (same := false) X36 hx hby at_30 rfl rfl (decide_eq_false fun q => hn6_4 (Value.ref.inj q)) (by decide) (by decide) ?_
    refine OG.aloadN X36 hx hby at_33 rfl rfl rfl ?_
    refine OG.gS X36 hx hZ hby hown (hw _ (List.mem_of_getElem? (i := 12) rfl)) Via.refl e36 S_FAILED at_34 rfl ?_
    intro T37 X37 e37
    refine OG.acmp (pc' := 40) (same := false) X37 hx hby at_37 rfl rfl (decide_eq_false fun q => hn6_5 (Value.ref.inj q)) (by decide) (by decide) ?_
    refine OG.aloadN X37 hx hby at_40 rfl rfl rfl ?_
    refine OG.gS X37 hx hZ hby hown (hw _ (List.mem_of_getElem? (i := 14) rfl)) Via.refl e37 S_TIMED_OUT at_41 rfl ?_
    intro T38 X38 e38
    refine OG.acmp (pc' := 47) (same := true) X38 hx hby at_44 rfl rfl (decide_eq_true rfl) (by decide) (by decide) ?_
    refine OG.iconst (v := (1 : Int32)) X38 hx hby at_47 (by decide) rfl ?_
    refine OG.goto (pc' := 52) X38 hx hby at_48 (by decide) (by decide) ?_
    refine OG.istore (Ls' := #[.val (.int p1), .val (.int (6 : Int32)), .val (.ref w6), .val (.int (0 : Int32)), .val (.int (1 : Int32)), .unset]) X38 hx hby at_52 rfl rfl ?_
    refine OG.iloadN X38 hx hby at_54 rfl rfl ?_
    refine OG.ifNo X38 hx hby at_55 (teq (by decide)).2 rfl ?_
    refine OG.iload X38 hx hby at_58 rfl rfl ?_
    refine OG.ifYes (pc' := 67) X38 hx hby at_60 (feq (by decide)).2 (by decide) (by decide) ?_
    refine OG.iconst (v := (0 : Int32)) X38 hx hby at_67 (by decide) rfl ?_
    refine OG.istore (Ls' := #[.val (.int p1), .val (.int (6 : Int32)), .val (.ref w6), .val (.int (0 : Int32)), .val (.int (1 : Int32)), .val (.int (0 : Int32))]) X38 hx hby at_68 rfl rfl ?_
    refine OG.aloadN X38 hx hby at_70 rfl rfl rfl ?_
    refine OG.cV X38 hx hZ hby (by rw [hml]; rfl) hown (y := (⟨"com/example/sliceline/sliceline/store/SliceState", "waitsForRun", "()Z"⟩ : MethodName)) (z := (⟨"com/example/sliceline/sliceline/store/SliceState", "waitsForRun", "()Z"⟩ : MethodName)) (hw _ (List.mem_of_getElem? (i := 16) rfl)) (hw _ (List.mem_of_getElem? (i := 17) rfl)) (notFace_of_selects (args := #[]) (mvT hZ (hw _ (List.mem_of_getElem? (i := 19) rfl)))) (hw _ (List.mem_of_getElem? (i := 19) rfl)) (hw _ (List.mem_of_getElem? (i := 18) rfl)) (hw _ (List.mem_of_getElem? (i := 20) rfl)) (hw _ (List.mem_of_getElem? (i := 6) rfl)) (by decide) (own_rm_waits l Z a0 hw [] w6 w0 w2 w3 (0 : Int32) h0 n0 Z0 S_WAITING S_RETRY S_LONG_RETRY (by simp [hn6_0, hn6_2, hn6_3])) E_TIMED_OUT e38 (argsL := []) (stk := [(.ref w6)]) (st := []) own_pd_1 rfl rfl rfl (W := 0) rfl (by decide) (by decide) (by decide) (by decide) at_71 rfl ?_
    intro T39 L39 v39 X39 q39
    obtain ⟨rfl, N39, e39⟩ := q39
    have M39 := Fr.app M34 N39
    show OG.Go _ _ _ _ _ _ _ (T39.setTop (mkF m 74 #[.val (.int p1), .val (.int (6 : Int32)), .val (.ref w6), .val (.int (0 : Int32)), .val (.int (1 : Int32)), .val (.int (0 : Int32))] [(.int (0 : Int32))]))
    refine OG.iload X39 hx hby at_74 rfl rfl ?_
    refine OG.icmpNo X39 hx hby at_76 (teq (by decide)).2 rfl ?_
    refine OG.iconst (v := (1 : Int32)) X39 hx hby at_79 (by decide) rfl ?_
    refine OG.goto (pc' := 84) X39 hx hby at_80 (by decide) (by decide) ?_
    refine OG.retZ X39 hx hby Bd.returns (by simp) at_84 Bd.notSynchronized (by decide) (by decide) ?_
    exact ⟨rfl, M39⟩
set_option maxRecDepth 65536 in
set_option maxHeartbeats 40000000 in
theorem comes_1 {Post : Tables → Env → Array Value → State → Outcome → State → Prop} (hpost : ∀ tb e args s v u, (limb_1_1.after args s (.returned v) u = true ∧ limb_1_2.after args s (.returned v) u = true ∧ True) → FrameEnd s (.returned v) u (Jvm.fieldLocs frame_1_writes args s ++ Jvm.arrayLocs frame_1_arrays args s ++ Jvm.staticLocs frame_1_statics s) 0 0 → Post tb e args s (.returned v) u) :
    ArmFor flags0 classFile x code maxLocals ret World_1 tables_1 room_1 Calls_1 rest_1 Pre_1 Post := by
  intro l hfl _ _ p e ha hc hk s m args below hf hA hF happ hP
  obtain ⟨hcalls, hrest, hpre⟩ := hP
  obtain ⟨-, -, -, hnamed, -, -, -, hat⟩ := (Spec.applies_iff hf).mp happ
  obtain ⟨hg, hn⟩ := and_e (Cond.before_iff.mp (show (Jvm.Cond.and given_1 narrow_1).before args s = true from hpre))
  obtain ⟨gc, gr0⟩ := and_e hg
  obtain ⟨w0, rfl⟩ : ∃ w0 : Value, args = #[w0] := by
    have hs : args.size = 1 := by simpa [Cond.value, given_1] using gc
    obtain ⟨L⟩ := args
    match L, hs with
    | [w0], _ => exact ⟨w0, rfl⟩
  have hw := fun d (hd : d ∈ tables_1) => atoms_spec (ws := Jvm.Cond.code x code maxLocals ret :: tables_1) hat d (List.mem_cons_of_mem _ hd)
  have hfit : Fit s := fun {y c} hc i hi => by
    obtain ⟨ha, rfl⟩ := Array.getElem?_eq_some_iff.mp hc
    have q := List.all_eq_true.mp ((Array.all_eq_true_iff_forall_mem.mp hF) _ (Array.getElem_mem ha)) i (List.mem_range.mpr hi)
    simpa [Array.getElem?_eq_getElem hi] using q
  obtain ⟨i0, ei0⟩ := is_v gr0
  obtain rfl : w0 = (.int i0) := Option.some.inj ei0
  obtain ⟨cj0, cr0⟩ := and_e hn
  obtain ⟨cj1, cr1⟩ := and_e cr0
  obtain ⟨cj2, cr2⟩ := and_e cr1
  obtain ⟨cj3, cr3⟩ := and_e cr2
  obtain ⟨cj4, cr4⟩ := and_e cr3
  obtain ⟨cj5, cr5⟩ := and_e cr4
  obtain ⟨cj6, cr6⟩ := and_e cr5
  obtain ⟨cj7, cr7⟩ := and_e cr6
  obtain ⟨cj8, cr8⟩ := and_e cr7
  obtain ⟨cj9, cr9⟩ := and_e cr8
  obtain ⟨cj10, cr10⟩ := and_e cr9
  obtain ⟨cj11, cr11⟩ := and_e cr10
  obtain ⟨cj12, cr12⟩ := and_e cr11
  obtain ⟨w_WAITING, ev_WAITING⟩ := exa_v cj0
  have E_WAITING := Exa.start ev_WAITING cj0
  have S_WAITING := Sta.start ev_WAITING (Or.inr ⟨(hw _ (List.mem_of_getElem? (i := 6) rfl)), (hw _ (List.mem_of_getElem? (i := 7) rfl))⟩)
  obtain ⟨w_IN_PROGRESS, ev_IN_PROGRESS⟩ := exa_v cj1
  have E_IN_PROGRESS := Exa.start ev_IN_PROGRESS cj1
  have S_IN_PROGRESS := Sta.start ev_IN_PROGRESS (Or.inr ⟨(hw _ (List.mem_of_getElem? (i := 6) rfl)), (hw _ (List.mem_of_getElem? (i := 9) rfl))⟩)
  obtain ⟨w_READY, ev_READY⟩ := exa_v cj4
  have E_READY := Exa.start ev_READY cj4
  have S_READY := Sta.start ev_READY (Or.inr ⟨(hw _ (List.mem_of_getElem? (i := 6) rfl)), (hw _ (List.mem_of_getElem? (i := 11) rfl))⟩)
  obtain ⟨w_FAILED, ev_FAILED⟩ := exa_v cj6
  have E_FAILED := Exa.start ev_FAILED cj6
  have S_FAILED := Sta.start ev_FAILED (Or.inr ⟨(hw _ (List.mem_of_getElem? (i := 6) rfl)), (hw _ (List.mem_of_getElem? (i := 13) rfl))⟩)
  obtain ⟨w_TIMED_OUT, ev_TIMED_OUT⟩ := exa_v cj8
  have E_TIMED_OUT := Exa.start ev_TIMED_OUT cj8
  have S_TIMED_OUT := Sta.start ev_TIMED_OUT (Or.inr ⟨(hw _ (List.mem_of_getElem? (i := 6) rfl)), (hw _ (List.mem_of_getElem? (i := 15) rfl))⟩)
  obtain ⟨w_LONG_RETRY, ev_LONG_RETRY⟩ := exa_v cj10
  have E_LONG_RETRY := Exa.start ev_LONG_RETRY cj10
  have S_LONG_RETRY := Sta.start ev_LONG_RETRY (Or.inr ⟨(hw _ (List.mem_of_getElem? (i := 6) rfl)), (hw _ (List.mem_of_getElem? (i := 23) rfl))⟩)
  obtain ⟨w_RETRY, ev_RETRY⟩ := exa_v cj12
  have E_RETRY := Exa.start ev_RETRY cj12
  have S_RETRY := Sta.start ev_RETRY (Or.inr ⟨(hw _ (List.mem_of_getElem? (i := 6) rfl)), (hw _ (List.mem_of_getElem? (i := 25) rfl))⟩)
  have F_WAITING_ordinal := Fld.start ((fld_at ev_WAITING).symm.trans (OG.eqI_v cj2))
  have F_IN_PROGRESS_ordinal := Fld.start ((fld_at ev_IN_PROGRESS).symm.trans (OG.eqI_v cj3))
  have F_READY_ordinal := Fld.start ((fld_at ev_READY).symm.trans (OG.eqI_v cj5))
  have F_FAILED_ordinal := Fld.start ((fld_at ev_FAILED).symm.trans (OG.eqI_v cj7))
  have F_TIMED_OUT_ordinal := Fld.start ((fld_at ev_TIMED_OUT).symm.trans (OG.eqI_v cj9))
  have F_LONG_RETRY_ordinal := Fld.start ((fld_at ev_LONG_RETRY).symm.trans (OG.eqI_v cj11))
  have F_RETRY_ordinal := Fld.start ((fld_at ev_RETRY).symm.trans (OG.eqI_v cr12))
  have hn0_1 : ¬ (w_WAITING = w_IN_PROGRESS) := Fld.ne F_WAITING_ordinal F_IN_PROGRESS_ordinal (by decide)
  have hn0_2 : ¬ (w_WAITING = w_RETRY) := Fld.ne F_WAITING_ordinal F_RETRY_ordinal (by decide)
  have hn0_3 : ¬ (w_WAITING = w_LONG_RETRY) := Fld.ne F_WAITING_ordinal F_LONG_RETRY_ordinal (by decide)
  have hn0_4 : ¬ (w_WAITING = w_READY) := Fld.ne F_WAITING_ordinal F_READY_ordinal (by decide)
  have hn0_5 : ¬ (w_WAITING = w_FAILED) := Fld.ne F_WAITING_ordinal F_FAILED_ordinal (by decide)
  have hn0_6 : ¬ (w_WAITING = w_TIMED_OUT) := Fld.ne F_WAITING_ordinal F_TIMED_OUT_ordinal (by decide)
  have hn1_0 : ¬ (w_IN_PROGRESS = w_WAITING) := Fld.ne F_IN_PROGRESS_ordinal F_WAITING_ordinal (by decide)
  have hn1_2 : ¬ (w_IN_PROGRESS = w_RETRY) := Fld.ne F_IN_PROGRESS_ordinal F_RETRY_ordinal (by decide)
  have hn1_3 : ¬ (w_IN_PROGRESS = w_LONG_RETRY) := Fld.ne F_IN_PROGRESS_ordinal F_LONG_RETRY_ordinal (by decide)
  have hn1_4 : ¬ (w_IN_PROGRESS = w_READY) := Fld.ne F_IN_PROGRESS_ordinal F_READY_ordinal (by decide)
  have hn1_5 : ¬ (w_IN_PROGRESS = w_FAILED) := Fld.ne F_IN_PROGRESS_ordinal F_FAILED_ordinal (by decide)
  have hn1_6 : ¬ (w_IN_PROGRESS = w_TIMED_OUT) := Fld.ne F_IN_PROGRESS_ordinal F_TIMED_OUT_ordinal (by decide)
  have hn2_0 : ¬ (w_RETRY = w_WAITING) := Fld.ne F_RETRY_ordinal F_WAITING_ordinal (by decide)
  have hn2_1 : ¬ (w_RETRY = w_IN_PROGRESS) := Fld.ne F_RETRY_ordinal F_IN_PROGRESS_ordinal (by decide)
  have hn2_3 : ¬ (w_RETRY = w_LONG_RETRY) := Fld.ne F_RETRY_ordinal F_LONG_RETRY_ordinal (by decide)
  have hn2_4 : ¬ (w_RETRY = w_READY) := Fld.ne F_RETRY_ordinal F_READY_ordinal (by decide)
  have hn2_5 : ¬ (w_RETRY = w_FAILED) := Fld.ne F_RETRY_ordinal F_FAILED_ordinal (by decide)
  have hn2_6 : ¬ (w_RETRY = w_TIMED_OUT) := Fld.ne F_RETRY_ordinal F_TIMED_OUT_ordinal (by decide)
  have hn3_0 : ¬ (w_LONG_RETRY = w_WAITING) := Fld.ne F_LONG_RETRY_ordinal F_WAITING_ordinal (by decide)
  have hn3_1 : ¬ (w_LONG_RETRY = w_IN_PROGRESS) := Fld.ne F_LONG_RETRY_ordinal F_IN_PROGRESS_ordinal (by decide)
  have hn3_2 : ¬ (w_LONG_RETRY = w_RETRY) := Fld.ne F_LONG_RETRY_ordinal F_RETRY_ordinal (by decide)
  have hn3_4 : ¬ (w_LONG_RETRY = w_READY) := Fld.ne F_LONG_RETRY_ordinal F_READY_ordinal (by decide)
  have hn3_5 : ¬ (w_LONG_RETRY = w_FAILED) := Fld.ne F_LONG_RETRY_ordinal F_FAILED_ordinal (by decide)
  have hn3_6 : ¬ (w_LONG_RETRY = w_TIMED_OUT) := Fld.ne F_LONG_RETRY_ordinal F_TIMED_OUT_ordinal (by decide)
  have hn4_0 : ¬ (w_READY = w_WAITING) := Fld.ne F_READY_ordinal F_WAITING_ordinal (by decide)
  have hn4_1 : ¬ (w_READY = w_IN_PROGRESS) := Fld.ne F_READY_ordinal F_IN_PROGRESS_ordinal (by decide)
  have hn4_2 : ¬ (w_READY = w_RETRY) := Fld.ne F_READY_ordinal F_RETRY_ordinal (by decide)
  have hn4_3 : ¬ (w_READY = w_LONG_RETRY) := Fld.ne F_READY_ordinal F_LONG_RETRY_ordinal (by decide)
  have hn4_5 : ¬ (w_READY = w_FAILED) := Fld.ne F_READY_ordinal F_FAILED_ordinal (by decide)
  have hn4_6 : ¬ (w_READY = w_TIMED_OUT) := Fld.ne F_READY_ordinal F_TIMED_OUT_ordinal (by decide)
  have hn5_0 : ¬ (w_FAILED = w_WAITING) := Fld.ne F_FAILED_ordinal F_WAITING_ordinal (by decide)
  have hn5_1 : ¬ (w_FAILED = w_IN_PROGRESS) := Fld.ne F_FAILED_ordinal F_IN_PROGRESS_ordinal (by decide)
  have hn5_2 : ¬ (w_FAILED = w_RETRY) := Fld.ne F_FAILED_ordinal F_RETRY_ordinal (by decide)
  have hn5_3 : ¬ (w_FAILED = w_LONG_RETRY) := Fld.ne F_FAILED_ordinal F_LONG_RETRY_ordinal (by decide)
  have hn5_4 : ¬ (w_FAILED = w_READY) := Fld.ne F_FAILED_ordinal F_READY_ordinal (by decide)
  have hn5_6 : ¬ (w_FAILED = w_TIMED_OUT) := Fld.ne F_FAILED_ordinal F_TIMED_OUT_ordinal (by decide)
  have hn6_0 : ¬ (w_TIMED_OUT = w_WAITING) := Fld.ne F_TIMED_OUT_ordinal F_WAITING_ordinal (by decide)
  have hn6_1 : ¬ (w_TIMED_OUT = w_IN_PROGRESS) := Fld.ne F_TIMED_OUT_ordinal F_IN_PROGRESS_ordinal (by decide)
  have hn6_2 : ¬ (w_TIMED_OUT = w_RETRY) := Fld.ne F_TIMED_OUT_ordinal F_RETRY_ordinal (by decide)
  have hn6_3 : ¬ (w_TIMED_OUT = w_LONG_RETRY) := Fld.ne F_TIMED_OUT_ordinal F_LONG_RETRY_ordinal (by decide)
  have hn6_4 : ¬ (w_TIMED_OUT = w_READY) := Fld.ne F_TIMED_OUT_ordinal F_READY_ordinal (by decide)
  have hn6_5 : ¬ (w_TIMED_OUT = w_FAILED) := Fld.ne F_TIMED_OUT_ordinal F_FAILED_ordinal (by decide)
  obtain ⟨n, o, h1, h2, h3, _, L, rfl, ⟨rfl, N⟩, hq⟩ := own_rm_law l s _ hw tables_1 i0 w_WAITING w_IN_PROGRESS w_RETRY w_LONG_RETRY w_READY w_FAILED w_TIMED_OUT s.heap s.heap.size (Nat.le_refl _) S_WAITING S_IN_PROGRESS S_RETRY S_LONG_RETRY S_READY S_FAILED S_TIMED_OUT E_WAITING E_IN_PROGRESS E_RETRY E_LONG_RETRY E_READY E_FAILED E_TIMED_OUT hn0_1 hn0_2 hn0_3 hn0_4 hn0_5 hn0_6 hn1_0 hn1_2 hn1_3 hn1_4 hn1_5 hn1_6 hn2_0 hn2_1 hn2_3 hn2_4 hn2_5 hn2_6 hn3_0 hn3_1 hn3_2 hn3_4 hn3_5 hn3_6 hn4_0 hn4_1 hn4_2 hn4_3 hn4_5 hn4_6 hn5_0 hn5_1 hn5_2 hn5_3 hn5_4 hn5_6 hn6_0 hn6_1 hn6_2 hn6_3 hn6_4 hn6_5 p e ha hc hk s m _ below hf ((Spec.applies_iff_loose hf).mp happ).1 ⟨rfl, State.Warmed39.refl s, rfl⟩ trivial
  refine ⟨n, _, h1, h2, h3, hpost _ _ _ _ _ _ ⟨Cond.after_iff.mpr rfl, Cond.after_iff.mpr (eq_i res_at (Term.int_eval (1)) rfl), trivial⟩ ⟨hq.1, hq.2.1, (hq.2.2.sift fun y hy => Or.inr (N y hy)).mono (by decide) (by decide)⟩⟩
theorem main_1_1 : Claimed_1_1 := comes_1 fun _ _ _ _ _ _ h hF => ⟨h.1, hF⟩
theorem main_1_2 : Claimed_1_2 := comes_1 fun _ _ _ _ _ _ h hF => ⟨h.2.1, hF⟩
end Jvm.Pilot.@@N@@
namespace Jvm.Pilot.@@N@@
open Jvm Jvm.ClassFile Sem Op Lib Jvm.Free Jvm.Stand Jvm.Pilot.@@N@@.Jvm.D
/-! MADE BY PROGRAM (witnessworld.py) out of the Statement's table words and the real class files: 12 classes; the members and pool entries that the words name. The judged class is class 1, her method 1. -/
namespace start1
open Jvm.ClassFile
def u (s : String) : CpInfo := .utf8 (stringToUtf16 s)
/-- a pool by its gaps: so many unusable entries, then the entry; so many at the end -/
def gap : Nat → List CpInfo → List CpInfo
  | 0, r => r
  | n + 1, r => .unusable :: gap n r
def poolList (es : List (Nat × CpInfo)) (last : Nat) : List CpInfo := es.foldr (fun e r => gap e.1 (e.2 :: r)) (gap last [])
def pool (es : List (Nat × CpInfo)) (last : Nat) : Array CpInfo := ⟨poolList es last⟩
def fileOf (pool : Array CpInfo) (this : Nat) (attrs : Array Attribute := #[]) (ms : Array MethodInfo := #[]) (fl : Nat := 33) (sup : Nat := 0) (ifs : Array Nat := #[]) (fds : Array FieldInfo := #[]) : ClassFile where
  minorVersion := 0
  majorVersion := 65
  constantPool := pool
  accessFlags := fl
  thisClass := this
  superClass := sup
  interfaces := ifs
  fields := fds
  methods := ms
  attributes := attrs
def plain (name : String) (sup : Option ClassId) : Class where
  name := name
  kind := .ordinary
  loader := none
  accessFlags := 33
  super := sup
  interfaces := #[]
  cf := none
  fields := #[]
  methods := #[]
  instanceTypes := #[]
  staticTypes := #[]
  resolved := #[]
  callSites := []
  init := .initialized
  statics := none
  mirror := none

def pool0 : Array CpInfo := pool [(5, u "<init>"), (0, u "()V"), (1, .class_ 10), (1, u "java/lang/Object")] 113

def k0m0 : Method := { name := "<init>", desc := "()V", sig := { parameters := [], returnType := none }, accessFlags := 1, code := none }
/-- java/lang/Object -/
def k0 : Class := { plain "java/lang/Object" none with
  accessFlags := 33
  interfaces := #[]
  cf := some (fileOf pool0 8 #[] #[{ accessFlags := 1, nameIndex := 5, descriptorIndex := 6, attributes := #[] }] 33 0 #[] #[])
  fields := #[]
  methods := #[k0m0]
  instanceTypes := #[]
  staticTypes := #[]
  resolved := Array.replicate 124 none
  statics := none }

def pool1 : Array CpInfo := pool [(2, .class_ 4), (1, u "java/lang/Object"), (0, u "<init>"), (0, u "()V"), (0, .integer 2147483647), (0, .methodref 9 10), (0, .class_ 11), (0, .nameAndType 12 13), (0, u "com/example/sliceline/sliceline/store/SliceStateWaitsForRunPinLaw"), (0, u "pick"), (0, u "(I)Lcom/example/sliceline/sliceline/store/SliceState;"), (0, .fieldref 15 16), (0, .class_ 17), (0, .nameAndType 18 19), (0, u "com/example/sliceline/sliceline/store/SliceState"), (0, u "IN_PROGRESS"), (0, u "Lcom/example/sliceline/sliceline/store/SliceState;"), (0, .fieldref 15 21), (0, .nameAndType 22 19), (0, u "READY"), (0, .fieldref 15 24), (0, .nameAndType 25 19), (0, u "FAILED"), (0, .fieldref 15 27), (0, .nameAndType 28 19), (0, u "TIMED_OUT"), (0, .methodref 15 30), (0, .nameAndType 31 32), (0, u "waitsForRun"), (0, u "()Z"), (0, .fieldref 15 34), (0, .nameAndType 35 19), (0, u "WAITING"), (0, .fieldref 15 37), (0, .nameAndType 38 19), (0, u "RETRY"), (0, .fieldref 15 40), (0, .nameAndType 41 19), (0, u "LONG_RETRY"), (2, u "law"), (0, u "(I)Z")] 3

def k1m0 : Method := { name := "<init>", desc := "()V", sig := { parameters := [], returnType := none }, accessFlags := 2, code := none }
def k1c1 : Code := { maxStack := 2, maxLocals := 6, code := code, exceptionTable := #[], attributes := #[] }
def k1m1 : Method := { name := "law", desc := "(I)Z", sig := { parameters := [.int], returnType := some .boolean }, accessFlags := 9, code := some k1c1 }
def k1c2 : Code := { maxStack := 2, maxLocals := 1, code := method_3_code, exceptionTable := #[], attributes := #[] }
def k1m2 : Method := { name := "pick", desc := "(I)Lcom/example/sliceline/sliceline/store/SliceState;", sig := { parameters := [.int], returnType := some (.object "com/example/sliceline/sliceline/store/SliceState") }, accessFlags := 10, code := some k1c2 }
/-- com/example/sliceline/sliceline/store/SliceStateWaitsForRunPinLaw -/
def k1 : Class := { plain "com/example/sliceline/sliceline/store/SliceStateWaitsForRunPinLaw" (some 0) with
  accessFlags := 49
  interfaces := #[]
  cf := some (fileOf pool1 9 #[] #[{ accessFlags := 2, nameIndex := 5, descriptorIndex := 6, attributes := #[] }, { accessFlags := 9, nameIndex := 44, descriptorIndex := 45, attributes := #[] }, { accessFlags := 10, nameIndex := 12, descriptorIndex := 13, attributes := #[] }] 49 2 #[] #[])
  fields := #[]
  methods := #[k1m0, k1m1, k1m2]
  instanceTypes := #[]
  staticTypes := #[]
  resolved := Array.replicate 49 none
  statics := none }

def pool2 : Array CpInfo := pool [(1, .class_ 2), (0, u "java/lang/constant/Constable"), (0, .class_ 4), (0, u "java/lang/Object")] 6

/-- java/lang/constant/Constable -/
def k2 : Class := { plain "java/lang/constant/Constable" (some 0) with
  accessFlags := 1537
  interfaces := #[]
  cf := some (fileOf pool2 1 #[] #[] 1537 3 #[] #[])
  fields := #[]
  methods := #[]
  instanceTypes := #[]
  staticTypes := #[]
  resolved := Array.replicate 11 none
  statics := none }

def pool3 : Array CpInfo := pool [(1, .class_ 2), (0, u "java/lang/Comparable"), (0, .class_ 4), (0, u "java/lang/Object")] 7

/-- java/lang/Comparable -/
def k3 : Class := { plain "java/lang/Comparable" (some 0) with
  accessFlags := 1537
  interfaces := #[]
  cf := some (fileOf pool3 1 #[] #[] 1537 3 #[] #[])
  fields := #[]
  methods := #[]
  instanceTypes := #[]
  staticTypes := #[]
  resolved := Array.replicate 12 none
  statics := none }

def pool4 : Array CpInfo := pool [(1, .class_ 2), (0, u "java/io/Serializable"), (0, .class_ 4), (0, u "java/lang/Object")] 2

/-- java/io/Serializable -/
def k4 : Class := { plain "java/io/Serializable" (some 0) with
  accessFlags := 1537
  interfaces := #[]
  cf := some (fileOf pool4 1 #[] #[] 1537 3 #[] #[])
  fields := #[]
  methods := #[]
  instanceTypes := #[]
  staticTypes := #[]
  resolved := Array.replicate 7 none
  statics := none }

def pool5 : Array CpInfo := pool [(2, .class_ 4), (1, u "java/lang/Enum"), (0, u "name"), (0, u "Ljava/lang/String;"), (2, u "ordinal"), (0, u "I"), (1, .class_ 14), (1, u "java/lang/Object"), (4, u "hash"), (86, .class_ 108), (1, u "java/lang/Enum$EnumDesc"), (2, .class_ 112), (0, u "java/lang/constant/Constable"), (0, .class_ 114), (0, u "java/lang/Comparable"), (0, .class_ 116), (0, u "java/io/Serializable")] 87

/-- java/lang/Enum -/
def k5 : Class := { plain "java/lang/Enum" (some 0) with
  accessFlags := 1057
  interfaces := #[2, 3, 4]
  cf := some (fileOf pool5 2 #[.nestMembers #[106]] #[] 1057 12 #[111, 113, 115] #[{ accessFlags := 18, nameIndex := 5, descriptorIndex := 6, attributes := #[] }, { accessFlags := 18, nameIndex := 9, descriptorIndex := 10, attributes := #[] }, { accessFlags := 2, nameIndex := 19, descriptorIndex := 10, attributes := #[] }])
  fields := #[{ name := "name", type := (.object "java/lang/String"), accessFlags := 18, slot := 0, constantValue := 0 }, { name := "ordinal", type := .int, accessFlags := 18, slot := 1, constantValue := 0 }, { name := "hash", type := .int, accessFlags := 2, slot := 2, constantValue := 0 }]
  methods := #[]
  instanceTypes := #[(.object "java/lang/String"), .int, .int]
  staticTypes := #[]
  resolved := Array.replicate 204 none
  statics := none }

def pool6 : Array CpInfo := pool [(1, .class_ 2), (0, u "com/example/sliceline/sliceline/store/SliceState"), (0, .fieldref 1 4), (0, .nameAndType 5 6), (0, u "WAITING"), (0, u "Lcom/example/sliceline/sliceline/store/SliceState;"), (2, u "IN_PROGRESS"), (0, .fieldref 1 11), (0, .nameAndType 12 6), (0, u "RETRY"), (0, .fieldref 1 14), (0, .nameAndType 15 6), (0, u "LONG_RETRY"), (2, u "READY"), (2, u "FAILED"), (2, u "TIMED_OUT"), (2, u "$VALUES"), (0, u "[Lcom/example/sliceline/sliceline/store/SliceState;"), (6, .class_ 37), (1, u "java/lang/Enum"), (8, u "spelling"), (0, u "Ljava/lang/String;"), (12, u "waitsForRun"), (0, u "()Z")] 50

def k6c0 : Code := { maxStack := 2, maxLocals := 1, code := prog_47_method_4_code, exceptionTable := #[], attributes := #[] }
def k6m0 : Method := { name := "waitsForRun", desc := "()Z", sig := { parameters := [], returnType := some .boolean }, accessFlags := 1, code := some k6c0 }
/-- com/example/sliceline/sliceline/store/SliceState -/
def k6 : Class := { plain "com/example/sliceline/sliceline/store/SliceState" (some 5) with
  accessFlags := 16433
  interfaces := #[]
  cf := some (fileOf pool6 1 #[] #[{ accessFlags := 1, nameIndex := 60, descriptorIndex := 61, attributes := #[] }] 16433 35 #[] #[{ accessFlags := 16409, nameIndex := 5, descriptorIndex := 6, attributes := #[] }, { accessFlags := 16409, nameIndex := 9, descriptorIndex := 6, attributes := #[] }, { accessFlags := 16409, nameIndex := 12, descriptorIndex := 6, attributes := #[] }, { accessFlags := 16409, nameIndex := 15, descriptorIndex := 6, attributes := #[] }, { accessFlags := 16409, nameIndex := 18, descriptorIndex := 6, attributes := #[] }, { accessFlags := 16409, nameIndex := 21, descriptorIndex := 6, attributes := #[] }, { accessFlags := 16409, nameIndex := 24, descriptorIndex := 6, attributes := #[] }, { accessFlags := 18, nameIndex := 46, descriptorIndex := 47, attributes := #[] }, { accessFlags := 4122, nameIndex := 27, descriptorIndex := 28, attributes := #[] }])
  fields := #[{ name := "WAITING", type := (.object "com/example/sliceline/sliceline/store/SliceState"), accessFlags := 16409, slot := 0, constantValue := 0 }, { name := "IN_PROGRESS", type := (.object "com/example/sliceline/sliceline/store/SliceState"), accessFlags := 16409, slot := 1, constantValue := 0 }, { name := "RETRY", type := (.object "com/example/sliceline/sliceline/store/SliceState"), accessFlags := 16409, slot := 2, constantValue := 0 }, { name := "LONG_RETRY", type := (.object "com/example/sliceline/sliceline/store/SliceState"), accessFlags := 16409, slot := 3, constantValue := 0 }, { name := "READY", type := (.object "com/example/sliceline/sliceline/store/SliceState"), accessFlags := 16409, slot := 4, constantValue := 0 }, { name := "FAILED", type := (.object "com/example/sliceline/sliceline/store/SliceState"), accessFlags := 16409, slot := 5, constantValue := 0 }, { name := "TIMED_OUT", type := (.object "com/example/sliceline/sliceline/store/SliceState"), accessFlags := 16409, slot := 6, constantValue := 0 }, { name := "spelling", type := (.object "java/lang/String"), accessFlags := 18, slot := 3, constantValue := 0 }, { name := "$VALUES", type := (.array (.object "com/example/sliceline/sliceline/store/SliceState")), accessFlags := 4122, slot := 7, constantValue := 0 }]
  methods := #[k6m0]
  instanceTypes := #[(.object "java/lang/String"), .int, .int, (.object "java/lang/String")]
  staticTypes := #[(.object "com/example/sliceline/sliceline/store/SliceState"), (.object "com/example/sliceline/sliceline/store/SliceState"), (.object "com/example/sliceline/sliceline/store/SliceState"), (.object "com/example/sliceline/sliceline/store/SliceState"), (.object "com/example/sliceline/sliceline/store/SliceState"), (.object "com/example/sliceline/sliceline/store/SliceState"), (.object "com/example/sliceline/sliceline/store/SliceState"), (.array (.object "com/example/sliceline/sliceline/store/SliceState"))]
  resolved := Array.replicate 112 none
  statics := some 0 }

def pool7 : Array CpInfo := pool [(1, u "java/lang/Cloneable"), (0, .class_ 1), (0, u "java/lang/Object"), (0, .class_ 3)] 3

/-- java/lang/Cloneable -/
def k7 : Class := { plain "java/lang/Cloneable" (some 0) with
  accessFlags := 1537
  interfaces := #[]
  cf := some (fileOf pool7 2 #[] #[] 1537 4 #[] #[])
  fields := #[]
  methods := #[]
  instanceTypes := #[]
  staticTypes := #[]
  resolved := Array.replicate 8 none
  statics := none }

/-- the primitive byte -/
def k8 : Class := { plain "byte" none with kind := .primitive 'B', accessFlags := 0x411 }
/-- [B -/
def k9 : Class := { plain "[B" (some 0) with kind := .array 8 .byte, interfaces := #[7, 4], accessFlags := 1041 }

/-- the primitive int -/
def k10 : Class := { plain "int" none with kind := .primitive 'I', accessFlags := 0x411 }
/-- [I -/
def k11 : Class := { plain "[I" (some 0) with kind := .array 10 .int, interfaces := #[7, 4], accessFlags := 1041 }

def heap : Heap := #[{ cls := 6, slots := #[.ref 1, .ref 2, .ref 3, .ref 4, .ref 5, .ref 6, .ref 7, .null], vm := .statics 6 },
  { cls := 6, slots := #[.null, .int 0, .int 0, .null], vm := .none },
  { cls := 6, slots := #[.null, .int 1, .int 0, .null], vm := .none },
  { cls := 6, slots := #[.null, .int 2, .int 0, .null], vm := .none },
  { cls := 6, slots := #[.null, .int 3, .int 0, .null], vm := .none },
  { cls := 6, slots := #[.null, .int 4, .int 0, .null], vm := .none },
  { cls := 6, slots := #[.null, .int 5, .int 0, .null], vm := .none },
  { cls := 6, slots := #[.null, .int 6, .int 0, .null], vm := .none }]
def classes : Array Class := #[k0, k1, k2, k3, k4, k5, k6, k7, k8, k9, k10, k11]
def interned : List (Array UInt16 × Addr) := []
def slotsUsed : Nat := 36
def theMethod : MethodId := ⟨1, 1⟩
def args0 : Array Value := #[.int 5]
def aboutOver (below : List Frame) : State where
  vm := { classes := classes, interned := interned.toArray }
  heap := heap
  slotsUsed := slotsUsed
  threads := #[{ frames := .invoking theMethod args0 :: below }]
def below0 : List Frame := [.native { method := ⟨0, 0⟩, args := #[] }]
def about1 : State := aboutOver below0
def p0 : Program := .bare "" "" ""
def e0 : Env := launch0.env 0 0 0
theorem w_frames : about1.frames = Frame.invoking theMethod args0 :: below0 := rfl
set_option maxRecDepth 65536 in
theorem w_args : argsFit about1.vm theMethod args0 = true := by decide +kernel
set_option maxRecDepth 65536 in
theorem w_heap : heapFits about1 = true := by decide +kernel
set_option maxRecDepth 65536 in
theorem w_runnable : about1.curStatus? = some .runnable := by decide +kernel
set_option maxRecDepth 65536 in
theorem w_alone : about1.alone = true := by decide +kernel
set_option maxRecDepth 65536 in
theorem w_named : about1.methodNamed? x = some theMethod := by decide +kernel
set_option maxRecDepth 65536 in
theorem w_hears : about1.hears theMethod below0 = true := by decide +kernel
set_option maxRecDepth 65536 in
theorem w_ripe : about1.ripe theMethod args0 below0 = true := by decide +kernel
theorem w_running : about1.status = .running := rfl
set_option maxRecDepth 65536 in
theorem w_room : about1.hasRoom e0.platform room_1 = true :=
  launch0.hasRoom_least _ room_1 (by decide +kernel) (by decide +kernel) (by decide +kernel) (by decide +kernel) (by decide +kernel) (by decide +kernel)
theorem allAtoms_all (ts : List Jvm.Cond) (a : Array Jvm.Value) (st : Jvm.State) : (allAtoms ts).before a st = ts.all (fun c => c.before a st) := by
  induction ts with
  | nil => rfl
  | cons c t ih =>
    show (Jvm.Cond.and c (allAtoms t)).before a st = _
    rw [Jvm.Cond.before_and, ih, List.all_cons]
def words1 : List Jvm.Cond := Jvm.Cond.code x code maxLocals ret :: tables_1
/-- a 'code' word, met by the world's own term for the bytes: nothing is compared byte by byte -/
theorem code_word {y : MethodName} {bytes : ByteArray} {mx : Nat} {rt : Option FieldType} {a : Array Value} {s : State} {m : MethodId} {meth : Method} {c : Code} (h1 : s.methodNamed? y = some m) (h2 : s.vm.method? m = some meth) (h3 : meth.code = some c) (h4 : c.code = bytes)
    (h5 : (c.maxLocals == mx && c.exceptionTable.isEmpty && decide (c.maxStack ≤ mostOperands) && decide (meth.sig.returnType = rt) && !meth.locks && decide (parseMethodDescriptor y.desc = some meth.sig)) = true) : (Jvm.Cond.code y bytes mx rt).before a s = true := by
  simp only [Bool.and_eq_true, beq_iff_eq, Bool.not_eq_true', decide_eq_true_eq] at h5
  obtain ⟨⟨⟨⟨⟨g1, g2⟩, g3⟩, g4⟩, g5⟩, g6⟩ := h5
  simp [Cond.before, Cond.holds, Cond.value, h1, h2, h3, h4, g1, g2, g3, g4, g5, g6]
def isCode : Jvm.Cond → Bool
  | .code _ _ _ _ => true
  | _ => false
theorem all_split {L : List Jvm.Cond} {P : Jvm.Cond → Bool} (h1 : L.all (fun c => isCode c || P c) = true) (h2 : ∀ c ∈ L.filter isCode, P c = true) : L.all P = true := by
  refine List.all_eq_true.mpr fun c hc => ?_
  have h := List.all_eq_true.mp h1 c hc
  rcases Bool.eq_false_or_eq_true (isCode c) with hi | hi
  · exact h2 c (List.mem_filter.mpr ⟨hc, hi⟩)
  · simpa [hi] using h
set_option maxRecDepth 65536 in
theorem w_c0 : (Jvm.Cond.code x code maxLocals ret).before args0 about1 = true := code_word (m := ⟨1, 1⟩) (meth := k1m1) (c := k1c1) (by decide +kernel) rfl rfl rfl (by decide +kernel)
set_option maxRecDepth 65536 in
theorem w_c1 : (Jvm.Cond.code ({ cls := "com/example/sliceline/sliceline/store/SliceStateWaitsForRunPinLaw", name := "pick", desc := "(I)Lcom/example/sliceline/sliceline/store/SliceState;" } : Jvm.MethodName) method_3_code (1 : Nat) (Option.some (Jvm.ClassFile.FieldType.object "com/example/sliceline/sliceline/store/SliceState"))).before args0 about1 = true := code_word (m := ⟨1, 2⟩) (meth := k1m2) (c := k1c2) (by decide +kernel) rfl rfl rfl (by decide +kernel)
set_option maxRecDepth 65536 in
theorem w_c2 : (Jvm.Cond.code ({ cls := "com/example/sliceline/sliceline/store/SliceState", name := "waitsForRun", desc := "()Z" } : Jvm.MethodName) prog_47_method_4_code (1 : Nat) (Option.some Jvm.ClassFile.FieldType.boolean)).before args0 about1 = true := code_word (m := ⟨6, 0⟩) (meth := k6m0) (c := k6c0) (by decide +kernel) rfl rfl rfl (by decide +kernel)
def codes1 : List Jvm.Cond := [Jvm.Cond.code x code maxLocals ret, Jvm.Cond.code ({ cls := "com/example/sliceline/sliceline/store/SliceStateWaitsForRunPinLaw", name := "pick", desc := "(I)Lcom/example/sliceline/sliceline/store/SliceState;" } : Jvm.MethodName) method_3_code (1 : Nat) (Option.some (Jvm.ClassFile.FieldType.object "com/example/sliceline/sliceline/store/SliceState")), Jvm.Cond.code ({ cls := "com/example/sliceline/sliceline/store/SliceState", name := "waitsForRun", desc := "()Z" } : Jvm.MethodName) prog_47_method_4_code (1 : Nat) (Option.some Jvm.ClassFile.FieldType.boolean)]
set_option maxRecDepth 65536 in
theorem codes_eq : words1.filter isCode = codes1 := rfl
theorem w_codes : ∀ c ∈ words1.filter isCode, c.before args0 about1 = true := by
  rw [codes_eq]
  intro c hc
  simp only [codes1, List.mem_cons, List.not_mem_nil, or_false] at hc
  rcases hc with rfl | rfl | rfl
  · exact w_c0
  · exact w_c1
  · exact w_c2
set_option maxRecDepth 65536 in
theorem w_t1 : (words1.take 24).all (fun c => isCode c || c.before args0 about1) = true := by decide +kernel
set_option maxRecDepth 65536 in
theorem w_t2 : (words1.drop 24).all (fun c => isCode c || c.before args0 about1) = true := by decide +kernel
theorem w_tables : (allAtoms (Jvm.Cond.code x code maxLocals ret :: tables_1)).before args0 about1 = true := by
  rw [allAtoms_all]
  show words1.all (fun c => c.before args0 about1) = true
  refine all_split ?_ w_codes
  rw [← List.take_append_drop 24 words1, List.all_append, w_t1, w_t2]
  rfl
set_option maxRecDepth 65536 in
theorem w_case : (Jvm.Cond.and given_1 narrow_1).before args0 about1 = true := by decide +kernel
theorem w_applies : (headSpec (Jvm.Cond.code x code maxLocals ret :: tables_1) room_1).applies x e0.platform about1 = true :=
  (Spec.applies_iff w_frames).mpr ⟨w_running, w_runnable, w_alone, w_named, w_hears, w_ripe, w_room, w_tables⟩
theorem atStart : AtStart classFile x code maxLocals ret World_1 tables_1 room_1 Calls_1 rest_1 Pre_1 launch0 p0 e0 about1 theMethod args0 below0 :=
  ⟨lists_1, trivial, launch0.admits_env _ _ _, launch0.least_env, fairChoices_fair.cas, fairChoices_fair.clock, w_frames, w_args, w_heap, w_applies, trivial, trivial, w_case⟩
end start1
theorem witness_1 : WitnessClaimed_1 := ⟨start1.p0, start1.e0, start1.about1, start1.theMethod, start1.args0, start1.below0, start1.atStart⟩
end Jvm.Pilot.@@N@@
