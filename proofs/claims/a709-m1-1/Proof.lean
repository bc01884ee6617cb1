import JvmDerived
import JvmDerived.Pilot.@@N@@Statement
import JvmDerived.Pilot.@@N@@Code
set_option linter.unusedVariables false
set_option linter.unusedSimpArgs false
@@BLOCK:NumsL.lean.txt@@
namespace Jvm.OG
open Sem ClassFile Op Lib Jvm.Stand Jvm.Free Jvm.LawKit Jvm.RoadKit
/-- from U the run comes to the method's return, with Q of what it returns, the heap there and the places written -/
def Go (tb : Tables) (e : Env) (below : List Frame) (Q : Option Value → Heap → List Loc → Prop) (kc ks : Nat) (s U : State) : Prop :=
  ∃ s₂ o, Steps tb e below U s₂ ∧ s₂.status = .running ∧ Ended s₂ below o ∧ ∃ v L, o = .returned v ∧ Q v s₂.heap L ∧ FrameEnd s o s₂ L kc ks
theorem Go.step {tb : Tables} {e : Env} {below : List Frame} {Q : Option Value → Heap → List Loc → Prop} {kc ks : Nat} {s U U' : State} (st : ∀ t, Steps tb e below U' t → Steps tb e below U t) (k : Go tb e below Q kc ks s U') : Go tb e below Q kc ks s U := by
  obtain ⟨s₂, o, h1, r⟩ := k
  exact ⟨s₂, o, st _ h1, r⟩
theorem Go.via {tb : Tables} {e : Env} {below : List Frame} {Q : Option Value → Heap → List Loc → Prop} {kc ks : Nat} {s U U' : State} (st : Steps tb e below U U') (k : Go tb e below Q kc ks s U') : Go tb e below Q kc ks s U := by
  obtain ⟨s₂, o, h1, r⟩ := k
  exact ⟨s₂, o, st.trans h1, r⟩
theorem Go.cast {tb : Tables} {e : Env} {below : List Frame} {Q : Option Value → Heap → List Loc → Prop} {kc ks : Nat} {s T : State} {g g' : JFrame} (q : g = g') (k : Go tb e below Q kc ks s (T.setTop g')) : Go tb e below Q kc ks s (T.setTop g) := q ▸ k
section Steps1
variable {p : Program} {l : Launch} {e : Env} {R : Room} {s : State} {m : MethodId} {args : Array Value} {below : List Frame} {meth : Method} {c : Code} {T : State} {locs : List Loc} {cells slots : Nat} {Q : Option Value → Heap → List Loc → Prop} {kc ks : Nat} {code : ByteArray} {pc pc' : Nat} {Ls Ls' : Array Slot} {st : List Value}
theorem iloadN (X : Stand p l e R s m args below meth c T locs cells slots) (hx : p.tables.exec = Jvm.exec) (hby : c.code = code) {k : Fin 4} {v : Int32} (hd : decode code pc = .ok (.iload_n k, 1)) (hl : Ls[k.val]? = some (.val (.int v))) (hp : pc + 1 = pc')
    (K : Go p.tables e below Q kc ks s (T.setTop (mkF m pc' Ls (.int v :: st)))) : Go p.tables e below Q kc ks s (T.setTop (mkF m pc Ls st)) := by
  subst hp
  exact Go.step (fun _ hr => XS.iloadN X.here hx rfl (hb hby hd) hl hr) K
theorem lloadN (X : Stand p l e R s m args below meth c T locs cells slots) (hx : p.tables.exec = Jvm.exec) (hby : c.code = code) {k : Fin 4} {v : Int64} (hd : decode code pc = .ok (.lload_n k, 1)) (hl : Ls[k.val]? = some (.val (.long v))) (hp : pc + 1 = pc')
    (K : Go p.tables e below Q kc ks s (T.setTop (mkF m pc' Ls (.long v :: st)))) : Go p.tables e below Q kc ks s (T.setTop (mkF m pc Ls st)) := by
  subst hp
  exact Go.step (fun _ hr => XS.lloadN X.here hx rfl (hb hby hd) hl hr) K
theorem aloadN (X : Stand p l e R s m args below meth c T locs cells slots) (hx : p.tables.exec = Jvm.exec) (hby : c.code = code) {k : Fin 4} {v : Value} (hd : decode code pc = .ok (.aload_n k, 1)) (hl : Ls[k.val]? = some (.val v)) (hv : v.isRef = true) (hp : pc + 1 = pc')
    (K : Go p.tables e below Q kc ks s (T.setTop (mkF m pc' Ls (v :: st)))) : Go p.tables e below Q kc ks s (T.setTop (mkF m pc Ls st)) := by
  subst hp
  exact Go.step (fun _ hr => XS.aloadN X.here hx rfl (hb hby hd) hl hv hr) K
theorem iload (X : Stand p l e R s m args below meth c T locs cells slots) (hx : p.tables.exec = Jvm.exec) (hby : c.code = code) {k : Nat} {v : Int32} (hd : decode code pc = .ok (.iload k, 2)) (hl : Ls[k]? = some (.val (.int v))) (hp : pc + 2 = pc')
    (K : Go p.tables e below Q kc ks s (T.setTop (mkF m pc' Ls (.int v :: st)))) : Go p.tables e below Q kc ks s (T.setTop (mkF m pc Ls st)) := by
  subst hp
  exact Go.step (fun _ hr => XS.iload X.here hx rfl (hb hby hd) hl hr) K
theorem lload (X : Stand p l e R s m args below meth c T locs cells slots) (hx : p.tables.exec = Jvm.exec) (hby : c.code = code) {k : Nat} {v : Int64} (hd : decode code pc = .ok (.lload k, 2)) (hl : Ls[k]? = some (.val (.long v))) (hp : pc + 2 = pc')
    (K : Go p.tables e below Q kc ks s (T.setTop (mkF m pc' Ls (.long v :: st)))) : Go p.tables e below Q kc ks s (T.setTop (mkF m pc Ls st)) := by
  subst hp
  exact Go.step (fun _ hr => XS.lload X.here hx rfl (hb hby hd) hl hr) K
theorem aload (X : Stand p l e R s m args below meth c T locs cells slots) (hx : p.tables.exec = Jvm.exec) (hby : c.code = code) {k : Nat} {v : Value} (hd : decode code pc = .ok (.aload k, 2)) (hl : Ls[k]? = some (.val v)) (hv : v.isRef = true) (hp : pc + 2 = pc')
    (K : Go p.tables e below Q kc ks s (T.setTop (mkF m pc' Ls (v :: st)))) : Go p.tables e below Q kc ks s (T.setTop (mkF m pc Ls st)) := by
  subst hp
  exact Go.step (fun _ hr => XS.aload X.here hx rfl (hb hby hd) hl hv hr) K
theorem istoreN (X : Stand p l e R s m args below meth c T locs cells slots) (hx : p.tables.exec = Jvm.exec) (hby : c.code = code) {k : Fin 4} {v : Int32} (hd : decode code pc = .ok (.istore_n k, 1)) (hl : storeLocals Ls k.val (.int v) = some Ls') (hp : pc + 1 = pc')
    (K : Go p.tables e below Q kc ks s (T.setTop (mkF m pc' Ls' st))) : Go p.tables e below Q kc ks s (T.setTop (mkF m pc Ls (.int v :: st))) := by
  subst hp
  exact Go.step (fun _ hr => XS.istoreN X.here hx rfl (hb hby hd) rfl hl hr) K
theorem lstoreN (X : Stand p l e R s m args below meth c T locs cells slots) (hx : p.tables.exec = Jvm.exec) (hby : c.code = code) {k : Fin 4} {v : Int64} (hd : decode code pc = .ok (.lstore_n k, 1)) (hl : storeLocals Ls k.val (.long v) = some Ls') (hp : pc + 1 = pc')
    (K : Go p.tables e below Q kc ks s (T.setTop (mkF m pc' Ls' st))) : Go p.tables e below Q kc ks s (T.setTop (mkF m pc Ls (.long v :: st))) := by
  subst hp
  exact Go.step (fun _ hr => XS.lstoreN X.here hx rfl (hb hby hd) rfl hl hr) K
theorem astoreN (X : Stand p l e R s m args below meth c T locs cells slots) (hx : p.tables.exec = Jvm.exec) (hby : c.code = code) {k : Fin 4} {v : Value} (hd : decode code pc = .ok (.astore_n k, 1)) (hv : v.isRef = true) (hl : storeLocals Ls k.val v = some Ls') (hp : pc + 1 = pc')
    (K : Go p.tables e below Q kc ks s (T.setTop (mkF m pc' Ls' st))) : Go p.tables e below Q kc ks s (T.setTop (mkF m pc Ls (v :: st))) := by
  subst hp
  exact Go.step (fun _ hr => XS.astoreN X.here hx rfl (hb hby hd) rfl hv hl hr) K
theorem istore (X : Stand p l e R s m args below meth c T locs cells slots) (hx : p.tables.exec = Jvm.exec) (hby : c.code = code) {k : Nat} {v : Int32} (hd : decode code pc = .ok (.istore k, 2)) (hl : storeLocals Ls k (.int v) = some Ls') (hp : pc + 2 = pc')
    (K : Go p.tables e below Q kc ks s (T.setTop (mkF m pc' Ls' st))) : Go p.tables e below Q kc ks s (T.setTop (mkF m pc Ls (.int v :: st))) := by
  subst hp
  exact Go.step (fun _ hr => XS.istore X.here hx rfl (hb hby hd) rfl hl hr) K
theorem lstore (X : Stand p l e R s m args below meth c T locs cells slots) (hx : p.tables.exec = Jvm.exec) (hby : c.code = code) {k : Nat} {v : Int64} (hd : decode code pc = .ok (.lstore k, 2)) (hl : storeLocals Ls k (.long v) = some Ls') (hp : pc + 2 = pc')
    (K : Go p.tables e below Q kc ks s (T.setTop (mkF m pc' Ls' st))) : Go p.tables e below Q kc ks s (T.setTop (mkF m pc Ls (.long v :: st))) := by
  subst hp
  exact Go.step (fun _ hr => XS.lstore X.here hx rfl (hb hby hd) rfl hl hr) K
theorem astore (X : Stand p l e R s m args below meth c T locs cells slots) (hx : p.tables.exec = Jvm.exec) (hby : c.code = code) {k : Nat} {v : Value} (hd : decode code pc = .ok (.astore k, 2)) (hv : v.isRef = true) (hl : storeLocals Ls k v = some Ls') (hp : pc + 2 = pc')
    (K : Go p.tables e below Q kc ks s (T.setTop (mkF m pc' Ls' st))) : Go p.tables e below Q kc ks s (T.setTop (mkF m pc Ls (v :: st))) := by
  subst hp
  exact Go.step (fun _ hr => XS.astore X.here hx rfl (hb hby hd) rfl hv hl hr) K
theorem iconst (X : Stand p l e R s m args below meth c T locs cells slots) (hx : p.tables.exec = Jvm.exec) (hby : c.code = code) {i : Int} {v : Int32} (hd : decode code pc = .ok (.iconst i, 1)) (hv : Int32.ofInt i = v) (hp : pc + 1 = pc')
    (K : Go p.tables e below Q kc ks s (T.setTop (mkF m pc' Ls (.int v :: st)))) : Go p.tables e below Q kc ks s (T.setTop (mkF m pc Ls st)) := by
  subst hp
  subst hv
  exact Go.step (fun _ hr => XS.iconst X.here hx rfl (hb hby hd)  hr) K
theorem bipush (X : Stand p l e R s m args below meth c T locs cells slots) (hx : p.tables.exec = Jvm.exec) (hby : c.code = code) {i : Int} {v : Int32} (hd : decode code pc = .ok (.bipush i, 2)) (hv : (Int8.ofInt i).toInt32 = v) (hp : pc + 2 = pc')
    (K : Go p.tables e below Q kc ks s (T.setTop (mkF m pc' Ls (.int v :: st)))) : Go p.tables e below Q kc ks s (T.setTop (mkF m pc Ls st)) := by
  subst hp
  subst hv
  exact Go.step (fun _ hr => XS.bipush X.here hx rfl (hb hby hd)  hr) K
theorem sipush (X : Stand p l e R s m args below meth c T locs cells slots) (hx : p.tables.exec = Jvm.exec) (hby : c.code = code) {i : Int} {v : Int32} (hd : decode code pc = .ok (.sipush i, 3)) (hv : (Int16.ofInt i).toInt32 = v) (hp : pc + 3 = pc')
    (K : Go p.tables e below Q kc ks s (T.setTop (mkF m pc' Ls (.int v :: st)))) : Go p.tables e below Q kc ks s (T.setTop (mkF m pc Ls st)) := by
  subst hp
  subst hv
  exact Go.step (fun _ hr => XS.sipush X.here hx rfl (hb hby hd)  hr) K
theorem lconst (X : Stand p l e R s m args below meth c T locs cells slots) (hx : p.tables.exec = Jvm.exec) (hby : c.code = code) {i : Fin 2} {v : Int64} (hd : decode code pc = .ok (.lconst i, 1)) (hv : Int64.ofNat i = v) (hp : pc + 1 = pc')
    (K : Go p.tables e below Q kc ks s (T.setTop (mkF m pc' Ls (.long v :: st)))) : Go p.tables e below Q kc ks s (T.setTop (mkF m pc Ls st)) := by
  subst hp
  subst hv
  exact Go.step (fun _ hr => XS.lconst X.here hx rfl (hb hby hd)  hr) K
theorem aconstNull (X : Stand p l e R s m args below meth c T locs cells slots) (hx : p.tables.exec = Jvm.exec) (hby : c.code = code) (hd : decode code pc = .ok (.aconst_null, 1)) (hp : pc + 1 = pc')
    (K : Go p.tables e below Q kc ks s (T.setTop (mkF m pc' Ls (.null :: st)))) : Go p.tables e below Q kc ks s (T.setTop (mkF m pc Ls st)) := by
  subst hp
  exact Go.step (fun _ hr => XS.aconstNull X.here hx rfl (hb hby hd)  hr) K
theorem iadd (X : Stand p l e R s m args below meth c T locs cells slots) (hx : p.tables.exec = Jvm.exec) (hby : c.code = code) {x y : Int32} (hd : decode code pc = .ok (.iadd, 1)) (hp : pc + 1 = pc')
    (K : Go p.tables e below Q kc ks s (T.setTop (mkF m pc' Ls (.int (x + y) :: st)))) : Go p.tables e below Q kc ks s (T.setTop (mkF m pc Ls (.int y :: .int x :: st))) := by
  subst hp
  exact Go.step (fun _ hr => XS.iadd X.here hx rfl (hb hby hd) rfl hr) K
theorem isub (X : Stand p l e R s m args below meth c T locs cells slots) (hx : p.tables.exec = Jvm.exec) (hby : c.code = code) {x y : Int32} (hd : decode code pc = .ok (.isub, 1)) (hp : pc + 1 = pc')
    (K : Go p.tables e below Q kc ks s (T.setTop (mkF m pc' Ls (.int (x - y) :: st)))) : Go p.tables e below Q kc ks s (T.setTop (mkF m pc Ls (.int y :: .int x :: st))) := by
  subst hp
  exact Go.step (fun _ hr => XS.isub X.here hx rfl (hb hby hd) rfl hr) K
theorem imul (X : Stand p l e R s m args below meth c T locs cells slots) (hx : p.tables.exec = Jvm.exec) (hby : c.code = code) {x y : Int32} (hd : decode code pc = .ok (.imul, 1)) (hp : pc + 1 = pc')
    (K : Go p.tables e below Q kc ks s (T.setTop (mkF m pc' Ls (.int (x * y) :: st)))) : Go p.tables e below Q kc ks s (T.setTop (mkF m pc Ls (.int y :: .int x :: st))) := by
  subst hp
  exact Go.step (fun _ hr => XS.imul X.here hx rfl (hb hby hd) rfl hr) K
theorem iand (X : Stand p l e R s m args below meth c T locs cells slots) (hx : p.tables.exec = Jvm.exec) (hby : c.code = code) {x y : Int32} (hd : decode code pc = .ok (.iand, 1)) (hp : pc + 1 = pc')
    (K : Go p.tables e below Q kc ks s (T.setTop (mkF m pc' Ls (.int (x &&& y) :: st)))) : Go p.tables e below Q kc ks s (T.setTop (mkF m pc Ls (.int y :: .int x :: st))) := by
  subst hp
  exact Go.step (fun _ hr => XS.iand X.here hx rfl (hb hby hd) rfl hr) K
theorem ior (X : Stand p l e R s m args below meth c T locs cells slots) (hx : p.tables.exec = Jvm.exec) (hby : c.code = code) {x y : Int32} (hd : decode code pc = .ok (.ior, 1)) (hp : pc + 1 = pc')
    (K : Go p.tables e below Q kc ks s (T.setTop (mkF m pc' Ls (.int (x ||| y) :: st)))) : Go p.tables e below Q kc ks s (T.setTop (mkF m pc Ls (.int y :: .int x :: st))) := by
  subst hp
  exact Go.step (fun _ hr => XS.ior X.here hx rfl (hb hby hd) rfl hr) K
theorem ixor (X : Stand p l e R s m args below meth c T locs cells slots) (hx : p.tables.exec = Jvm.exec) (hby : c.code = code) {x y : Int32} (hd : decode code pc = .ok (.ixor, 1)) (hp : pc + 1 = pc')
    (K : Go p.tables e below Q kc ks s (T.setTop (mkF m pc' Ls (.int (x ^^^ y) :: st)))) : Go p.tables e below Q kc ks s (T.setTop (mkF m pc Ls (.int y :: .int x :: st))) := by
  subst hp
  exact Go.step (fun _ hr => XS.ixor X.here hx rfl (hb hby hd) rfl hr) K
theorem ishl (X : Stand p l e R s m args below meth c T locs cells slots) (hx : p.tables.exec = Jvm.exec) (hby : c.code = code) {x y : Int32} (hd : decode code pc = .ok (.ishl, 1)) (hp : pc + 1 = pc')
    (K : Go p.tables e below Q kc ks s (T.setTop (mkF m pc' Ls (.int (x <<< (y &&& 31)) :: st)))) : Go p.tables e below Q kc ks s (T.setTop (mkF m pc Ls (.int y :: .int x :: st))) := by
  subst hp
  exact Go.step (fun _ hr => XS.ishl X.here hx rfl (hb hby hd) rfl hr) K
theorem ishr (X : Stand p l e R s m args below meth c T locs cells slots) (hx : p.tables.exec = Jvm.exec) (hby : c.code = code) {x y : Int32} (hd : decode code pc = .ok (.ishr, 1)) (hp : pc + 1 = pc')
    (K : Go p.tables e below Q kc ks s (T.setTop (mkF m pc' Ls (.int (x >>> (y &&& 31)) :: st)))) : Go p.tables e below Q kc ks s (T.setTop (mkF m pc Ls (.int y :: .int x :: st))) := by
  subst hp
  exact Go.step (fun _ hr => XS.ishr X.here hx rfl (hb hby hd) rfl hr) K
theorem iushr (X : Stand p l e R s m args below meth c T locs cells slots) (hx : p.tables.exec = Jvm.exec) (hby : c.code = code) {x y : Int32} (hd : decode code pc = .ok (.iushr, 1)) (hp : pc + 1 = pc')
    (K : Go p.tables e below Q kc ks s (T.setTop (mkF m pc' Ls (.int ((x.toUInt32 >>> (y &&& 31).toUInt32).toInt32) :: st)))) : Go p.tables e below Q kc ks s (T.setTop (mkF m pc Ls (.int y :: .int x :: st))) := by
  subst hp
  exact Go.step (fun _ hr => XS.iushr X.here hx rfl (hb hby hd) rfl hr) K
theorem idiv (X : Stand p l e R s m args below meth c T locs cells slots) (hx : p.tables.exec = Jvm.exec) (hby : c.code = code) {x y : Int32} (hd : decode code pc = .ok (.idiv, 1)) (hy : y ≠ 0) (hp : pc + 1 = pc')
    (K : Go p.tables e below Q kc ks s (T.setTop (mkF m pc' Ls (.int (x / y) :: st)))) : Go p.tables e below Q kc ks s (T.setTop (mkF m pc Ls (.int y :: .int x :: st))) := by
  subst hp
  exact Go.step (fun _ hr => XS.idiv X.here hx rfl (hb hby hd) rfl hy hr) K
theorem ladd (X : Stand p l e R s m args below meth c T locs cells slots) (hx : p.tables.exec = Jvm.exec) (hby : c.code = code) {x y : Int64} (hd : decode code pc = .ok (.ladd, 1)) (hp : pc + 1 = pc')
    (K : Go p.tables e below Q kc ks s (T.setTop (mkF m pc' Ls (.long (x + y) :: st)))) : Go p.tables e below Q kc ks s (T.setTop (mkF m pc Ls (.long y :: .long x :: st))) := by
  subst hp
  exact Go.step (fun _ hr => XS.ladd X.here hx rfl (hb hby hd) rfl hr) K
theorem lsub (X : Stand p l e R s m args below meth c T locs cells slots) (hx : p.tables.exec = Jvm.exec) (hby : c.code = code) {x y : Int64} (hd : decode code pc = .ok (.lsub, 1)) (hp : pc + 1 = pc')
    (K : Go p.tables e below Q kc ks s (T.setTop (mkF m pc' Ls (.long (x - y) :: st)))) : Go p.tables e below Q kc ks s (T.setTop (mkF m pc Ls (.long y :: .long x :: st))) := by
  subst hp
  exact Go.step (fun _ hr => XS.lsub X.here hx rfl (hb hby hd) rfl hr) K
theorem lmul (X : Stand p l e R s m args below meth c T locs cells slots) (hx : p.tables.exec = Jvm.exec) (hby : c.code = code) {x y : Int64} (hd : decode code pc = .ok (.lmul, 1)) (hp : pc + 1 = pc')
    (K : Go p.tables e below Q kc ks s (T.setTop (mkF m pc' Ls (.long (x * y) :: st)))) : Go p.tables e below Q kc ks s (T.setTop (mkF m pc Ls (.long y :: .long x :: st))) := by
  subst hp
  exact Go.step (fun _ hr => XS.lmul X.here hx rfl (hb hby hd) rfl hr) K
theorem land (X : Stand p l e R s m args below meth c T locs cells slots) (hx : p.tables.exec = Jvm.exec) (hby : c.code = code) {x y : Int64} (hd : decode code pc = .ok (.land, 1)) (hp : pc + 1 = pc')
    (K : Go p.tables e below Q kc ks s (T.setTop (mkF m pc' Ls (.long (x &&& y) :: st)))) : Go p.tables e below Q kc ks s (T.setTop (mkF m pc Ls (.long y :: .long x :: st))) := by
  subst hp
  exact Go.step (fun _ hr => XS.land X.here hx rfl (hb hby hd) rfl hr) K
theorem lor (X : Stand p l e R s m args below meth c T locs cells slots) (hx : p.tables.exec = Jvm.exec) (hby : c.code = code) {x y : Int64} (hd : decode code pc = .ok (.lor, 1)) (hp : pc + 1 = pc')
    (K : Go p.tables e below Q kc ks s (T.setTop (mkF m pc' Ls (.long (x ||| y) :: st)))) : Go p.tables e below Q kc ks s (T.setTop (mkF m pc Ls (.long y :: .long x :: st))) := by
  subst hp
  exact Go.step (fun _ hr => XS.lor X.here hx rfl (hb hby hd) rfl hr) K
theorem lxor (X : Stand p l e R s m args below meth c T locs cells slots) (hx : p.tables.exec = Jvm.exec) (hby : c.code = code) {x y : Int64} (hd : decode code pc = .ok (.lxor, 1)) (hp : pc + 1 = pc')
    (K : Go p.tables e below Q kc ks s (T.setTop (mkF m pc' Ls (.long (x ^^^ y) :: st)))) : Go p.tables e below Q kc ks s (T.setTop (mkF m pc Ls (.long y :: .long x :: st))) := by
  subst hp
  exact Go.step (fun _ hr => XS.lxor X.here hx rfl (hb hby hd) rfl hr) K
theorem ldiv (X : Stand p l e R s m args below meth c T locs cells slots) (hx : p.tables.exec = Jvm.exec) (hby : c.code = code) {x y : Int64} (hd : decode code pc = .ok (.ldiv, 1)) (hy : y ≠ 0) (hp : pc + 1 = pc')
    (K : Go p.tables e below Q kc ks s (T.setTop (mkF m pc' Ls (.long (x / y) :: st)))) : Go p.tables e below Q kc ks s (T.setTop (mkF m pc Ls (.long y :: .long x :: st))) := by
  subst hp
  exact Go.step (fun _ hr => XS.ldiv X.here hx rfl (hb hby hd) rfl hy hr) K
theorem lcmp (X : Stand p l e R s m args below meth c T locs cells slots) (hx : p.tables.exec = Jvm.exec) (hby : c.code = code) {x y : Int64} (hd : decode code pc = .ok (.lcmp, 1)) (hp : pc + 1 = pc')
    (K : Go p.tables e below Q kc ks s (T.setTop (mkF m pc' Ls (.int (lcmpW x y) :: st)))) : Go p.tables e below Q kc ks s (T.setTop (mkF m pc Ls (.long y :: .long x :: st))) := by
  subst hp
  exact Go.step (fun _ hr => XS.lcmp X.here hx rfl (hb hby hd) rfl hr) K
theorem ineg (X : Stand p l e R s m args below meth c T locs cells slots) (hx : p.tables.exec = Jvm.exec) (hby : c.code = code) {x : Int32} (hd : decode code pc = .ok (.ineg, 1)) (hp : pc + 1 = pc')
    (K : Go p.tables e below Q kc ks s (T.setTop (mkF m pc' Ls (.int (-x) :: st)))) : Go p.tables e below Q kc ks s (T.setTop (mkF m pc Ls (.int x :: st))) := by
  subst hp
  exact Go.step (fun _ hr => XS.ineg X.here hx rfl (hb hby hd) rfl hr) K
theorem lneg (X : Stand p l e R s m args below meth c T locs cells slots) (hx : p.tables.exec = Jvm.exec) (hby : c.code = code) {x : Int64} (hd : decode code pc = .ok (.lneg, 1)) (hp : pc + 1 = pc')
    (K : Go p.tables e below Q kc ks s (T.setTop (mkF m pc' Ls (.long (-x) :: st)))) : Go p.tables e below Q kc ks s (T.setTop (mkF m pc Ls (.long x :: st))) := by
  subst hp
  exact Go.step (fun _ hr => XS.lneg X.here hx rfl (hb hby hd) rfl hr) K
theorem i2l (X : Stand p l e R s m args below meth c T locs cells slots) (hx : p.tables.exec = Jvm.exec) (hby : c.code = code) {x : Int32} (hd : decode code pc = .ok (.i2l, 1)) (hp : pc + 1 = pc')
    (K : Go p.tables e below Q kc ks s (T.setTop (mkF m pc' Ls (.long x.toInt64 :: st)))) : Go p.tables e below Q kc ks s (T.setTop (mkF m pc Ls (.int x :: st))) := by
  subst hp
  exact Go.step (fun _ hr => XS.i2l X.here hx rfl (hb hby hd) rfl hr) K
theorem l2i (X : Stand p l e R s m args below meth c T locs cells slots) (hx : p.tables.exec = Jvm.exec) (hby : c.code = code) {x : Int64} (hd : decode code pc = .ok (.l2i, 1)) (hp : pc + 1 = pc')
    (K : Go p.tables e below Q kc ks s (T.setTop (mkF m pc' Ls (.int x.toInt32 :: st)))) : Go p.tables e below Q kc ks s (T.setTop (mkF m pc Ls (.long x :: st))) := by
  subst hp
  exact Go.step (fun _ hr => XS.l2i X.here hx rfl (hb hby hd) rfl hr) K
theorem i2c (X : Stand p l e R s m args below meth c T locs cells slots) (hx : p.tables.exec = Jvm.exec) (hby : c.code = code) {x : Int32} (hd : decode code pc = .ok (.i2c, 1)) (hp : pc + 1 = pc')
    (K : Go p.tables e below Q kc ks s (T.setTop (mkF m pc' Ls (.int x.toUInt32.toUInt16.toUInt32.toInt32 :: st)))) : Go p.tables e below Q kc ks s (T.setTop (mkF m pc Ls (.int x :: st))) := by
  subst hp
  exact Go.step (fun _ hr => XS.i2c X.here hx rfl (hb hby hd) rfl hr) K
theorem i2b (X : Stand p l e R s m args below meth c T locs cells slots) (hx : p.tables.exec = Jvm.exec) (hby : c.code = code) {x : Int32} (hd : decode code pc = .ok (.i2b, 1)) (hp : pc + 1 = pc')
    (K : Go p.tables e below Q kc ks s (T.setTop (mkF m pc' Ls (.int x.toInt8.toInt32 :: st)))) : Go p.tables e below Q kc ks s (T.setTop (mkF m pc Ls (.int x :: st))) := by
  subst hp
  exact Go.step (fun _ hr => XS.i2b X.here hx rfl (hb hby hd) rfl hr) K
theorem dup (X : Stand p l e R s m args below meth c T locs cells slots) (hx : p.tables.exec = Jvm.exec) (hby : c.code = code) {x : Value} (hd : decode code pc = .ok (.dup, 1)) (hc : x.category = 1) (hp : pc + 1 = pc')
    (K : Go p.tables e below Q kc ks s (T.setTop (mkF m pc' Ls (x :: x :: st)))) : Go p.tables e below Q kc ks s (T.setTop (mkF m pc Ls (x :: st))) := by
  subst hp
  exact Go.step (fun _ hr => XS.dup X.here hx rfl (hb hby hd) rfl hc hr) K
theorem pop (X : Stand p l e R s m args below meth c T locs cells slots) (hx : p.tables.exec = Jvm.exec) (hby : c.code = code) {x : Value} (hd : decode code pc = .ok (.pop, 1)) (hc : x.category = 1) (hp : pc + 1 = pc')
    (K : Go p.tables e below Q kc ks s (T.setTop (mkF m pc' Ls st))) : Go p.tables e below Q kc ks s (T.setTop (mkF m pc Ls (x :: st))) := by
  subst hp
  exact Go.step (fun _ hr => XS.pop X.here hx rfl (hb hby hd) rfl hc hr) K
theorem dupX1 (X : Stand p l e R s m args below meth c T locs cells slots) (hx : p.tables.exec = Jvm.exec) (hby : c.code = code) {x y : Value} (hd : decode code pc = .ok (.dup_x1, 1)) (hc : x.category = 1) (hc' : y.category = 1) (hp : pc + 1 = pc')
    (K : Go p.tables e below Q kc ks s (T.setTop (mkF m pc' Ls (x :: y :: x :: st)))) : Go p.tables e below Q kc ks s (T.setTop (mkF m pc Ls (x :: y :: st))) := by
  subst hp
  exact Go.step (fun _ hr => XS.dupX1 X.here hx rfl (hb hby hd) rfl hc hc' hr) K
theorem iinc (X : Stand p l e R s m args below meth c T locs cells slots) (hx : p.tables.exec = Jvm.exec) (hby : c.code = code) {k : Nat} {cst : Int} {x : Int32} (hd : decode code pc = .ok (.iinc k cst, 3)) (hl : Ls[k]? = some (.val (.int x))) (hl' : storeLocals Ls k (.int (x + Int32.ofInt cst)) = some Ls') (hp : pc + 3 = pc')
    (K : Go p.tables e below Q kc ks s (T.setTop (mkF m pc' Ls' st))) : Go p.tables e below Q kc ks s (T.setTop (mkF m pc Ls st)) := by
  subst hp
  exact Go.step (fun _ hr => XS.iinc X.here hx rfl (hb hby hd) hl hl' hr) K
theorem irem (X : Stand p l e R s m args below meth c T locs cells slots) (hx : p.tables.exec = Jvm.exec) (hby : c.code = code) {x y : Int32} (hd : decode code pc = .ok (.irem, 1)) (hy : y ≠ 0) (hp : pc + 1 = pc')
    (K : Go p.tables e below Q kc ks s (T.setTop (mkF m pc' Ls (.int (x % y) :: st)))) : Go p.tables e below Q kc ks s (T.setTop (mkF m pc Ls (.int y :: .int x :: st))) := by
  subst hp
  exact Go.step (fun _ hr => Jvm.RoadKit.iremM (g := mkF m pc Ls (.int y :: .int x :: st)) X hx rfl (hb hby hd) rfl hy hr) K
theorem goto (X : Stand p l e R s m args below meth c T locs cells slots) (hx : p.tables.exec = Jvm.exec) (hby : c.code = code) {o : Int} (hd : decode code pc = .ok (.goto o, 3)) (ho : 0 ≤ (pc : Int) + o) (hp : ((pc : Int) + o).toNat = pc')
    (K : Go p.tables e below Q kc ks s (T.setTop (mkF m pc' Ls st))) : Go p.tables e below Q kc ks s (T.setTop (mkF m pc Ls st)) :=
  Go.step (fun _ hr => XS.goto X.here hx rfl (pc0 := pc) (pc' := pc') rfl (hb hby hd)  ho hp hr) K
theorem ifYes (X : Stand p l e R s m args below meth c T locs cells slots) (hx : p.tables.exec = Jvm.exec) (hby : c.code = code) {cd : ClassFile.Cond} {x : Int32} {o : Int} (hd : decode code pc = .ok (.ifCond cd o, 3)) (hc : if_icmp.holds cd x 0 = true) (ho : 0 ≤ (pc : Int) + o) (hp : ((pc : Int) + o).toNat = pc')
    (K : Go p.tables e below Q kc ks s (T.setTop (mkF m pc' Ls st))) : Go p.tables e below Q kc ks s (T.setTop (mkF m pc Ls (.int x :: st))) :=
  Go.step (fun _ hr => XS.ifYes X.here hx rfl (pc0 := pc) (pc' := pc') rfl (hb hby hd) rfl ((if0 _ _).trans hc) ho hp hr) K
theorem ifNo (X : Stand p l e R s m args below meth c T locs cells slots) (hx : p.tables.exec = Jvm.exec) (hby : c.code = code) {cd : ClassFile.Cond} {x : Int32} {o : Int} (hd : decode code pc = .ok (.ifCond cd o, 3)) (hc : if_icmp.holds cd x 0 = false) (hp : pc + 3 = pc')
    (K : Go p.tables e below Q kc ks s (T.setTop (mkF m pc' Ls st))) : Go p.tables e below Q kc ks s (T.setTop (mkF m pc Ls (.int x :: st))) := by
  subst hp
  exact Go.step (fun _ hr => XS.ifNo X.here hx rfl (hb hby hd) rfl ((if0 _ _).trans hc) hr) K
theorem icmpYes (X : Stand p l e R s m args below meth c T locs cells slots) (hx : p.tables.exec = Jvm.exec) (hby : c.code = code) {cd : ClassFile.Cond} {x y : Int32} {o : Int} (hd : decode code pc = .ok (.if_icmp cd o, 3)) (hc : if_icmp.holds cd x y = true) (ho : 0 ≤ (pc : Int) + o) (hp : ((pc : Int) + o).toNat = pc')
    (K : Go p.tables e below Q kc ks s (T.setTop (mkF m pc' Ls st))) : Go p.tables e below Q kc ks s (T.setTop (mkF m pc Ls (.int y :: .int x :: st))) :=
  Go.step (fun _ hr => XS.icmpYes X.here hx rfl (pc0 := pc) (pc' := pc') rfl (hb hby hd) rfl hc ho hp hr) K
theorem icmpNo (X : Stand p l e R s m args below meth c T locs cells slots) (hx : p.tables.exec = Jvm.exec) (hby : c.code = code) {cd : ClassFile.Cond} {x y : Int32} {o : Int} (hd : decode code pc = .ok (.if_icmp cd o, 3)) (hc : if_icmp.holds cd x y = false) (hp : pc + 3 = pc')
    (K : Go p.tables e below Q kc ks s (T.setTop (mkF m pc' Ls st))) : Go p.tables e below Q kc ks s (T.setTop (mkF m pc Ls (.int y :: .int x :: st))) := by
  subst hp
  exact Go.step (fun _ hr => XS.icmpNo X.here hx rfl (hb hby hd) rfl hc hr) K
theorem ifnullYes (X : Stand p l e R s m args below meth c T locs cells slots) (hx : p.tables.exec = Jvm.exec) (hby : c.code = code) {o : Int} (hd : decode code pc = .ok (.ifnull o, 3)) (ho : 0 ≤ (pc : Int) + o) (hp : ((pc : Int) + o).toNat = pc')
    (K : Go p.tables e below Q kc ks s (T.setTop (mkF m pc' Ls st))) : Go p.tables e below Q kc ks s (T.setTop (mkF m pc Ls (.null :: st))) :=
  Go.step (fun _ hr => XS.ifnullYes X.here hx rfl (pc0 := pc) (pc' := pc') rfl (hb hby hd) rfl ho hp hr) K
theorem ifnullNo (X : Stand p l e R s m args below meth c T locs cells slots) (hx : p.tables.exec = Jvm.exec) (hby : c.code = code) {b : Addr} {o : Int} (hd : decode code pc = .ok (.ifnull o, 3)) (hp : pc + 3 = pc')
    (K : Go p.tables e below Q kc ks s (T.setTop (mkF m pc' Ls st))) : Go p.tables e below Q kc ks s (T.setTop (mkF m pc Ls (.ref b :: st))) := by
  subst hp
  exact Go.step (fun _ hr => XS.ifnullNo X.here hx rfl (hb hby hd) rfl hr) K
theorem ifnonnullYes (X : Stand p l e R s m args below meth c T locs cells slots) (hx : p.tables.exec = Jvm.exec) (hby : c.code = code) {b : Addr} {o : Int} (hd : decode code pc = .ok (.ifnonnull o, 3)) (ho : 0 ≤ (pc : Int) + o) (hp : ((pc : Int) + o).toNat = pc')
    (K : Go p.tables e below Q kc ks s (T.setTop (mkF m pc' Ls st))) : Go p.tables e below Q kc ks s (T.setTop (mkF m pc Ls (.ref b :: st))) :=
  Go.step (fun _ hr => XS.ifnonnullYes X.here hx rfl (pc0 := pc) (pc' := pc') rfl (hb hby hd) rfl ho hp hr) K
theorem ifnonnullNo (X : Stand p l e R s m args below meth c T locs cells slots) (hx : p.tables.exec = Jvm.exec) (hby : c.code = code) {o : Int} (hd : decode code pc = .ok (.ifnonnull o, 3)) (hp : pc + 3 = pc')
    (K : Go p.tables e below Q kc ks s (T.setTop (mkF m pc' Ls st))) : Go p.tables e below Q kc ks s (T.setTop (mkF m pc Ls (.null :: st))) := by
  subst hp
  exact Go.step (fun _ hr => XS.ifnonnullNo X.here hx rfl (hb hby hd) rfl hr) K
theorem acmp (X : Stand p l e R s m args below meth c T locs cells slots) (hx : p.tables.exec = Jvm.exec) (hby : c.code = code) {cd : ACond} {x y : Value} {o : Int} {same : Bool} (hd : decode code pc = .ok (.if_acmp cd o, 3)) (h1 : x.isRef = true) (h2 : y.isRef = true) (hq : decide (x = y) = same) (ho : 0 ≤ (pc : Int) + o) (hp : pc' = if acV cd same = true then ((pc : Int) + o).toNat else pc + 3)
    (K : Go p.tables e below Q kc ks s (T.setTop (mkF m pc' Ls st))) : Go p.tables e below Q kc ks s (T.setTop (mkF m pc Ls (y :: x :: st))) :=
  Go.step (fun _ hr => Jvm.RoadKit.acmp (g := mkF m pc Ls (y :: x :: st)) X hx rfl h1 h2 (pc0 := pc) (pc' := pc') (same := same) rfl (hb hby hd) rfl hq ho hp hr) K
theorem retZ (X : Stand p l e R s m args below meth c T locs cells slots) (hx : p.tables.exec = Jvm.exec) (hby : c.code = code) {t : FieldType} {z : Int32} (hret : meth.sig.returnType = some t) (ht : t = .boolean ∨ t = .byte ∨ t = .char ∨ t = .short) (hd : decode code pc = .ok (.ireturn, 1)) (hlk : meth.locks = false) (hkc : cells ≤ kc) (hks : slots ≤ ks) (hQ : Q (some (.int (nar t z))) T.heap locs) : Go p.tables e below Q kc ks s (T.setTop (mkF m pc Ls (.int z :: st))) := by
  obtain ⟨fs, hr, hrun, hended, hW, hsame⟩ := X.leave (v := some (.int (nar t z))) (fun h => by rw [hret] at h; cases h) hlk
  exact ⟨_, _, retN X hx hret ht (hb hby hd) hr, hrun, hended, _, _, rfl, hQ, ⟨_, rfl⟩, hW, hsame.mono hkc hks⟩
theorem retI (X : Stand p l e R s m args below meth c T locs cells slots) (hx : p.tables.exec = Jvm.exec) (hby : c.code = code) {z : Int32} (hret : meth.sig.returnType = some .int) (hd : decode code pc = .ok (.ireturn, 1)) (hlk : meth.locks = false) (hkc : cells ≤ kc) (hks : slots ≤ ks) (hQ : Q (some (.int z)) T.heap locs) : Go p.tables e below Q kc ks s (T.setTop (mkF m pc Ls (.int z :: st))) := by
  obtain ⟨fs, hr, hrun, hended, hW, hsame⟩ := X.leave (v := some (.int z)) (fun h => by rw [hret] at h; cases h) hlk
  exact ⟨_, _, Jvm.RoadKit.retOut X hx hret rfl (Or.inl ⟨rfl, Or.inl rfl, z, rfl⟩) (hb hby hd) hr, hrun, hended, _, _, rfl, hQ, ⟨_, rfl⟩, hW, hsame.mono hkc hks⟩
theorem retA (X : Stand p l e R s m args below meth c T locs cells slots) (hx : p.tables.exec = Jvm.exec) (hby : c.code = code) {t : FieldType} {w : Value} (hret : meth.sig.returnType = some t) (ht : t.isReference = true) (hw : w.isRef = true) (hn : narrow t w = w) (hd : decode code pc = .ok (.areturn, 1)) (hlk : meth.locks = false) (hkc : cells ≤ kc) (hks : slots ≤ ks) (hQ : Q (some w) T.heap locs) : Go p.tables e below Q kc ks s (T.setTop (mkF m pc Ls (w :: st))) := by
  obtain ⟨fs, hr, hrun, hended, hW, hsame⟩ := X.leave (v := some w) (fun h => by rw [hret] at h; cases h) hlk
  exact ⟨_, _, Jvm.RoadKit.retOut X hx hret hn (Or.inr (Or.inr (Or.inr (Or.inr ⟨rfl, ht, hw⟩)))) (hb hby hd) hr, hrun, hended, _, _, rfl, hQ, ⟨_, rfl⟩, hW, hsame.mono hkc hks⟩
theorem retV (X : Stand p l e R s m args below meth c T locs cells slots) (hx : p.tables.exec = Jvm.exec) (hby : c.code = code) (hret : meth.sig.returnType = none) (hd : decode code pc = .ok (.return_, 1)) (hlk : meth.locks = false) (hkc : cells ≤ kc) (hks : slots ≤ ks) (hQ : Q none T.heap locs) : Go p.tables e below Q kc ks s (T.setTop (mkF m pc Ls [])) := by
  obtain ⟨fs, hr, hrun, hended, hW, hsame⟩ := X.leave (v := none) (fun _ => rfl) hlk
  exact ⟨_, _, X.returnOut hx hret (hb hby hd) hr, hrun, hended, _, _, rfl, hQ, ⟨_, rfl⟩, hW, hsame.mono hkc hks⟩
end Steps1
section Words1
variable {args : Array Value} {first s : State} {o : Option Outcome} {idx : List Nat} {t : Term} {k : Int32}
theorem eqI_v (h : (Jvm.Cond.eq t (.int k)).value args first o s idx = some true) : t.eval args first o idx s = some (.int k) := by
  simp only [Jvm.Cond.value, Term.eval] at h
  cases ht : t.eval args first o idx s with
  | none => simp [ht] at h
  | some x => cases x <;> simp [ht] at h ⊢; exact h
end Words1
end Jvm.OG
namespace Jvm.OG
open Sem ClassFile Op Lib Jvm.Stand Jvm.Free Jvm.LawKit Jvm.RoadKit
section Laws2
variable {p : Program} {l : Launch} {e : Env} {R : Room} {s : State} {m : MethodId} {args : Array Value} {below : List Frame} {meth : Method} {c : Code} {T : State} {locs : List Loc} {cells slots : Nat} {Q : Option Value → Heap → List Loc → Prop} {kc ks : Nat} {code : ByteArray} {pc pc' : Nat} {Ls Ls' : Array Slot} {st : List Value} {Z : State} {a0 : Array Value} {h : Heap}
theorem gS (X : Stand p l e R s m args below meth c T locs cells slots) (hx : p.tables.exec = Jvm.exec) (hZ : Z.Warmed39 s.vm) (hby : c.code = code) {own : String} {index : Nat} (hown : s.vm.findClass own = some m.cls) {R0 O n d : String} (w : (Cond.fieldLink own index R0 n d).before a0 Z = true) (via : Via Z R0 O n d) (eT : T.heap = h) {v : Value} (F : Sta Z h O n d v) (hd : decode code pc = .ok (.getstatic index, 3)) (hp : pc + 3 = pc')
    (K : ∀ T', Stand p l e R s m args below meth c T' locs cells slots → T'.heap = h → Go p.tables e below Q kc ks s (T'.setTop (mkF m pc' Ls (v :: st)))) : Go p.tables e below Q kc ks s (T.setTop (mkF m pc Ls st)) := by
  subst hp
  obtain ⟨T', X', e', st'⟩ := getS2 X hx hZ hown (host := "") (Or.inl w) via eT F (g := mkF m pc Ls st) rfl (hb hby hd)
  exact Go.step st' (K T' X' e')
theorem gF (X : Stand p l e R s m args below meth c T locs cells slots) (hx : p.tables.exec = Jvm.exec) (hZ : Z.Warmed39 s.vm) (hby : c.code = code) {own : String} {index : Nat} (hown : s.vm.findClass own = some m.cls) {R0 O n d : String} (w : (Cond.fieldLink own index R0 n d).before a0 Z = true) (via : Via Z R0 O n d) (eT : T.heap = h) {a : Addr} {v : Value} (F : Fld Z h a O n d v) (hd : decode code pc = .ok (.getfield index, 3)) (hp : pc + 3 = pc')
    (K : ∀ T', Stand p l e R s m args below meth c T' locs cells slots → T'.heap = h → Go p.tables e below Q kc ks s (T'.setTop (mkF m pc' Ls (v :: st)))) : Go p.tables e below Q kc ks s (T.setTop (mkF m pc Ls (.ref a :: st))) := by
  subst hp
  obtain ⟨T', X', e', st'⟩ := getF X hx hZ hown (host := "") (Or.inl w) via eT F (g := mkF m pc Ls (.ref a :: st)) rfl rfl (hb hby hd)
  exact Go.step st' (K T' X' e')
theorem gSN (X : Stand p l e R s m args below meth c T locs cells slots) (hx : p.tables.exec = Jvm.exec) (hZ : Z.Warmed39 s.vm) (hby : c.code = code) {own : String} {index : Nat} (hown : s.vm.findClass own = some m.cls) {R0 O n d host : String} (w : (Cond.fieldLinkNest own index R0 n d host).before a0 Z = true) (via : Via Z R0 O n d) (eT : T.heap = h) {v : Value} (F : Sta Z h O n d v) (hd : decode code pc = .ok (.getstatic index, 3)) (hp : pc + 3 = pc')
    (K : ∀ T', Stand p l e R s m args below meth c T' locs cells slots → T'.heap = h → Go p.tables e below Q kc ks s (T'.setTop (mkF m pc' Ls (v :: st)))) : Go p.tables e below Q kc ks s (T.setTop (mkF m pc Ls st)) := by
  subst hp
  obtain ⟨T', X', e', st'⟩ := getS2 X hx hZ hown (Or.inr w) via eT F (g := mkF m pc Ls st) rfl (hb hby hd)
  exact Go.step st' (K T' X' e')
theorem gFN (X : Stand p l e R s m args below meth c T locs cells slots) (hx : p.tables.exec = Jvm.exec) (hZ : Z.Warmed39 s.vm) (hby : c.code = code) {own : String} {index : Nat} (hown : s.vm.findClass own = some m.cls) {R0 O n d host : String} (w : (Cond.fieldLinkNest own index R0 n d host).before a0 Z = true) (via : Via Z R0 O n d) (eT : T.heap = h) {a : Addr} {v : Value} (F : Fld Z h a O n d v) (hd : decode code pc = .ok (.getfield index, 3)) (hp : pc + 3 = pc')
    (K : ∀ T', Stand p l e R s m args below meth c T' locs cells slots → T'.heap = h → Go p.tables e below Q kc ks s (T'.setTop (mkF m pc' Ls (v :: st)))) : Go p.tables e below Q kc ks s (T.setTop (mkF m pc Ls (.ref a :: st))) := by
  subst hp
  obtain ⟨T', X', e', st'⟩ := getF X hx hZ hown (Or.inr w) via eT F (g := mkF m pc Ls (.ref a :: st)) rfl rfl (hb hby hd)
  exact Go.step st' (K T' X' e')
theorem pF (X : Stand p l e R s m args below meth c T locs cells slots) (hx : p.tables.exec = Jvm.exec) (hZ : Z.Warmed39 s.vm) (hby : c.code = code) {own : String} {index : Nat} (hown : s.vm.findClass own = some m.cls) {R0 O n d : String} (w : (Cond.fieldLink own index R0 n d).before a0 Z = true) (via : Via Z R0 O n d) (eT : T.heap = h) {C : String} {kk : Nat} {ty : FieldType} {a : Addr} {v old : Value} (F : Fld Z h a O n d old) (E : Exa Z h a C) (L : (Cond.lays C O n d).before a0 Z = true ∨ ((Cond.laysFinal C O n d).before a0 Z = true ∧ own = O ∧ meth.name = "<init>")) (wi : (Cond.instantiable C kk).before a0 Z = true) (hty : parseFieldDescriptor d = some ty) (hn : narrow ty v = v) (hf : fits ty v = true) (hd : decode code pc = .ok (.putfield index, 3)) (hp : pc + 3 = pc')
    (K : ∀ T' h', Stand p l e R s m args below meth c T' (locs ++ [⟨a, Jvm.RoadKit.slotOf Z O n d⟩]) cells slots → T'.heap = h' → Wr h h' a (Jvm.RoadKit.slotOf Z O n d) v → Go p.tables e below Q kc ks s (T'.setTop (mkF m pc' Ls st))) : Go p.tables e below Q kc ks s (T.setTop (mkF m pc Ls (v :: .ref a :: st))) := by
  subst hp
  obtain ⟨T', h', X', e', W', st'⟩ := putF X hx hZ hown (host := "") (Or.inl w) via eT F E L wi hty hn hf (g := mkF m pc Ls (v :: .ref a :: st)) rfl rfl (hb hby hd)
  exact Go.step st' (K T' h' X' e' W')
theorem pFN (X : Stand p l e R s m args below meth c T locs cells slots) (hx : p.tables.exec = Jvm.exec) (hZ : Z.Warmed39 s.vm) (hby : c.code = code) {own : String} {index : Nat} (hown : s.vm.findClass own = some m.cls) {R0 O n d : String} (w : (Cond.fieldLink own index R0 n d).before a0 Z = true) (via : Via Z R0 O n d) (eT : T.heap = h) {C : String} {kk : Nat} {ty : FieldType} {a : Addr} {v v' old : Value} (F : Fld Z h a O n d old) (E : Exa Z h a C) (L : (Cond.lays C O n d).before a0 Z = true ∨ ((Cond.laysFinal C O n d).before a0 Z = true ∧ own = O ∧ meth.name = "<init>")) (wi : (Cond.instantiable C kk).before a0 Z = true) (hty : parseFieldDescriptor d = some ty) (hn : narrow ty v = v') (hf : fits ty v' = true) (hd : decode code pc = .ok (.putfield index, 3)) (hp : pc + 3 = pc')
    (K : ∀ T' h', Stand p l e R s m args below meth c T' (locs ++ [⟨a, Jvm.RoadKit.slotOf Z O n d⟩]) cells slots → T'.heap = h' → Wr h h' a (Jvm.RoadKit.slotOf Z O n d) v' → Go p.tables e below Q kc ks s (T'.setTop (mkF m pc' Ls st))) : Go p.tables e below Q kc ks s (T.setTop (mkF m pc Ls (v :: .ref a :: st))) := by
  subst hp
  obtain ⟨T', h', X', e', W', st'⟩ := putFN X hx hZ hown w via eT F E L wi hty hn hf (g := mkF m pc Ls (v :: .ref a :: st)) rfl rfl (hb hby hd)
  exact Go.step st' (K T' h' X' e' W')
theorem nO (X : Stand p l e R s m args below meth c T locs cells slots) (hx : p.tables.exec = Jvm.exec) (hZ : Z.Warmed39 s.vm) (hby : c.code = code) {own : String} {index : Nat} (hown : s.vm.findClass own = some m.cls) {C : String} {n : Nat} (w : (Cond.classLink own index C).before a0 Z = true) (wi : (Cond.instantiable C n).before a0 Z = true) (wz : (Cond.initialized C).before a0 Z = true) (eT : T.heap = h) (hd : decode code pc = .ok (.new index, 3)) (hc : cells + 1 ≤ R.cells) (hl : slots + n ≤ R.slots) (hp : pc + 3 = pc')
    (K : ∀ T' h' b, b = h.size → Stand p l e R s m args below meth c T' locs (cells + 1) (slots + n) → T'.heap = h' → Ext h h' → Exa Z h' b C → (∀ {O nm d : String} {ty : FieldType}, Laid Z a0 C O nm d → parseFieldDescriptor d = some ty → Fld Z h' b O nm d (defaultValue ty)) → Go p.tables e below Q kc ks s (T'.setTop (mkF m pc' Ls (.ref b :: st)))) : Go p.tables e below Q kc ks s (T.setTop (mkF m pc Ls st)) := by
  subst hp
  obtain ⟨T', h', X', e', E', A', D', -, st'⟩ := newO X hx hZ hown w wi wz eT (g := mkF m pc Ls st) rfl (hb hby hd) hc hl
  exact Go.step st' (K T' h' _ rfl X' e' E' A' D')
theorem iO (X : Stand p l e R s m args below meth c T locs cells slots) (hx : p.tables.exec = Jvm.exec) (hZ : Z.Warmed39 s.vm) (hby : c.code = code) {own : String} {index : Nat} (hown : s.vm.findClass own = some m.cls) (hsz : Ls.size = c.maxLocals) (w1 : (Cond.methodLink own index Lib.objectInit).before a0 Z = true) (w2 : (Cond.instanceMethod Lib.objectInit).before a0 Z = true) (w3 : (Cond.code Lib.objectInit ⟨#[0xb1]⟩ 1 none).before a0 Z = true) (eT : T.heap = h) {a : Addr} {W : Nat} (hW : (st.map fun v => v.category).sum = W) (hf : 1 ≤ R.frames) (hl : W + 12 ≤ R.locals) (hd : decode code pc = .ok (.invokespecial index, 3)) (hp : pc + 3 = pc')
    (K : ∀ T', Stand p l e R s m args below meth c T' locs cells slots → T'.heap = h → Go p.tables e below Q kc ks s (T'.setTop (mkF m pc' Ls st))) : Go p.tables e below Q kc ks s (T.setTop (mkF m pc Ls (.ref a :: st))) := by
  subst hp hW
  obtain ⟨T', X', e', st'⟩ := initO X hx hZ hown w1 w2 w3 eT (g := mkF m pc Ls (.ref a :: st)) rfl hsz rfl (hb hby hd) hf (W := (st.map fun v => v.category).sum) (by show 2 * 0 + _ ≤ _; omega) hl
  exact Go.step st' (K T' X' e')
theorem ldcI (X : Stand p l e R s m args below meth c T locs cells slots) (hx : p.tables.exec = Jvm.exec) (hZ : Z.Warmed39 s.vm) (hby : c.code = code) {own : String} {index : Nat} (hown : s.vm.findClass own = some m.cls) {v : Int32} (w : (Cond.constant own index v).before a0 Z = true) (hd : decode code pc = .ok (.ldc index, 2)) (hp : pc + 2 = pc') (K : Go p.tables e below Q kc ks s (T.setTop (mkF m pc' Ls (.int v :: st)))) : Go p.tables e below Q kc ks s (T.setTop (mkF m pc Ls st)) := by
  subst hp
  exact Go.step (fun _ hr => Jvm.Stand.ldcI (g := mkF m pc Ls st) X hx hown (mv hZ w) rfl (hb hby hd) hr) K
theorem ldcWI (X : Stand p l e R s m args below meth c T locs cells slots) (hx : p.tables.exec = Jvm.exec) (hZ : Z.Warmed39 s.vm) (hby : c.code = code) {own : String} {index : Nat} (hown : s.vm.findClass own = some m.cls) {v : Int32} (w : (Cond.constant own index v).before a0 Z = true) (hd : decode code pc = .ok (.ldc_w index, 3)) (hp : pc + 3 = pc') (K : Go p.tables e below Q kc ks s (T.setTop (mkF m pc' Ls (.int v :: st)))) : Go p.tables e below Q kc ks s (T.setTop (mkF m pc Ls st)) := by
  subst hp
  exact Go.step (fun _ hr => Jvm.Stand.ldcWI (g := mkF m pc Ls st) X hx hown (mv hZ w) rfl (hb hby hd) hr) K
theorem ldc2J (X : Stand p l e R s m args below meth c T locs cells slots) (hx : p.tables.exec = Jvm.exec) (hZ : Z.Warmed39 s.vm) (hby : c.code = code) {own : String} {index : Nat} (hown : s.vm.findClass own = some m.cls) {v : Int64} (w : (Cond.constantLong own index v).before a0 Z = true) (hd : decode code pc = .ok (.ldc2_w index, 3)) (hp : pc + 3 = pc') (K : Go p.tables e below Q kc ks s (T.setTop (mkF m pc' Ls (.long v :: st)))) : Go p.tables e below Q kc ks s (T.setTop (mkF m pc Ls st)) := by
  subst hp
  exact Go.step (fun _ hr => Jvm.Stand.ldc2J (g := mkF m pc Ls st) X hx hown (mv hZ w) rfl (hb hby hd) hr) K
theorem cY (X : Stand p l e R s m args below meth c T locs cells slots) (hx : p.tables.exec = Jvm.exec) (hZ : Z.Warmed39 s.vm) (hby : c.code = code) {own : String} {index : Nat} (hown : s.vm.findClass own = some m.cls) {K0 : String} (w : (Cond.classLink own index K0).before a0 Z = true) (eT : T.heap = h) {a : Addr} (F : Jvm.RoadKit.Ins Z h a K0 true) (hd : decode code pc = .ok (.checkcast index, 3)) (hp : pc + 3 = pc')
    (K : ∀ T', Stand p l e R s m args below meth c T' locs cells slots → T'.heap = h → Go p.tables e below Q kc ks s (T'.setTop (mkF m pc' Ls (.ref a :: st)))) : Go p.tables e below Q kc ks s (T.setTop (mkF m pc Ls (.ref a :: st))) := by
  subst hp
  obtain ⟨T', X', e', st'⟩ := castY X hx hZ hown w eT F (g := mkF m pc Ls (.ref a :: st)) rfl rfl (hb hby hd)
  exact Go.step st' (K T' X' e')
theorem iY (X : Stand p l e R s m args below meth c T locs cells slots) (hx : p.tables.exec = Jvm.exec) (hZ : Z.Warmed39 s.vm) (hby : c.code = code) {own : String} {index : Nat} (hown : s.vm.findClass own = some m.cls) {K0 : String} (w : (Cond.classLink own index K0).before a0 Z = true) (eT : T.heap = h) {a : Addr} (F : Jvm.RoadKit.Ins Z h a K0 true) (hd : decode code pc = .ok (.instanceof index, 3)) (hp : pc + 3 = pc')
    (K : ∀ T', Stand p l e R s m args below meth c T' locs cells slots → T'.heap = h → Go p.tables e below Q kc ks s (T'.setTop (mkF m pc' Ls (.int 1 :: st)))) : Go p.tables e below Q kc ks s (T.setTop (mkF m pc Ls (.ref a :: st))) := by
  subst hp
  obtain ⟨T', X', e', st'⟩ := instY X hx hZ hown w eT F (g := mkF m pc Ls (.ref a :: st)) rfl rfl (hb hby hd)
  exact Go.step st' (K T' X' e')
theorem nR (X : Stand p l e R s m args below meth c T locs cells slots) (hx : p.tables.exec = Jvm.exec) (hZ : Z.Warmed39 s.vm) (hby : c.code = code) {own : String} {index : Nat} (hown : s.vm.findClass own = some m.cls) {C : String} (w1 : (Cond.classLink own index C).before a0 Z = true) (w2 : (Cond.arrayOver (.object C)).before a0 Z = true) (eT : T.heap = h) {n : Int32} (hn : ¬ n < 0) {cap : Nat} (hcap : n.toNatClampNeg ≤ cap) (hb' : cap * 8 ≤ 536870912) (hc : cells + 1 ≤ R.cells) (hl : slots + cap ≤ R.slots) (hd : decode code pc = .ok (.anewarray index, 3)) (hp : pc + 3 = pc')
    (K : ∀ T' h' cA b, b = h.size → Stand p l e R s m args below meth c T' locs (cells + 1) (slots + cap) → T'.heap = h' → Ext h h' → Arv Z h' b cA (.object C) n [] .null → Ovr Z cA C → Go p.tables e below Q kc ks s (T'.setTop (mkF m pc' Ls (.ref b :: st)))) : Go p.tables e below Q kc ks s (T.setTop (mkF m pc Ls (.int n :: st))) := by
  subst hp
  obtain ⟨T', h', cA, X', e', E', A', O', st'⟩ := newR X hx hZ hown w1 w2 eT (g := mkF m pc Ls (.int n :: st)) rfl (hb hby hd) rfl hn hcap hb' hc hl
  exact Go.step st' (K T' h' cA _ rfl X' e' E' (Arv.new A' hn) O')
theorem nP (X : Stand p l e R s m args below meth c T locs cells slots) (hx : p.tables.exec = Jvm.exec) (hZ : Z.Warmed39 s.vm) (hby : c.code = code) {aty : ArrayType} (w : (Cond.arrayClass (newarray.typeOf aty)).before a0 Z = true) (eT : T.heap = h) {n : Int32} (hn : ¬ n < 0) {cap : Nat} (hcap : n.toNatClampNeg ≤ cap) (hb' : cap * 8 ≤ 536870912) (hc : cells + 1 ≤ R.cells) (hl : slots + cap ≤ R.slots) (hd : decode code pc = .ok (.newarray aty, 2)) (hp : pc + 2 = pc')
    (K : ∀ T' h' cA b, b = h.size → Stand p l e R s m args below meth c T' locs (cells + 1) (slots + cap) → T'.heap = h' → Ext h h' → Arv Z h' b cA (newarray.typeOf aty) n [] (defaultValue (newarray.typeOf aty)) → Go p.tables e below Q kc ks s (T'.setTop (mkF m pc' Ls (.ref b :: st)))) : Go p.tables e below Q kc ks s (T.setTop (mkF m pc Ls (.int n :: st))) := by
  subst hp
  obtain ⟨T', h', cA, X', e', E', A', st'⟩ := newP X hx hZ w eT (g := mkF m pc Ls (.int n :: st)) rfl (hb hby hd) rfl hn hcap hb' hc hl
  exact Go.step st' (K T' h' cA _ rfl X' e' E' (Arv.new A' hn))
theorem sC (X : Stand p l e R s m args below meth c T locs cells slots) (hx : p.tables.exec = Jvm.exec) (hZ : Z.Warmed39 s.vm) (hby : c.code = code) (eT : T.heap = h) {a : Addr} {k : ClassId} {z : Int32} {vs : List Value} {dv : Value} (A : Arv Z h a k .char z vs dv) {j x : Int32} (i : Nat) (hj : ¬ j < 0 ∧ j < z) (hi : j.toNatClampNeg = i) (hil : i < vs.length) (hd : decode code pc = .ok (.castore, 1)) (hp : pc + 1 = pc')
    (K : ∀ T' h', Stand p l e R s m args below meth c T' (locs ++ [⟨a, j.toNatClampNeg⟩]) cells slots → T'.heap = h' → Wr h h' a j.toNatClampNeg (.int (nar .char x)) → Arv Z h' a k .char z (vs.set i (.int (nar .char x))) dv → Go p.tables e below Q kc ks s (T'.setTop (mkF m pc' Ls st))) : Go p.tables e below Q kc ks s (T.setTop (mkF m pc Ls (.int x :: .int j :: .ref a :: st))) := by
  subst hp
  obtain ⟨cl, A1, q1, S1, N1, H1, G1⟩ := A
  obtain ⟨T', h', X', e', W', st'⟩ := stC X hx hZ eT A1 (inb_of S1 hj) (g := mkF m pc Ls (.int x :: .int j :: .ref a :: st)) rfl rfl (hb hby hd)
  exact Go.step st' (K T' h' X' e' W' (Arv.set A1 q1 S1 N1 H1 G1 (fits_nar_char x) W' i hi hil))
theorem sB (X : Stand p l e R s m args below meth c T locs cells slots) (hx : p.tables.exec = Jvm.exec) (hZ : Z.Warmed39 s.vm) (hby : c.code = code) (eT : T.heap = h) {a : Addr} {k : ClassId} {z : Int32} {vs : List Value} {dv : Value} (A : Arv Z h a k .byte z vs dv) {j x : Int32} (i : Nat) (hj : ¬ j < 0 ∧ j < z) (hi : j.toNatClampNeg = i) (hil : i < vs.length) (hd : decode code pc = .ok (.bastore, 1)) (hp : pc + 1 = pc')
    (K : ∀ T' h', Stand p l e R s m args below meth c T' (locs ++ [⟨a, j.toNatClampNeg⟩]) cells slots → T'.heap = h' → Wr h h' a j.toNatClampNeg (.int (nar .byte x)) → Arv Z h' a k .byte z (vs.set i (.int (nar .byte x))) dv → Go p.tables e below Q kc ks s (T'.setTop (mkF m pc' Ls st))) : Go p.tables e below Q kc ks s (T.setTop (mkF m pc Ls (.int x :: .int j :: .ref a :: st))) := by
  subst hp
  obtain ⟨cl, A1, q1, S1, N1, H1, G1⟩ := A
  obtain ⟨T', h', X', e', W', st'⟩ := stB X hx hZ eT A1 (inb_of S1 hj) (g := mkF m pc Ls (.int x :: .int j :: .ref a :: st)) rfl rfl (hb hby hd)
  exact Go.step st' (K T' h' X' e' W' (Arv.set A1 q1 S1 N1 H1 G1 (fits_nar_byte x) W' i hi hil))
theorem sI (X : Stand p l e R s m args below meth c T locs cells slots) (hx : p.tables.exec = Jvm.exec) (hZ : Z.Warmed39 s.vm) (hby : c.code = code) (eT : T.heap = h) {a : Addr} {k : ClassId} {z : Int32} {vs : List Value} {dv : Value} (A : Arv Z h a k .int z vs dv) {j x : Int32} (i : Nat) (hj : ¬ j < 0 ∧ j < z) (hi : j.toNatClampNeg = i) (hil : i < vs.length) (hd : decode code pc = .ok (.iastore, 1)) (hp : pc + 1 = pc')
    (K : ∀ T' h', Stand p l e R s m args below meth c T' (locs ++ [⟨a, j.toNatClampNeg⟩]) cells slots → T'.heap = h' → Wr h h' a j.toNatClampNeg (.int x) → Arv Z h' a k .int z (vs.set i (.int x)) dv → Go p.tables e below Q kc ks s (T'.setTop (mkF m pc' Ls st))) : Go p.tables e below Q kc ks s (T.setTop (mkF m pc Ls (.int x :: .int j :: .ref a :: st))) := by
  subst hp
  obtain ⟨cl, A1, q1, S1, N1, H1, G1⟩ := A
  obtain ⟨T', h', X', e', W', st'⟩ := stI X hx hZ eT A1 (inb_of S1 hj) (g := mkF m pc Ls (.int x :: .int j :: .ref a :: st)) rfl rfl (hb hby hd)
  exact Go.step st' (K T' h' X' e' W' (Arv.set A1 q1 S1 N1 H1 G1 (rfl) W' i hi hil))
theorem sR (X : Stand p l e R s m args below meth c T locs cells slots) (hx : p.tables.exec = Jvm.exec) (hZ : Z.Warmed39 s.vm) (hby : c.code = code) (eT : T.heap = h) {a : Addr} {C : String} {k : ClassId} {z : Int32} {vs : List Value} {dv : Value} (A : Arv Z h a k (.object C) z vs dv) {j : Int32} {v : Value} (hv : fits (.object C) v = true) (i : Nat) (hj : ¬ j < 0 ∧ j < z) (hi : j.toNatClampNeg = i) (hil : i < vs.length) (F : ∀ cl, Arr Z h a cl (.object C) → cl.cls = k → Sto Z h a v) (hd : decode code pc = .ok (.aastore, 1)) (hp : pc + 1 = pc')
    (K : ∀ T' h', Stand p l e R s m args below meth c T' (locs ++ [⟨a, j.toNatClampNeg⟩]) cells slots → T'.heap = h' → Wr h h' a j.toNatClampNeg v → Arv Z h' a k (.object C) z (vs.set i v) dv → Go p.tables e below Q kc ks s (T'.setTop (mkF m pc' Ls st))) : Go p.tables e below Q kc ks s (T.setTop (mkF m pc Ls (v :: .int j :: .ref a :: st))) := by
  subst hp
  obtain ⟨cl, A1, q1, S1, N1, H1, G1⟩ := A
  obtain ⟨T', h', X', e', W', st'⟩ := stR X hx hZ eT A1 (inb_of S1 hj) rfl (F cl A1 q1) (g := mkF m pc Ls (v :: .int j :: .ref a :: st)) rfl rfl (hb hby hd)
  exact Go.step st' (K T' h' X' e' W' (Arv.set A1 q1 S1 N1 H1 G1 hv W' i hi hil))
theorem lR (X : Stand p l e R s m args below meth c T locs cells slots) (hx : p.tables.exec = Jvm.exec) (hZ : Z.Warmed39 s.vm) (hby : c.code = code) {ty : FieldType} (hty : ty.isReference = true) (eT : T.heap = h) {a : Addr} {k : ClassId} {z : Int32} {vs : List Value} {dv : Value} (A : Arv Z h a k ty z vs dv) {j : Int32} {v : Value} (hj : ¬ j < 0 ∧ j < z) (hv : vs.getD j.toNatClampNeg dv = v) (hd : decode code pc = .ok (.aaload, 1)) (hp : pc + 1 = pc')
    (K : Go p.tables e below Q kc ks s (T.setTop (mkF m pc' Ls (v :: st)))) : Go p.tables e below Q kc ks s (T.setTop (mkF m pc Ls (.int j :: .ref a :: st))) := by
  subst hp
  obtain ⟨cl, A1, q1, S1, N1, H1, G1⟩ := A
  exact Go.step (fun t hr => X.aaload hx (j := j) (v := v) (by rw [eT]; exact A1.1) (State.isArrayOf_alike hZ.alike A1.2.1) hty A1.2.2 (inb_of S1 hj) (Has.at H1 (inb_of S1 hj) hv) (g := mkF m pc Ls (.int j :: .ref a :: st)) rfl rfl (hb hby hd) t hr) K
theorem lC (X : Stand p l e R s m args below meth c T locs cells slots) (hx : p.tables.exec = Jvm.exec) (hZ : Z.Warmed39 s.vm) (hby : c.code = code) (eT : T.heap = h) {a : Addr} {k : ClassId} {z : Int32} {vs : List Value} {dv : Value} (A : Arv Z h a k .char z vs dv) {j : Int32} {v : Int32} (hj : ¬ j < 0 ∧ j < z) (hv : vs.getD j.toNatClampNeg dv = (.int v)) (hd : decode code pc = .ok (.caload, 1)) (hp : pc + 1 = pc')
    (K : Go p.tables e below Q kc ks s (T.setTop (mkF m pc' Ls ((.int v) :: st)))) : Go p.tables e below Q kc ks s (T.setTop (mkF m pc Ls (.int j :: .ref a :: st))) := by
  subst hp
  obtain ⟨cl, A1, q1, S1, N1, H1, G1⟩ := A
  exact Go.step (fun t hr => X.caload hx (j := j) (v := (.int v)) (by rw [eT]; exact A1.1) (State.isArrayOf_alike hZ.alike A1.2.1) A1.2.2 (inb_of S1 hj) (Has.at H1 (inb_of S1 hj) hv) (g := mkF m pc Ls (.int j :: .ref a :: st)) rfl rfl (hb hby hd) t hr) K
theorem lB (X : Stand p l e R s m args below meth c T locs cells slots) (hx : p.tables.exec = Jvm.exec) (hZ : Z.Warmed39 s.vm) (hby : c.code = code) (eT : T.heap = h) {a : Addr} {k : ClassId} {z : Int32} {vs : List Value} {dv : Value} (A : Arv Z h a k .byte z vs dv) {j : Int32} {v : Int32} (hj : ¬ j < 0 ∧ j < z) (hv : vs.getD j.toNatClampNeg dv = (.int v)) (hd : decode code pc = .ok (.baload, 1)) (hp : pc + 1 = pc')
    (K : Go p.tables e below Q kc ks s (T.setTop (mkF m pc' Ls ((.int v) :: st)))) : Go p.tables e below Q kc ks s (T.setTop (mkF m pc Ls (.int j :: .ref a :: st))) := by
  subst hp
  obtain ⟨cl, A1, q1, S1, N1, H1, G1⟩ := A
  exact Go.step (fun t hr => X.baloadBytes hx (j := j) (v := (.int v)) (by rw [eT]; exact A1.1) (State.isArrayOf_alike hZ.alike A1.2.1) A1.2.2 (inb_of S1 hj) (Has.at H1 (inb_of S1 hj) hv) (g := mkF m pc Ls (.int j :: .ref a :: st)) rfl rfl (hb hby hd) t hr) K
theorem lI (X : Stand p l e R s m args below meth c T locs cells slots) (hx : p.tables.exec = Jvm.exec) (hZ : Z.Warmed39 s.vm) (hby : c.code = code) (eT : T.heap = h) {a : Addr} {k : ClassId} {z : Int32} {vs : List Value} {dv : Value} (A : Arv Z h a k .int z vs dv) {j : Int32} {v : Int32} (hj : ¬ j < 0 ∧ j < z) (hv : vs.getD j.toNatClampNeg dv = (.int v)) (hd : decode code pc = .ok (.iaload, 1)) (hp : pc + 1 = pc')
    (K : Go p.tables e below Q kc ks s (T.setTop (mkF m pc' Ls ((.int v) :: st)))) : Go p.tables e below Q kc ks s (T.setTop (mkF m pc Ls (.int j :: .ref a :: st))) := by
  subst hp
  obtain ⟨cl, A1, q1, S1, N1, H1, G1⟩ := A
  exact Go.step (fun t hr => X.iaload hx (j := j) (v := (.int v)) (by rw [eT]; exact A1.1) (State.isArrayOf_alike hZ.alike A1.2.1) A1.2.2 (inb_of S1 hj) (Has.at H1 (inb_of S1 hj) hv) (g := mkF m pc Ls (.int j :: .ref a :: st)) rfl rfl (hb hby hd) t hr) K
theorem aL (X : Stand p l e R s m args below meth c T locs cells slots) (hx : p.tables.exec = Jvm.exec) (hZ : Z.Warmed39 s.vm) (hby : c.code = code) (eT : T.heap = h) {a : Addr} {ty : FieldType} {k : ClassId} {z : Int32} {vs : List Value} {dv : Value} (A : Arv Z h a k ty z vs dv) (hd : decode code pc = .ok (.arraylength, 1)) (hp : pc + 1 = pc')
    (K : Go p.tables e below Q kc ks s (T.setTop (mkF m pc' Ls (.int z :: st)))) : Go p.tables e below Q kc ks s (T.setTop (mkF m pc Ls (.ref a :: st))) := by
  subst hp
  obtain ⟨cl, A1, q1, S1, N1, H1, G1⟩ := A
  refine Go.step (fun t hr => X.arraylength hx (by rw [eT]; exact A1.1) (State.isArrayOf_alike hZ.alike A1.2.1) (g := mkF m pc Ls (.ref a :: st)) rfl rfl (hb hby hd) t hr) ?_
  rw [len_of S1 N1]
  exact K
theorem cV (X : Stand p l e R s m args below meth c T locs cells slots) (hx : p.tables.exec = Jvm.exec) (hZ : Z.Warmed39 s.vm) (hby : c.code = code) (hsz : Ls.size = c.maxLocals) {own : String} {index : Nat} (hown : s.vm.findClass own = some m.cls) {C : String} {y z : MethodName} {bytes : ByteArray} {maxL : Nat} {ret : Option FieldType} {rm : Room} {as' : Array Value} {Qc : Option Value → Heap → List Loc → Prop} (wl : (Cond.methodLink own index y).before a0 Z = true) (wd : (Cond.declares y).before a0 Z = true) (hnf : NotFace s y) (ws : (Cond.selects C y z).before a0 Z = true) (wi : (Cond.instanceMethod z).before a0 Z = true) (wc : (Cond.code z bytes maxL ret).before a0 Z = true) (wz : (Cond.initialized z.cls).before a0 Z = true) (hy : y.cls ≠ "java/lang/invoke/MethodHandle" ∧ y.cls ≠ "java/lang/invoke/VarHandle") (hM : MetFree l z (head1 [Cond.code z bytes maxL ret] rm) (fun a U => a = as' ∧ Z.Warmed39 U.vm ∧ U.heap = h) (fun _ _ _ _ _ => True) (fun _ U o U' => ∃ v L, o = .returned v ∧ Qc v U'.heap L ∧ FrameEnd U o U' L rm.cells rm.slots)) {b : Addr} (E : Exa Z h b C) (eT : T.heap = h) {argsL stk : List Value} {ps : List FieldType} {r : Option FieldType} (hpd : parseMethodDescriptor y.desc = some ⟨ps, r⟩) (hpl : argsL.length = ps.length) (has : as' = (Value.ref b :: argsL).toArray) (hstk : stk = argsL.reverse ++ .ref b :: st) {W : Nat} (hW : (st.map fun v => v.category).sum = W) (hf : rm.frames + 1 ≤ R.frames) (hl : W + (maxL + 11) + rm.locals ≤ R.locals) (hcl : cells + rm.cells ≤ R.cells) (hsl : slots + rm.slots ≤ R.slots) (hd : decode code pc = .ok (.invokevirtual index, 3)) (hp : pc + 3 = pc')
    (K : ∀ T' L v, Stand p l e R s m args below meth c T' (locs ++ L) (cells + rm.cells) (slots + rm.slots) → Qc v T'.heap L → Go p.tables e below Q kc ks s (T'.setTop (mkF m pc' Ls (v.toList ++ st)))) : Go p.tables e below Q kc ks s (T.setTop (mkF m pc Ls stk)) := by
  subst hp has hstk hW
  obtain ⟨cq, kq, qa, qb, qc⟩ := isOf hZ eT E
  obtain ⟨_, _, ⟨T1, L1, k1, n1⟩, -, X1, ⟨Lc1, hQ1, l1, y1, z1⟩, st1⟩ := X.virtualBack hx (y := y) (z := z) hown (mvT hZ wl) (mvT hZ wd) hnf (mvT hZ ws) (mvT hZ wi) hy (backOf (W := (st.map fun v => v.category).sum) hM hZ wc wz hf hl) qa qc (g := mkF m pc Ls (argsL.reverse ++ .ref b :: st)) rfl hsz (Steps.refl _) (argsL := argsL) (rest := st) (lenOf hpd hpl) rfl (by show 2 * 0 + _ ≤ _; omega) (hb hby hd) (fun _ _ => ⟨rfl, eT, hcl, hsl⟩)
  dsimp only [Pt.U, Pt.locs, Pt.cells, Pt.slots] at X1 l1 y1 z1 st1 hQ1
  subst l1 y1 z1
  exact Go.via st1 (K _ _ _ X1 hQ1)
theorem cI (X : Stand p l e R s m args below meth c T locs cells slots) (hx : p.tables.exec = Jvm.exec) (hZ : Z.Warmed39 s.vm) (hby : c.code = code) (hsz : Ls.size = c.maxLocals) {own : String} {index : Nat} (hown : s.vm.findClass own = some m.cls) {C : String} {count : Nat} {xi y : MethodName} {bytes : ByteArray} {maxL : Nat} {ret : Option FieldType} {rm : Room} {as' : Array Value} {Qc : Option Value → Heap → List Loc → Prop} (wl : (Cond.methodLink own index xi).before a0 Z = true) (wd : (Cond.declares xi).before a0 Z = true) (wf : (Cond.interfaceMethod xi.cls xi.cls xi.name xi.desc).before a0 Z = true) (hwf : ((Cond.interfaceMethod xi.cls xi.cls xi.name xi.desc).onTables && (Cond.interfaceMethod xi.cls xi.cls xi.name xi.desc).keepsFace) = true) (ws : (Cond.selects C xi y).before a0 Z = true) (wi : (Cond.instanceMethod y).before a0 Z = true) (wp : (Cond.publicMethod y).before a0 Z = true) (wu : (Cond.unhidden C xi.name xi.desc).before a0 Z = true) (wct : (Cond.castable C xi.cls).before a0 Z = true) (wc : (Cond.code y bytes maxL ret).before a0 Z = true) (wz : (Cond.initialized y.cls).before a0 Z = true) (hy : xi.cls ≠ "java/lang/invoke/MethodHandle" ∧ xi.cls ≠ "java/lang/invoke/VarHandle") (hM : MetFree l y (head1 [Cond.code y bytes maxL ret] rm) (fun a U => a = as' ∧ Z.Warmed39 U.vm ∧ U.heap = h) (fun _ _ _ _ _ => True) (fun _ U o U' => ∃ v L, o = .returned v ∧ Qc v U'.heap L ∧ FrameEnd U o U' L rm.cells rm.slots)) {b : Addr} (E : Exa Z h b C) (eT : T.heap = h) {argsL stk : List Value} {ps : List FieldType} {r : Option FieldType} (hpd : parseMethodDescriptor xi.desc = some ⟨ps, r⟩) (hpl : argsL.length = ps.length) (has : as' = (Value.ref b :: argsL).toArray) (hstk : stk = argsL.reverse ++ .ref b :: st) {W : Nat} (hW : (st.map fun v => v.category).sum = W) (hf : rm.frames + 1 ≤ R.frames) (hl : W + (maxL + 11) + rm.locals ≤ R.locals) (hcl : cells + rm.cells ≤ R.cells) (hsl : slots + rm.slots ≤ R.slots) (hd : decode code pc = .ok (.invokeinterface index count, 5)) (hp : pc + 5 = pc')
    (K : ∀ T' L v, Stand p l e R s m args below meth c T' (locs ++ L) (cells + rm.cells) (slots + rm.slots) → Qc v T'.heap L → Go p.tables e below Q kc ks s (T'.setTop (mkF m pc' Ls (v.toList ++ st)))) : Go p.tables e below Q kc ks s (T.setTop (mkF m pc Ls stk)) := by
  subst hp has hstk hW
  obtain ⟨cq, kq, qa, qb, qc⟩ := isOf hZ eT E
  obtain ⟨_, _, ⟨T1, L1, k1, n1⟩, -, X1, ⟨Lc1, hQ1, l1, y1, z1⟩, st1⟩ := X.interfaceBack hx (xi := xi) (y := y) hown (mvT hZ wl) (mvT hZ wd) (mvT hZ wf hwf) (mvT hZ ws) (mvT hZ wi) (mvT hZ wp) (mvT hZ wu) (mvT hZ wct) hy (backOf (W := (st.map fun v => v.category).sum) hM hZ wc wz hf hl) qa qb qc (g := mkF m pc Ls (argsL.reverse ++ .ref b :: st)) rfl hsz (Steps.refl _) (argsL := argsL) (rest := st) (lenOf hpd hpl) rfl (by show 2 * 0 + _ ≤ _; omega) (hb hby hd) (fun _ _ => ⟨rfl, eT, hcl, hsl⟩)
  dsimp only [Pt.U, Pt.locs, Pt.cells, Pt.slots] at X1 l1 y1 z1 st1 hQ1
  subst l1 y1 z1
  exact Go.via st1 (K _ _ _ X1 hQ1)
theorem cS (X : Stand p l e R s m args below meth c T locs cells slots) (hx : p.tables.exec = Jvm.exec) (hZ : Z.Warmed39 s.vm) (hby : c.code = code) (hsz : Ls.size = c.maxLocals) {own : String} {index : Nat} (hown : s.vm.findClass own = some m.cls) {y : MethodName} {bytes : ByteArray} {maxL : Nat} {ret : Option FieldType} {rm : Room} {as' : Array Value} {Qc : Option Value → Heap → List Loc → Prop} (wl : (Cond.methodLink own index y).before a0 Z = true) (wst : (Cond.static y).before a0 Z = true) (wc : (Cond.code y bytes maxL ret).before a0 Z = true) (wz : (Cond.initialized y.cls).before a0 Z = true) (hy : y.cls ≠ "java/lang/invoke/MethodHandle" ∧ y.cls ≠ "java/lang/invoke/VarHandle") (hM : MetFree l y (head1 [Cond.code y bytes maxL ret] rm) (fun a U => a = as' ∧ Z.Warmed39 U.vm ∧ U.heap = h) (fun _ _ _ _ _ => True) (fun _ U o U' => ∃ v L, o = .returned v ∧ Qc v U'.heap L ∧ FrameEnd U o U' L rm.cells rm.slots)) (eT : T.heap = h) {argsL stk : List Value} {ps : List FieldType} {r : Option FieldType} (hpd : parseMethodDescriptor y.desc = some ⟨ps, r⟩) (hpl : argsL.length = ps.length) (has : as' = (argsL).toArray) (hstk : stk = argsL.reverse ++ st) {W : Nat} (hW : (st.map fun v => v.category).sum = W) (hf : rm.frames + 1 ≤ R.frames) (hl : W + (maxL + 11) + rm.locals ≤ R.locals) (hcl : cells + rm.cells ≤ R.cells) (hsl : slots + rm.slots ≤ R.slots) (hd : decode code pc = .ok (.invokestatic index, 3)) (hp : pc + 3 = pc')
    (K : ∀ T' L v, Stand p l e R s m args below meth c T' (locs ++ L) (cells + rm.cells) (slots + rm.slots) → Qc v T'.heap L → Go p.tables e below Q kc ks s (T'.setTop (mkF m pc' Ls (v.toList ++ st)))) : Go p.tables e below Q kc ks s (T.setTop (mkF m pc Ls stk)) := by
  subst hp has hstk hW
  obtain ⟨_, _, ⟨T1, L1, k1, n1⟩, -, X1, ⟨Lc1, hQ1, l1, y1, z1⟩, st1⟩ := Jvm.LawKit.callS X hx (y := y) hown (mvT hZ wl) (mvT hZ wst) (mvT hZ wz) (mvT hZ wc) hy (backOf (W := (st.map fun v => v.category).sum) hM hZ wc wz hf hl) (g := mkF m pc Ls (argsL.reverse ++ st)) rfl hsz (argsL := argsL) (rest := st) (lenOf hpd hpl) rfl (by show 2 * 0 + _ ≤ _; omega) (hb hby hd) (fun _ _ => ⟨rfl, eT, hcl, hsl⟩)
  dsimp only [Pt.U, Pt.locs, Pt.cells, Pt.slots] at X1 l1 y1 z1 st1 hQ1
  subst l1 y1 z1
  exact Go.step st1 (K _ _ _ X1 hQ1)
theorem cN (X : Stand p l e R s m args below meth c T locs cells slots) (hx : p.tables.exec = Jvm.exec) (hZ : Z.Warmed39 s.vm) (hby : c.code = code) (hsz : Ls.size = c.maxLocals) {own : String} {index : Nat} (hown : s.vm.findClass own = some m.cls) {y : MethodName} {bytes : ByteArray} {maxL : Nat} {ret : Option FieldType} {rm : Room} {as' : Array Value} {Qc : Option Value → Heap → List Loc → Prop} (hyi : y.name = "<init>") (hrn : ret = none) (wl : (Cond.methodLink own index y).before a0 Z = true) (wi : (Cond.instanceMethod y).before a0 Z = true) (wc : (Cond.code y bytes maxL ret).before a0 Z = true) (wz : (Cond.initialized y.cls).before a0 Z = true) (hy : y.cls ≠ "java/lang/invoke/MethodHandle" ∧ y.cls ≠ "java/lang/invoke/VarHandle") (hM : MetFree l y (head1 [Cond.code y bytes maxL ret] rm) (fun a U => a = as' ∧ Z.Warmed39 U.vm ∧ U.heap = h) (fun _ _ _ _ _ => True) (fun _ U o U' => ∃ v L, o = .returned v ∧ Qc v U'.heap L ∧ FrameEnd U o U' L rm.cells rm.slots)) {b : Addr} (eT : T.heap = h) {argsL stk : List Value} {ps : List FieldType} {r : Option FieldType} (hpd : parseMethodDescriptor y.desc = some ⟨ps, r⟩) (hpl : argsL.length = ps.length) (has : as' = (Value.ref b :: argsL).toArray) (hstk : stk = argsL.reverse ++ .ref b :: st) {W : Nat} (hW : (st.map fun v => v.category).sum = W) (hf : rm.frames + 1 ≤ R.frames) (hl : W + (maxL + 11) + rm.locals ≤ R.locals) (hcl : cells + rm.cells ≤ R.cells) (hsl : slots + rm.slots ≤ R.slots) (hd : decode code pc = .ok (.invokespecial index, 3)) (hp : pc + 3 = pc')
    (K : ∀ T' L v, Stand p l e R s m args below meth c T' (locs ++ L) (cells + rm.cells) (slots + rm.slots) → Qc v T'.heap L → Go p.tables e below Q kc ks s (T'.setTop (mkF m pc' Ls (v.toList ++ st)))) : Go p.tables e below Q kc ks s (T.setTop (mkF m pc Ls stk)) := by
  subst hp has hstk hW hrn
  obtain ⟨_, _, ⟨T1, L1, k1, n1⟩, -, X1, ⟨Lc1, hQ1, l1, y1, z1⟩, st1⟩ := X.specialBack hx (y := y) hyi hown (mvT hZ wl) (mvT hZ wi) (mvT hZ wc) hy (backOf (W := (st.map fun v => v.category).sum) hM hZ wc wz hf hl) (g := mkF m pc Ls (argsL.reverse ++ .ref b :: st)) rfl hsz (Steps.refl _) (a := b) (argsL := argsL) (rest := st) (lenOf hpd hpl) rfl (by show 2 * 0 + _ ≤ _; omega) (hb hby hd) (fun _ _ => ⟨rfl, eT, hcl, hsl⟩)
  dsimp only [Pt.U, Pt.locs, Pt.cells, Pt.slots] at X1 l1 y1 z1 st1 hQ1
  subst l1 y1 z1
  exact Go.via st1 (K _ _ _ X1 hQ1)
theorem cP (X : Stand p l e R s m args below meth c T locs cells slots) (hx : p.tables.exec = Jvm.exec) (hZ : Z.Warmed39 s.vm) (hby : c.code = code) (hsz : Ls.size = c.maxLocals) {own : String} {index : Nat} (hown : s.vm.findClass own = some m.cls) {C : String} {y : MethodName} {bytes : ByteArray} {maxL : Nat} {ret : Option FieldType} {rm : Room} {as' : Array Value} {Qc : Option Value → Heap → List Loc → Prop} (wl : (Cond.methodLink own index y).before a0 Z = true) (wi : (Cond.instanceMethod y).before a0 Z = true) (ws : (Cond.selects y.cls y y).before a0 Z = true) (wp : (Cond.privateMethod y).before a0 Z = true) (wc : (Cond.code y bytes maxL ret).before a0 Z = true) (wz : (Cond.initialized y.cls).before a0 Z = true) (hy : y.cls ≠ "java/lang/invoke/MethodHandle" ∧ y.cls ≠ "java/lang/invoke/VarHandle") (hM : MetFree l y (head1 [Cond.code y bytes maxL ret] rm) (fun a U => a = as' ∧ Z.Warmed39 U.vm ∧ U.heap = h) (fun _ _ _ _ _ => True) (fun _ U o U' => ∃ v L, o = .returned v ∧ Qc v U'.heap L ∧ FrameEnd U o U' L rm.cells rm.slots)) {b : Addr} (E : Exa Z h b C) (eT : T.heap = h) {argsL stk : List Value} {ps : List FieldType} {r : Option FieldType} (hpd : parseMethodDescriptor y.desc = some ⟨ps, r⟩) (hpl : argsL.length = ps.length) (has : as' = (Value.ref b :: argsL).toArray) (hstk : stk = argsL.reverse ++ .ref b :: st) {W : Nat} (hW : (st.map fun v => v.category).sum = W) (hf : rm.frames + 1 ≤ R.frames) (hl : W + (maxL + 11) + rm.locals ≤ R.locals) (hcl : cells + rm.cells ≤ R.cells) (hsl : slots + rm.slots ≤ R.slots) (hd : decode code pc = .ok (.invokevirtual index, 3)) (hp : pc + 3 = pc')
    (K : ∀ T' L v, Stand p l e R s m args below meth c T' (locs ++ L) (cells + rm.cells) (slots + rm.slots) → Qc v T'.heap L → Go p.tables e below Q kc ks s (T'.setTop (mkF m pc' Ls (v.toList ++ st)))) : Go p.tables e below Q kc ks s (T.setTop (mkF m pc Ls stk)) := by
  subst hp has hstk hW
  obtain ⟨cq, qa, qb⟩ := E.cell
  obtain ⟨_, _, ⟨T1, L1, k1, n1⟩, -, X1, ⟨Lc1, hQ1, l1, y1, z1⟩, st1⟩ := X.privateBack hx (y := y) hown (mvT hZ wl) (mvT hZ wi) (mvT hZ ws) (Cond.privateMethod_at (mvP hZ wp (args := #[]))) (mvT hZ wc) hy (backOf (W := (st.map fun v => v.category).sum) hM hZ wc wz hf hl) (g := mkF m pc Ls (argsL.reverse ++ .ref b :: st)) rfl hsz (Steps.refl _) (a := b) (by rw [eT]; exact qa) qb (argsL := argsL) (rest := st) (lenOf hpd hpl) rfl (by show 2 * 0 + _ ≤ _; omega) (hb hby hd) (fun _ _ => ⟨rfl, eT, hcl, hsl⟩)
  dsimp only [Pt.U, Pt.locs, Pt.cells, Pt.slots] at X1 l1 y1 z1 st1 hQ1
  subst l1 y1 z1
  exact Go.via st1 (K _ _ _ X1 hQ1)
theorem cU (X : Stand p l e R s m args below meth c T locs cells slots) (hx : p.tables.exec = Jvm.exec) (hZ : Z.Warmed39 s.vm) (hby : c.code = code) (hsz : Ls.size = c.maxLocals) {own : String} {index : Nat} (hown : s.vm.findClass own = some m.cls) {C : String} {y : MethodName} {bytes : ByteArray} {maxL : Nat} {ret : Option FieldType} {rm : Room} {as' : Array Value} {Qc : Option Value → Heap → List Loc → Prop} (wl : (Cond.methodLink own index y).before a0 Z = true) (wsm : (Cond.sameMethod y.cls y.cls y.name y.desc).before a0 Z = true) (wi : (Cond.instanceMethod y).before a0 Z = true) (wsc : (Cond.superclass own y.cls).before a0 Z = true) (hne : y.name ≠ "<init>") (wc : (Cond.code y bytes maxL ret).before a0 Z = true) (wz : (Cond.initialized y.cls).before a0 Z = true) (hM : MetFree l y (head1 [Cond.code y bytes maxL ret] rm) (fun a U => a = as' ∧ Z.Warmed39 U.vm ∧ U.heap = h) (fun _ _ _ _ _ => True) (fun _ U o U' => ∃ v L, o = .returned v ∧ Qc v U'.heap L ∧ FrameEnd U o U' L rm.cells rm.slots)) {b : Addr} (E : Exa Z h b C) (eT : T.heap = h) {argsL stk : List Value} {ps : List FieldType} {r : Option FieldType} (hpd : parseMethodDescriptor y.desc = some ⟨ps, r⟩) (hpl : argsL.length = ps.length) (has : as' = (Value.ref b :: argsL).toArray) (hstk : stk = argsL.reverse ++ .ref b :: st) {W : Nat} (hW : (st.map fun v => v.category).sum = W) (hf : rm.frames + 1 ≤ R.frames) (hl : W + (maxL + 11) + rm.locals ≤ R.locals) (hcl : cells + rm.cells ≤ R.cells) (hsl : slots + rm.slots ≤ R.slots) (hd : decode code pc = .ok (.invokespecial index, 3)) (hp : pc + 3 = pc')
    (K : ∀ T' L v, Stand p l e R s m args below meth c T' (locs ++ L) (cells + rm.cells) (slots + rm.slots) → Qc v T'.heap L → Go p.tables e below Q kc ks s (T'.setTop (mkF m pc' Ls (v.toList ++ st)))) : Go p.tables e below Q kc ks s (T.setTop (mkF m pc Ls stk)) := by
  subst hp has hstk hW
  obtain ⟨_, _, ⟨T1, L1, k1, n1⟩, -, X1, ⟨Lc1, hQ1, l1, y1, z1⟩, st1⟩ := superBack X hx hZ (y := y) hown wl wsm wi wsc hne (backOf (W := (st.map fun v => v.category).sum) hM hZ wc wz hf hl) eT (Ins.self E) (g := mkF m pc Ls (argsL.reverse ++ .ref b :: st)) rfl hsz wc (argsL := argsL) (rest := st) (lenOf hpd hpl) rfl (by show 2 * 0 + _ ≤ _; omega) (hb hby hd) (fun _ _ => ⟨rfl, eT, hcl, hsl⟩)
  dsimp only [Pt.U, Pt.locs, Pt.cells, Pt.slots] at X1 l1 y1 z1 st1 hQ1
  subst l1 y1 z1
  exact Go.via st1 (K _ _ _ X1 hQ1)
end Laws2
end Jvm.OG
namespace Jvm.Pilot.@@N@@
open Jvm Jvm.ClassFile Sem Op Lib Jvm.Free Jvm.Stand Jvm.LawKit Jvm.RoadKit Bundle Jvm.Pilot.@@N@@.Jvm.D
theorem own_pd_0 : parseMethodDescriptor "(Lcom/example/stutter/stutter/values/Value$Kind;)Z" = some ⟨[(.object "com/example/stutter/stutter/values/Value$Kind")], some .boolean⟩ := by decide +kernel
theorem own_mod6 (x : Int32) : (x &&& (2147483647 : Int32)) % (6 : Int32) = (0 : Int32) ∨ (x &&& (2147483647 : Int32)) % (6 : Int32) = (1 : Int32) ∨ (x &&& (2147483647 : Int32)) % (6 : Int32) = (2 : Int32) ∨ (x &&& (2147483647 : Int32)) % (6 : Int32) = (3 : Int32) ∨ (x &&& (2147483647 : Int32)) % (6 : Int32) = (4 : Int32) ∨ (x &&& (2147483647 : Int32)) % (6 : Int32) = (5 : Int32) := by
  have e1 : (x &&& (2147483647 : Int32)).toInt = x.toInt % 2 ^ 31 := Jvm.Kit.i32_mask x 2147483647 (k := 31) (by decide) (by decide)
  have e2 : ((x &&& (2147483647 : Int32)) % (6 : Int32)).toInt = (x &&& (2147483647 : Int32)).toInt % (6 : Int32).toInt := Jvm.Kit.i32_rem_nonneg (by omega)
  have e3 : (6 : Int32).toInt = 6 := by decide
  rw [e3] at e2
  have e4 : ((x &&& (2147483647 : Int32)) % (6 : Int32)).toInt = 0 ∨ ((x &&& (2147483647 : Int32)) % (6 : Int32)).toInt = 1 ∨ ((x &&& (2147483647 : Int32)) % (6 : Int32)).toInt = 2 ∨ ((x &&& (2147483647 : Int32)) % (6 : Int32)).toInt = 3 ∨ ((x &&& (2147483647 : Int32)) % (6 : Int32)).toInt = 4 ∨ ((x &&& (2147483647 : Int32)) % (6 : Int32)).toInt = 5 := by omega
  rcases e4 with h | h | h | h | h | h <;> simp only [← Int32.toInt_inj, h] <;> decide
theorem own_d_cmp_0 : decode prog_331_method_4_code 0 = .ok (.aload_n 0, 1) := by decide +kernel
theorem own_d_cmp_1 : decode prog_331_method_4_code 1 = .ok (.aload_n 1, 1) := by decide +kernel
theorem own_d_cmp_2 : decode prog_331_method_4_code 2 = .ok (.if_acmp .eq 17, 3) := by decide +kernel
theorem own_d_cmp_5 : decode prog_331_method_4_code 5 = .ok (.aload_n 0, 1) := by decide +kernel
theorem own_d_cmp_6 : decode prog_331_method_4_code 6 = .ok (.getstatic 19, 3) := by decide +kernel
theorem own_d_cmp_9 : decode prog_331_method_4_code 9 = .ok (.if_acmp .eq 10, 3) := by decide +kernel
theorem own_d_cmp_12 : decode prog_331_method_4_code 12 = .ok (.aload_n 1, 1) := by decide +kernel
theorem own_d_cmp_13 : decode prog_331_method_4_code 13 = .ok (.getstatic 19, 3) := by decide +kernel
theorem own_d_cmp_16 : decode prog_331_method_4_code 16 = .ok (.if_acmp .ne 7, 3) := by decide +kernel
theorem own_d_cmp_19 : decode prog_331_method_4_code 19 = .ok (.iconst 1, 1) := by decide +kernel
theorem own_d_cmp_20 : decode prog_331_method_4_code 20 = .ok (.goto 4, 3) := by decide +kernel
theorem own_d_cmp_23 : decode prog_331_method_4_code 23 = .ok (.iconst 0, 1) := by decide +kernel
theorem own_d_cmp_24 : decode prog_331_method_4_code 24 = .ok (.ireturn, 1) := by decide +kernel
theorem own_pn_cmp : plainName "com/example/stutter/stutter/values/Value$Kind" = true := by first | (simp [plainName, overriddenIn]; done) | decide +kernel
theorem own_ef_cmp (m : MethodId) (x0 : Addr) (x1 : Addr)  : entryFrame m #[(.ref x0), (.ref x1)] 2 = mkF m 0 #[.val (.ref x0), .val (.ref x1)] [] := by first | (simp [entryFrame, mkF, argsToLocals, Value.category]; done) | rfl
def own_Q_cmp (Z : State) (a1 : Addr) (a2 : Addr) (w5 : Addr) (r : Int32) (h0 : Heap) (n0 : Nat) (v : Option Value) (h : Heap) (L : List Loc) : Prop := v = some (.int r) ∧ Fr n0 L ∧ h = h0
set_option maxRecDepth 65536 in
set_option maxHeartbeats 40000000 in
theorem own_rm_cmp (l : Launch) (Z : State) (a0 : Array Value) (hw : ∀ d ∈ tables_1, d.before a0 Z = true) (ws : List Jvm.Cond) (a1 : Addr) (a2 : Addr) (w5 : Addr) (r : Int32) (h0 : Heap) (n0 : Nat) (Z0 : n0 ≤ h0.size) (S_M : Sta Z h0 "com/example/stutter/stutter/values/Value$Kind" "MODEL_VALUE" "Lcom/example/stutter/stutter/values/Value$Kind;" (.ref w5)) (hr : (if a1 = a2 then (1 : Int32) else if a1 = w5 then 1 else if a2 = w5 then 1 else 0) = r) :
    MetFree l (⟨"com/example/stutter/stutter/values/Value$Kind", "comparableWith", "(Lcom/example/stutter/stutter/values/Value$Kind;)Z"⟩ : MethodName) (head1 (Jvm.Cond.code (⟨"com/example/stutter/stutter/values/Value$Kind", "comparableWith", "(Lcom/example/stutter/stutter/values/Value$Kind;)Z"⟩ : MethodName) prog_331_method_4_code 2 (some .boolean) :: ws) ({ frames := 0, cells := 0, slots := 0, locals := 0 } : Room)) (fun a U => a = #[(.ref a1), (.ref a2)] ∧ Z.Warmed39 U.vm ∧ U.heap = h0) (fun _ _ _ _ _ => True) (fun _ U o U' => ∃ v L, o = .returned v ∧ own_Q_cmp Z a1 a2 w5 r h0 n0 v U'.heap L ∧ FrameEnd U o U' L ({ frames := 0, cells := 0, slots := 0, locals := 0 } : Room).cells ({ frames := 0, cells := 0, slots := 0, locals := 0 } : Room).slots) := by
  refine MetFree.of_bodySF (plainFor_of_name own_pn_cmp) hisR ?_
  intro p e s m args below meth c s₁ Bd hml0 hP hK
  obtain ⟨rfl, hZ, hh⟩ := hP
  have hx := Bd.exec
  have hby := Bd.bytes
  have hml : c.maxLocals = 2 := hml0
  have hown : s.vm.findClass "com/example/stutter/stutter/values/Value$Kind" = some m.cls := findClass_of_methodNamed Bd.named
  have hnm := (name_of_methodNamed Bd.named Bd.method).1
  have X0 : Stand p l e ({ frames := 0, cells := 0, slots := 0, locals := 0 } : Room) s m #[(.ref a1), (.ref a2)] below meth c s₁ [] 0 0 := Stand.of_body Bd
  have e0 : s₁.heap = h0 := by rw [← hh, Bd.state]; rfl
  have N0 := Fr.nil n0
  show OG.Go p.tables e below (own_Q_cmp Z a1 a2 w5 r h0 n0) ({ frames := 0, cells := 0, slots := 0, locals := 0 } : Room).cells ({ frames := 0, cells := 0, slots := 0, locals := 0 } : Room).slots s (s₁.setTop (entryFrame m #[(.ref a1), (.ref a2)] 2))
  refine OG.Go.cast (own_ef_cmp m a1 a2) ?_
  refine OG.aloadN X0 hx hby own_d_cmp_0 rfl rfl rfl ?_
  refine OG.aloadN X0 hx hby own_d_cmp_1 rfl rfl rfl ?_
  by_cases ha2_1 : a1 = a2
  · refine OG.acmp (pc' := 19) (same := true) X0 hx hby own_d_cmp_2 rfl rfl (decide_eq_true (congrArg Value.ref ha2_1)) (by decide) (by decide) ?_
    refine OG.iconst (v := (1 : Int32)) X0 hx hby own_d_cmp_19 (by decide) rfl ?_
    refine OG.goto (pc' := 24) X0 hx hby own_d_cmp_20 (by decide) (by decide) ?_
    refine OG.retZ X0 hx hby Bd.returns (by simp) own_d_cmp_24 Bd.notSynchronized (by decide) (by decide) ?_
    exact ⟨by subst hr; simp [nar, ha2_1], N0, e0⟩
  · refine OG.acmp (pc' := 5) (same := false) X0 hx hby own_d_cmp_2 rfl rfl (decide_eq_false fun q => ha2_1 (Value.ref.inj q)) (by decide) (by decide) ?_
    refine OG.aloadN X0 hx hby own_d_cmp_5 rfl rfl rfl ?_
    refine OG.gS X0 hx hZ hby hown (hw _ (List.mem_of_getElem? (i := 22) rfl)) Via.refl e0 S_M own_d_cmp_6 rfl ?_
    intro T2 X2 e2
    by_cases ha9_3 : a1 = w5
    · refine OG.acmp (pc' := 19) (same := true) X2 hx hby own_d_cmp_9 rfl rfl (decide_eq_true (congrArg Value.ref ha9_3)) (by decide) (by decide) ?_
      refine OG.iconst (v := (1 : Int32)) X2 hx hby own_d_cmp_19 (by decide) rfl ?_
      refine OG.goto (pc' := 24) X2 hx hby own_d_cmp_20 (by decide) (by decide) ?_
      refine OG.retZ X2 hx hby Bd.returns (by simp) own_d_cmp_24 Bd.notSynchronized (by decide) (by decide) ?_
      exact ⟨by subst hr; simp [nar, ha2_1, ha9_3], N0, e2⟩
    · refine OG.acmp (pc' := 12) (same := false) X2 hx hby own_d_cmp_9 rfl rfl (decide_eq_false fun q => ha9_3 (Value.ref.inj q)) (by decide) (by decide) ?_
      refine OG.aloadN X2 hx hby own_d_cmp_12 rfl rfl rfl ?_
      refine OG.gS X2 hx hZ hby hown (hw _ (List.mem_of_getElem? (i := 22) rfl)) Via.refl e2 S_M own_d_cmp_13 rfl ?_
      intro T4 X4 e4
      by_cases ha16_5 : a2 = w5
      · refine OG.acmp (pc' := 19) (same := true) X4 hx hby own_d_cmp_16 rfl rfl (decide_eq_true (congrArg Value.ref ha16_5)) (by decide) (by decide) ?_
        refine OG.iconst (v := (1 : Int32)) X4 hx hby own_d_cmp_19 (by decide) rfl ?_
        refine OG.goto (pc' := 24) X4 hx hby own_d_cmp_20 (by decide) (by decide) ?_
        refine OG.retZ X4 hx hby Bd.returns (by simp) own_d_cmp_24 Bd.notSynchronized (by decide) (by decide) ?_
        exact ⟨by subst hr; simp [nar, ha2_1, ha9_3, ha16_5], N0, e4⟩
      · refine OG.acmp (pc' := 23) (same := false) X4 hx hby own_d_cmp_16 rfl rfl (decide_eq_false fun q => ha16_5 (Value.ref.inj q)) (by decide) (by decide) ?_
        refine OG.iconst (v := (0 : Int32)) X4 hx hby own_d_cmp_23 (by decide) rfl ?_
        refine OG.retZ X4 hx hby Bd.returns (by simp) own_d_cmp_24 Bd.notSynchronized (by decide) (by decide) ?_
        exact ⟨by subst hr; simp [nar, ha2_1, ha9_3, ha16_5], N0, e4⟩
theorem own_pn_law : plainName "com/example/stutter/stutter/values/KindComparableWithPinLaw" = true := by first | (simp [plainName, overriddenIn]; done) | decide +kernel
theorem own_ef_law (m : MethodId) (x0 : Int32) (x1 : Int32)  : entryFrame m #[(.int x0), (.int x1)] maxLocals = mkF m 0 #[.val (.int x0), .val (.int x1), .unset, .unset, .unset, .unset, .unset, .unset] [] := by first | (simp [entryFrame, mkF, argsToLocals, Value.category, maxLocals]; done) | rfl
def own_Q_law (Z : State) (p1 : Int32) (p2 : Int32) (w0 : Addr) (w1 : Addr) (w2 : Addr) (w3 : Addr) (w4 : Addr) (w5 : Addr) (h0 : Heap) (n0 : Nat) (v : Option Value) (h : Heap) (L : List Loc) : Prop := v = some (.int (1 : Int32)) ∧ Fr n0 L
set_option maxRecDepth 65536 in
set_option maxHeartbeats 40000000 in
theorem own_rm_law (l : Launch) (Z : State) (a0 : Array Value) (hw : ∀ d ∈ tables_1, d.before a0 Z = true) (ws : List Jvm.Cond) (p1 : Int32) (p2 : Int32) (w0 : Addr) (w1 : Addr) (w2 : Addr) (w3 : Addr) (w4 : Addr) (w5 : Addr) (h0 : Heap) (n0 : Nat) (Z0 : n0 ≤ h0.size) (S_BOOLEAN : Sta Z h0 "com/example/stutter/stutter/values/Value$Kind" "BOOLEAN" "Lcom/example/stutter/stutter/values/Value$Kind;" (.ref w0)) (S_INTEGER : Sta Z h0 "com/example/stutter/stutter/values/Value$Kind" "INTEGER" "Lcom/example/stutter/stutter/values/Value$Kind;" (.ref w1)) (S_STRING : Sta Z h0 "com/example/stutter/stutter/values/Value$Kind" "STRING" "Lcom/example/stutter/stutter/values/Value$Kind;" (.ref w2)) (S_FUNCTION : Sta Z h0 "com/example/stutter/stutter/values/Value$Kind" "FUNCTION" "Lcom/example/stutter/stutter/values/Value$Kind;" (.ref w3)) (S_SET : Sta Z h0 "com/example/stutter/stutter/values/Value$Kind" "SET" "Lcom/example/stutter/stutter/values/Value$Kind;" (.ref w4)) (S_MODEL_VALUE : Sta Z h0 "com/example/stutter/stutter/values/Value$Kind" "MODEL_VALUE" "Lcom/example/stutter/stutter/values/Value$Kind;" (.ref w5)) (E_BOOLEAN : Exa Z h0 w0 "com/example/stutter/stutter/values/Value$Kind") (E_INTEGER : Exa Z h0 w1 "com/example/stutter/stutter/values/Value$Kind") (E_STRING : Exa Z h0 w2 "com/example/stutter/stutter/values/Value$Kind") (E_FUNCTION : Exa Z h0 w3 "com/example/stutter/stutter/values/Value$Kind") (E_SET : Exa Z h0 w4 "com/example/stutter/stutter/values/Value$Kind") (E_MODEL_VALUE : Exa Z h0 w5 "com/example/stutter/stutter/values/Value$Kind") (hn0_1 : ¬ (w0 = w1)) (hn0_2 : ¬ (w0 = w2)) (hn0_3 : ¬ (w0 = w3)) (hn0_4 : ¬ (w0 = w4)) (hn0_5 : ¬ (w0 = w5)) (hn1_0 : ¬ (w1 = w0)) (hn1_2 : ¬ (w1 = w2)) (hn1_3 : ¬ (w1 = w3)) (hn1_4 : ¬ (w1 = w4)) (hn1_5 : ¬ (w1 = w5)) (hn2_0 : ¬ (w2 = w0)) (hn2_1 : ¬ (w2 = w1)) (hn2_3 : ¬ (w2 = w3)) (hn2_4 : ¬ (w2 = w4)) (hn2_5 : ¬ (w2 = w5)) (hn3_0 : ¬ (w3 = w0)) (hn3_1 : ¬ (w3 = w1)) (hn3_2 : ¬ (w3 = w2)) (hn3_4 : ¬ (w3 = w4)) (hn3_5 : ¬ (w3 = w5)) (hn4_0 : ¬ (w4 = w0)) (hn4_1 : ¬ (w4 = w1)) (hn4_2 : ¬ (w4 = w2)) (hn4_3 : ¬ (w4 = w3)) (hn4_5 : ¬ (w4 = w5)) (hn5_0 : ¬ (w5 = w0)) (hn5_1 : ¬ (w5 = w1)) (hn5_2 : ¬ (w5 = w2)) (hn5_3 : ¬ (w5 = w3)) (hn5_4 : ¬ (w5 = w4)) :
    MetFree l x (head1 (Jvm.Cond.code x code maxLocals ret :: ws) room_1) (fun a U => a = #[(.int p1), (.int p2)] ∧ Z.Warmed39 U.vm ∧ U.heap = h0) (fun _ _ _ _ _ => True) (fun _ U o U' => ∃ v L, o = .returned v ∧ own_Q_law Z p1 p2 w0 w1 w2 w3 w4 w5 h0 n0 v U'.heap L ∧ FrameEnd U o U' L room_1.cells room_1.slots) := by
  refine MetFree.of_bodySF (plainFor_of_name own_pn_law) hisR ?_
  intro p e s m args below meth c s₁ Bd hml0 hP hK
  obtain ⟨rfl, hZ, hh⟩ := hP
  have hx := Bd.exec
  have hby := Bd.bytes
  have hml : c.maxLocals = 8 := hml0
  have hown : s.vm.findClass "com/example/stutter/stutter/values/KindComparableWithPinLaw" = some m.cls := findClass_of_methodNamed Bd.named
  have hnm := (name_of_methodNamed Bd.named Bd.method).1
  have X0 : Stand p l e room_1 s m #[(.int p1), (.int p2)] below meth c s₁ [] 0 0 := Stand.of_body Bd
  have e0 : s₁.heap = h0 := by rw [← hh, Bd.state]; rfl
  have N0 := Fr.nil n0
  show OG.Go p.tables e below (own_Q_law Z p1 p2 w0 w1 w2 w3 w4 w5 h0 n0) room_1.cells room_1.slots s (s₁.setTop (entryFrame m #[(.int p1), (.int p2)] maxLocals))
  refine OG.Go.cast (own_ef_law m p1 p2) ?_
  refine OG.bipush (v := (6 : Int32)) X0 hx hby at_0 (by decide) rfl ?_
  refine OG.nR X0 hx hZ hby hown (hw _ (List.mem_of_getElem? (i := 0) rfl)) (hw _ (List.mem_of_getElem? (i := 1) rfl)) e0 (by decide) (cap := 6) (by decide) (by decide) (by decide) (by decide) at_2 rfl ?_
  intro T1 h1 k1 b1 g1 X1 e1 E1 V1 O1
  have ne2 : w0 ≠ b1 := Nat.ne_of_lt (Nat.lt_of_lt_of_le (Exa.lt E_BOOLEAN) (Nat.le_of_eq g1.symm))
  have ne3 : w1 ≠ b1 := Nat.ne_of_lt (Nat.lt_of_lt_of_le (Exa.lt E_INTEGER) (Nat.le_of_eq g1.symm))
  have ne4 : w2 ≠ b1 := Nat.ne_of_lt (Nat.lt_of_lt_of_le (Exa.lt E_STRING) (Nat.le_of_eq g1.symm))
  have ne5 : w3 ≠ b1 := Nat.ne_of_lt (Nat.lt_of_lt_of_le (Exa.lt E_FUNCTION) (Nat.le_of_eq g1.symm))
  have ne6 : w4 ≠ b1 := Nat.ne_of_lt (Nat.lt_of_lt_of_le (Exa.lt E_SET) (Nat.le_of_eq g1.symm))
  have ne7 : w5 ≠ b1 := Nat.ne_of_lt (Nat.lt_of_lt_of_le (Exa.lt E_MODEL_VALUE) (Nat.le_of_eq g1.symm))
  have gn8 : n0 ≤ b1 := Nat.le_trans Z0 (Nat.le_of_eq g1.symm)
  have sz9 : h0.size ≤ b1 := Nat.le_trans (Nat.le_refl _) (Nat.le_of_eq g1.symm)
  have f10 : Arv Z h1 b1 k1 (.object "com/example/stutter/stutter/values/Value$Kind") (6 : Int32) [.null, .null, .null, .null, .null, .null] .null := V1.pad (pad_rep [] .null 6)
  refine OG.dup X1 hx hby at_5 rfl rfl ?_
  refine OG.iconst (v := (0 : Int32)) X1 hx hby at_6 (by decide) rfl ?_
  have f12 := (Sta.ext E1 S_BOOLEAN)
  refine OG.gS X1 hx hZ hby hown (hw _ (List.mem_of_getElem? (i := 2) rfl)) Via.refl e1 f12 at_7 rfl ?_
  intro T11 X11 e11
  have f15 := (Exa.ext E1 E_BOOLEAN)
  refine OG.sR X11 hx hZ hby e11 f10 rfl 0 (by decide) rfl (Nat.le_of_ble_eq_true rfl) (fun cl A q => Sto.ofV A q O1 (Ins.self f15)) at_10 rfl ?_
  intro T13 h13 X13 e13 W13 f14
  replace f14 : Arv Z h13 b1 k1 (.object "com/example/stutter/stutter/values/Value$Kind") (6 : Int32) [(.ref w0), .null, .null, .null, .null, .null] .null := f14
  have N16 := Fr.snoc X13 N0 gn8
  refine OG.dup X13 hx hby at_11 rfl rfl ?_
  refine OG.iconst (v := (1 : Int32)) X13 hx hby at_12 (by decide) rfl ?_
  have f18 := (Sta.wr W13 (Sta.ext E1 S_INTEGER))
  refine OG.gS X13 hx hZ hby hown (hw _ (List.mem_of_getElem? (i := 6) rfl)) Via.refl e13 f18 at_13 rfl ?_
  intro T17 X17 e17
  have f21 := (Exa.wr W13 (Exa.ext E1 E_INTEGER))
  refine OG.sR X17 hx hZ hby e17 f14 rfl 1 (by decide) rfl (Nat.le_of_ble_eq_true rfl) (fun cl A q => Sto.ofV A q O1 (Ins.self f21)) at_16 rfl ?_
  intro T19 h19 X19 e19 W19 f20
  replace f20 : Arv Z h19 b1 k1 (.object "com/example/stutter/stutter/values/Value$Kind") (6 : Int32) [(.ref w0), (.ref w1), .null, .null, .null, .null] .null := f20
  have N22 := Fr.snoc X19 N16 gn8
  refine OG.dup X19 hx hby at_17 rfl rfl ?_
  refine OG.iconst (v := (2 : Int32)) X19 hx hby at_18 (by decide) rfl ?_
  have f24 := (Sta.wr W19 (Sta.wr W13 (Sta.ext E1 S_STRING)))
  refine OG.gS X19 hx hZ hby hown (hw _ (List.mem_of_getElem? (i := 8) rfl)) Via.refl e19 f24 at_19 rfl ?_
  intro T23 X23 e23
  have f27 := (Exa.wr W19 (Exa.wr W13 (Exa.ext E1 E_STRING)))
  refine OG.sR X23 hx hZ hby e23 f20 rfl 2 (by decide) rfl (Nat.le_of_ble_eq_true rfl) (fun cl A q => Sto.ofV A q O1 (Ins.self f27)) at_22 rfl ?_
  intro T25 h25 X25 e25 W25 f26
  replace f26 : Arv Z h25 b1 k1 (.object "com/example/stutter/stutter/values/Value$Kind") (6 : Int32) [(.ref w0), (.ref w1), (.ref w2), .null, .null, .null] .null := f26
  have N28 := Fr.snoc X25 N22 gn8
  refine OG.dup X25 hx hby at_23 rfl rfl ?_
  refine OG.iconst (v := (3 : Int32)) X25 hx hby at_24 (by decide) rfl ?_
  have f30 := (Sta.wr W25 (Sta.wr W19 (Sta.wr W13 (Sta.ext E1 S_FUNCTION))))
  refine OG.gS X25 hx hZ hby hown (hw _ (List.mem_of_getElem? (i := 10) rfl)) Via.refl e25 f30 at_25 rfl ?_
  intro T29 X29 e29
  have f33 := (Exa.wr W25 (Exa.wr W19 (Exa.wr W13 (Exa.ext E1 E_FUNCTION))))
  refine OG.sR X29 hx hZ hby e29 f26 rfl 3 (by decide) rfl (Nat.le_of_ble_eq_true rfl) (fun cl A q => Sto.ofV A q O1 (Ins.self f33)) at_28 rfl ?_
  intro T31 h31 X31 e31 W31 f32
  replace f32 : Arv Z h31 b1 k1 (.object "com/example/stutter/stutter/values/Value$Kind") (6 : Int32) [(.ref w0), (.ref w1), (.ref w2), (.ref w3), .null, .null] .null := f32
  have N34 := Fr.snoc X31 N28 gn8
  refine OG.dup X31 hx hby at_29 rfl rfl ?_
  refine OG.iconst (v := (4 : Int32)) X31 hx hby at_30 (by decide) rfl ?_
  have f36 := (Sta.wr W31 (Sta.wr W25 (Sta.wr W19 (Sta.wr W13 (Sta.ext E1 S_SET)))))
  refine OG.gS X31 hx hZ hby hown (hw _ (List.mem_of_getElem? (i := 12) rfl)) Via.refl e31 f36 at_31 rfl ?_
  intro T35 X35 e35
  have f39 := (Exa.wr W31 (Exa.wr W25 (Exa.wr W19 (Exa.wr W13 (Exa.ext E1 E_SET)))))
  refine OG.sR X35 hx hZ hby e35 f32 rfl 4 (by decide) rfl (Nat.le_of_ble_eq_true rfl) (fun cl A q => Sto.ofV A q O1 (Ins.self f39)) at_34 rfl ?_
  intro T37 h37 X37 e37 W37 f38
  replace f38 : Arv Z h37 b1 k1 (.object "com/example/stutter/stutter/values/Value$Kind") (6 : Int32) [(.ref w0), (.ref w1), (.ref w2), (.ref w3), (.ref w4), .null] .null := f38
  have N40 := Fr.snoc X37 N34 gn8
  refine OG.dup X37 hx hby at_35 rfl rfl ?_
  refine OG.iconst (v := (5 : Int32)) X37 hx hby at_36 (by decide) rfl ?_
  have f42 := (Sta.wr W37 (Sta.wr W31 (Sta.wr W25 (Sta.wr W19 (Sta.wr W13 (Sta.ext E1 S_MODEL_VALUE))))))
  refine OG.gS X37 hx hZ hby hown (hw _ (List.mem_of_getElem? (i := 14) rfl)) Via.refl e37 f42 at_37 rfl ?_
  intro T41 X41 e41
  have f45 := (Exa.wr W37 (Exa.wr W31 (Exa.wr W25 (Exa.wr W19 (Exa.wr W13 (Exa.ext E1 E_MODEL_VALUE))))))
  refine OG.sR X41 hx hZ hby e41 f38 rfl 5 (by decide) rfl (Nat.le_of_ble_eq_true rfl) (fun cl A q => Sto.ofV A q O1 (Ins.self f45)) at_40 rfl ?_
  intro T43 h43 X43 e43 W43 f44
  replace f44 : Arv Z h43 b1 k1 (.object "com/example/stutter/stutter/values/Value$Kind") (6 : Int32) [(.ref w0), (.ref w1), (.ref w2), (.ref w3), (.ref w4), (.ref w5)] .null := f44
  have N46 := Fr.snoc X43 N40 gn8
  refine OG.astoreN (Ls' := #[.val (.int p1), .val (.int p2), .val (.ref b1), .unset, .unset, .unset, .unset, .unset]) X43 hx hby at_41 rfl rfl rfl ?_
  refine OG.iloadN X43 hx hby at_42 rfl rfl ?_
  refine OG.ldcI (v := (2147483647 : Int32)) X43 hx hZ hby hown (hw _ (List.mem_of_getElem? (i := 16) rfl)) at_43 rfl ?_
  refine OG.iand X43 hx hby at_45 rfl ?_
  refine OG.bipush (v := (6 : Int32)) X43 hx hby at_46 (by decide) rfl ?_
  refine OG.irem X43 hx hby at_48 (by decide) rfl ?_
  have f47 := (Sta.wr W43 f42)
  have f48 := (Exa.wr W43 (Exa.wr W37 (Exa.wr W31 (Exa.wr W25 (Exa.wr W19 (Exa.wr W13 f15))))))
  have f49 := (Exa.wr W43 (Exa.wr W37 (Exa.wr W31 (Exa.wr W25 (Exa.wr W19 f21)))))
  have f50 := (Exa.wr W43 (Exa.wr W37 (Exa.wr W31 (Exa.wr W25 f27))))
  have f51 := (Exa.wr W43 (Exa.wr W37 (Exa.wr W31 f33)))
  have f52 := (Exa.wr W43 (Exa.wr W37 f39))
  have f53 := (Exa.wr W43 f45)
  rcases own_mod6 p1 with hi49 | hi49 | hi49 | hi49 | hi49 | hi49
  · rw [hi49]
    refine OG.istoreN (Ls' := #[.val (.int p1), .val (.int p2), .val (.ref b1), .val (.int (0 : Int32)), .unset, .unset, .unset, .unset]) X43 hx hby at_49 rfl rfl ?_
    refine OG.iloadN X43 hx hby at_50 rfl rfl ?_
    refine OG.ldcI (v := (2147483647 : Int32)) X43 hx hZ hby hown (hw _ (List.mem_of_getElem? (i := 16) rfl)) at_51 rfl ?_
    refine OG.iand X43 hx hby at_53 rfl ?_
    refine OG.bipush (v := (6 : Int32)) X43 hx hby at_54 (by decide) rfl ?_
    refine OG.irem X43 hx hby at_56 (by decide) rfl ?_
    rcases own_mod6 p2 with hi57 | hi57 | hi57 | hi57 | hi57 | hi57
    · rw [hi57]
      refine OG.istore (Ls' := #[.val (.int p1), .val (.int p2), .val (.ref b1), .val (.int (0 : Int32)), .val (.int (0 : Int32)), .unset, .unset, .unset]) X43 hx hby at_57 rfl rfl ?_
      refine OG.iloadN X43 hx hby at_59 rfl rfl ?_
      refine OG.iload X43 hx hby at_60 rfl rfl ?_
      refine OG.icmpNo X43 hx hby at_62 (teq (by decide)).2 rfl ?_
      refine OG.iconst (v := (1 : Int32)) X43 hx hby at_65 (by decide) rfl ?_
      refine OG.istore (Ls' := #[.val (.int p1), .val (.int p2), .val (.ref b1), .val (.int (0 : Int32)), .val (.int (0 : Int32)), .val (.int (1 : Int32)), .unset, .unset]) X43 hx hby at_66 rfl rfl ?_
      refine OG.goto (pc' := 91) X43 hx hby at_68 (by decide) (by decide) ?_
      refine OG.aloadN X43 hx hby at_91 rfl rfl rfl ?_
      refine OG.iloadN X43 hx hby at_92 rfl rfl ?_
      refine OG.lR X43 hx hZ hby rfl e43 f44 (by decide) rfl at_93 rfl ?_
      refine OG.aloadN X43 hx hby at_94 rfl rfl rfl ?_
      refine OG.iload X43 hx hby at_95 rfl rfl ?_
      refine OG.lR X43 hx hZ hby rfl e43 f44 (by decide) rfl at_97 rfl ?_
      refine OG.cV X43 hx hZ hby (by rw [hml]; rfl) hown (y := (⟨"com/example/stutter/stutter/values/Value$Kind", "comparableWith", "(Lcom/example/stutter/stutter/values/Value$Kind;)Z"⟩ : MethodName)) (z := (⟨"com/example/stutter/stutter/values/Value$Kind", "comparableWith", "(Lcom/example/stutter/stutter/values/Value$Kind;)Z"⟩ : MethodName)) (hw _ (List.mem_of_getElem? (i := 17) rfl)) (hw _ (List.mem_of_getElem? (i := 18) rfl)) (notFace_of_selects (args := #[]) (mvT hZ (hw _ (List.mem_of_getElem? (i := 20) rfl)))) (hw _ (List.mem_of_getElem? (i := 20) rfl)) (hw _ (List.mem_of_getElem? (i := 19) rfl)) (hw _ (List.mem_of_getElem? (i := 21) rfl)) (hw _ (List.mem_of_getElem? (i := 3) rfl)) (by decide) (own_rm_cmp l Z a0 hw [] w0 w0 w5 (1 : Int32) h43 n0 (Nat.le_trans (Nat.le_trans (Nat.le_trans (Nat.le_trans (Nat.le_trans (Nat.le_trans (Nat.le_trans Z0 E1.1) (Nat.le_of_eq (Wr.size W13).symm)) (Nat.le_of_eq (Wr.size W19).symm)) (Nat.le_of_eq (Wr.size W25).symm)) (Nat.le_of_eq (Wr.size W31).symm)) (Nat.le_of_eq (Wr.size W37).symm)) (Nat.le_of_eq (Wr.size W43).symm)) f47 (by simp)) f48 e43 (argsL := [(.ref w0)]) (stk := [(.ref w0), (.ref w0)]) (st := []) own_pd_0 rfl rfl rfl (W := 0) rfl (by decide) (by decide) (by decide) (by decide) at_98 rfl ?_
      intro T54 L54 v54 X54 q54
      obtain ⟨rfl, N54, e54⟩ := q54
      have M54 := Fr.app N46 N54
      show OG.Go _ _ _ _ _ _ _ (T54.setTop (mkF m 101 #[.val (.int p1), .val (.int p2), .val (.ref b1), .val (.int (0 : Int32)), .val (.int (0 : Int32)), .val (.int (1 : Int32)), .unset, .unset] [(.int (1 : Int32))]))
      refine OG.istore (Ls' := #[.val (.int p1), .val (.int p2), .val (.ref b1), .val (.int (0 : Int32)), .val (.int (0 : Int32)), .val (.int (1 : Int32)), .val (.int (1 : Int32)), .unset]) X54 hx hby at_101 rfl rfl ?_
      refine OG.aloadN X54 hx hby at_103 rfl rfl rfl ?_
      refine OG.iload X54 hx hby at_104 rfl rfl ?_
      refine OG.lR X54 hx hZ hby rfl e54 f44 (by decide) rfl at_106 rfl ?_
      refine OG.aloadN X54 hx hby at_107 rfl rfl rfl ?_
      refine OG.iloadN X54 hx hby at_108 rfl rfl ?_
      refine OG.lR X54 hx hZ hby rfl e54 f44 (by decide) rfl at_109 rfl ?_
      refine OG.cV X54 hx hZ hby (by rw [hml]; rfl) hown (y := (⟨"com/example/stutter/stutter/values/Value$Kind", "comparableWith", "(Lcom/example/stutter/stutter/values/Value$Kind;)Z"⟩ : MethodName)) (z := (⟨"com/example/stutter/stutter/values/Value$Kind", "comparableWith", "(Lcom/example/stutter/stutter/values/Value$Kind;)Z"⟩ : MethodName)) (hw _ (List.mem_of_getElem? (i := 17) rfl)) (hw _ (List.mem_of_getElem? (i := 18) rfl)) (notFace_of_selects (args := #[]) (mvT hZ (hw _ (List.mem_of_getElem? (i := 20) rfl)))) (hw _ (List.mem_of_getElem? (i := 20) rfl)) (hw _ (List.mem_of_getElem? (i := 19) rfl)) (hw _ (List.mem_of_getElem? (i := 21) rfl)) (hw _ (List.mem_of_getElem? (i := 3) rfl)) (by decide) (own_rm_cmp l Z a0 hw [] w0 w0 w5 (1 : Int32) h43 n0 (Nat.le_trans (Nat.le_trans (Nat.le_trans (Nat.le_trans (Nat.le_trans (Nat.le_trans (Nat.le_trans Z0 E1.1) (Nat.le_of_eq (Wr.size W13).symm)) (Nat.le_of_eq (Wr.size W19).symm)) (Nat.le_of_eq (Wr.size W25).symm)) (Nat.le_of_eq (Wr.size W31).symm)) (Nat.le_of_eq (Wr.size W37).symm)) (Nat.le_of_eq (Wr.size W43).symm)) f47 (by simp)) f48 e54 (argsL := [(.ref w0)]) (stk := [(.ref w0), (.ref w0)]) (st := []) own_pd_0 rfl rfl rfl (W := 0) rfl (by decide) (by decide) (by decide) (by decide) at_110 rfl ?_
      intro T55 L55 v55 X55 q55
      obtain ⟨rfl, N55, e55⟩ := q55
      have M55 := Fr.app M54 N55
      show OG.Go _ _ _ _ _ _ _ (T55.setTop (mkF m 113 #[.val (.int p1), .val (.int p2), .val (.ref b1), .val (.int (0 : Int32)), .val (.int (0 : Int32)), .val (.int (1 : Int32)), .val (.int (1 : Int32)), .unset] [(.int (1 : Int32))]))
      refine OG.istore (Ls' := #[.val (.int p1), .val (.int p2), .val (.ref b1), .val (.int (0 : Int32)), .val (.int (0 : Int32)), .val (.int (1 : Int32)), .val (.int (1 : Int32)), .val (.int (1 : Int32))]) X55 hx hby at_113 rfl rfl ?_
      refine OG.iload X55 hx hby at_115 rfl rfl ?_
      refine OG.iload X55 hx hby at_117 rfl rfl ?_
      refine OG.icmpNo X55 hx hby at_119 (teq (by decide)).2 rfl ?_
      refine OG.iload X55 hx hby at_122 rfl rfl ?_
      refine OG.iload X55 hx hby at_124 rfl rfl ?_
      refine OG.icmpNo X55 hx hby at_126 (teq (by decide)).2 rfl ?_
      refine OG.iconst (v := (1 : Int32)) X55 hx hby at_129 (by decide) rfl ?_
      refine OG.goto (pc' := 134) X55 hx hby at_130 (by decide) (by decide) ?_
      refine OG.retZ X55 hx hby Bd.returns (by simp) at_134 Bd.notSynchronized (by decide) (by decide) ?_
      exact ⟨rfl, M55⟩
    · rw [hi57]
      refine OG.istore (Ls' := #[.val (.int p1), .val (.int p2), .val (.ref b1), .val (.int (0 : Int32)), .val (.int (1 : Int32)), .unset, .unset, .unset]) X43 hx hby at_57 rfl rfl ?_
      refine OG.iloadN X43 hx hby at_59 rfl rfl ?_
      refine OG.iload X43 hx hby at_60 rfl rfl ?_
      refine OG.icmpYes (pc' := 71) X43 hx hby at_62 (feq (by decide)).2 (by decide) (by decide) ?_
      refine OG.iloadN X43 hx hby at_71 rfl rfl ?_
      refine OG.iconst (v := (5 : Int32)) X43 hx hby at_72 (by decide) rfl ?_
      refine OG.icmpNo X43 hx hby at_73 (feq (by decide)).1 rfl ?_
      refine OG.iload X43 hx hby at_76 rfl rfl ?_
      refine OG.iconst (v := (5 : Int32)) X43 hx hby at_78 (by decide) rfl ?_
      refine OG.icmpYes (pc' := 88) X43 hx hby at_79 (feq (by decide)).2 (by decide) (by decide) ?_
      refine OG.iconst (v := (0 : Int32)) X43 hx hby at_88 (by decide) rfl ?_
      refine OG.istore (Ls' := #[.val (.int p1), .val (.int p2), .val (.ref b1), .val (.int (0 : Int32)), .val (.int (1 : Int32)), .val (.int (0 : Int32)), .unset, .unset]) X43 hx hby at_89 rfl rfl ?_
      refine OG.aloadN X43 hx hby at_91 rfl rfl rfl ?_
      refine OG.iloadN X43 hx hby at_92 rfl rfl ?_
      refine OG.lR X43 hx hZ hby rfl e43 f44 (by decide) rfl at_93 rfl ?_
      refine OG.aloadN X43 hx hby at_94 rfl rfl rfl ?_
      refine OG.iload X43 hx hby at_95 rfl rfl ?_
      refine OG.lR X43 hx hZ hby rfl e43 f44 (by decide) rfl at_97 rfl ?_
      refine OG.cV X43 hx hZ hby (by rw [hml]; rfl) hown (y := (⟨"com/example/stutter/stutter/values/Value$Kind", "comparableWith", "(Lcom/example/stutter/stutter/values/Value$Kind;)Z"⟩ : MethodName)) (z := (⟨"com/example/stutter/stutter/values/Value$Kind", "comparableWith", "(Lcom/example/stutter/stutter/values/Value$Kind;)Z"⟩ : MethodName)) (hw _ (List.mem_of_getElem? (i := 17) rfl)) (hw _ (List.mem_of_getElem? (i := 18) rfl)) (notFace_of_selects (args := #[]) (mvT hZ (hw _ (List.mem_of_getElem? (i := 20) rfl)))) (hw _ (List.mem_of_getElem? (i := 20) rfl)) (hw _ (List.mem_of_getElem? (i := 19) rfl)) (hw _ (List.mem_of_getElem? (i := 21) rfl)) (hw _ (List.mem_of_getElem? (i := 3) rfl)) (by decide) (own_rm_cmp l Z a0 hw [] w0 w1 w5 (0 : Int32) h43 n0 (Nat.le_trans (Nat.le_trans (Nat.le_trans (Nat.le_trans (Nat.le_trans (Nat.le_trans (Nat.le_trans Z0 E1.1) (Nat.le_of_eq (Wr.size W13).symm)) (Nat.le_of_eq (Wr.size W19).symm)) (Nat.le_of_eq (Wr.size W25).symm)) (Nat.le_of_eq (Wr.size W31).symm)) (Nat.le_of_eq (Wr.size W37).symm)) (Nat.le_of_eq (Wr.size W43).symm)) f47 (by simp [hn0_1, hn0_5, hn1_5])) f48 e43 (argsL := [(.ref w1)]) (stk := [(.ref w1), (.ref w0)]) (st := []) own_pd_0 rfl rfl rfl (W := 0) rfl (by decide) (by decide) (by decide) (by decide) at_98 rfl ?_
      intro T56 L56 v56 X56 q56
      obtain ⟨rfl, N56, e56⟩ := q56
      have M56 := Fr.app N46 N56
      show OG.Go _ _ _ _ _ _ _ (T56.setTop (mkF m 101 #[.val (.int p1), .val (.int p2), .val (.ref b1), .val (.int (0 : Int32)), .val (.int (1 : Int32)), .val (.int (0 : Int32)), .unset, .unset] [(.int (0 : Int32))]))
      refine OG.istore (Ls' := #[.val (.int p1), .val (.int p2), .val (.ref b1), .val (.int (0 : Int32)), .val (.int (1 : Int32)), .val (.int (0 : Int32)), .val (.int (0 : Int32)), .unset]) X56 hx hby at_101 rfl rfl ?_
      refine OG.aloadN X56 hx hby at_103 rfl rfl rfl ?_
      refine OG.iload X56 hx hby at_104 rfl rfl ?_
      refine OG.lR X56 hx hZ hby rfl e56 f44 (by decide) rfl at_106 rfl ?_
      refine OG.aloadN X56 hx hby at_107 rfl rfl rfl ?_
      refine OG.iloadN X56 hx hby at_108 rfl rfl ?_
      refine OG.lR X56 hx hZ hby rfl e56 f44 (by decide) rfl at_109 rfl ?_
      refine OG.cV X56 hx hZ hby (by rw [hml]; rfl) hown (y := (⟨"com/example/stutter/stutter/values/Value$Kind", "comparableWith", "(Lcom/example/stutter/stutter/values/Value$Kind;)Z"⟩ : MethodName)) (z := (⟨"com/example/stutter/stutter/values/Value$Kind", "comparableWith", "(Lcom/example/stutter/stutter/values/Value$Kind;)Z"⟩ : MethodName)) (hw _ (List.mem_of_getElem? (i := 17) rfl)) (hw _ (List.mem_of_getElem? (i := 18) rfl)) (notFace_of_selects (args := #[]) (mvT hZ (hw _ (List.mem_of_getElem? (i := 20) rfl)))) (hw _ (List.mem_of_getElem? (i := 20) rfl)) (hw _ (List.mem_of_getElem? (i := 19) rfl)) (hw _ (List.mem_of_getElem? (i := 21) rfl)) (hw _ (List.mem_of_getElem? (i := 3) rfl)) (by decide) (own_rm_cmp l Z a0 hw [] w1 w0 w5 (0 : Int32) h43 n0 (Nat.le_trans (Nat.le_trans (Nat.le_trans (Nat.le_trans (Nat.le_trans (Nat.le_trans (Nat.le_trans Z0 E1.1) (Nat.le_of_eq (Wr.size W13).symm)) (Nat.le_of_eq (Wr.size W19).symm)) (Nat.le_of_eq (Wr.size W25).symm)) (Nat.le_of_eq (Wr.size W31).symm)) (Nat.le_of_eq (Wr.size W37).symm)) (Nat.le_of_eq (Wr.size W43).symm)) f47 (by simp [hn1_0, hn1_5, hn0_5])) f49 e56 (argsL := [(.ref w0)]) (stk := [(.ref w0), (.ref w1)]) (st := []) own_pd_0 rfl rfl rfl (W := 0) rfl (by decide) (by decide) (by decide) (by decide) at_110 rfl ?_
      intro T57 L57 v57 X57 q57
      obtain ⟨rfl, N57, e57⟩ := q57
      have M57 := Fr.app M56 N57
      show OG.Go _ _ _ _ _ _ _ (T57.setTop (mkF m 113 #[.val (.int p1), .val (.int p2), .val (.ref b1), .val (.int (0 : Int32)), .val (.int (1 : Int32)), .val (.int (0 : Int32)), .val (.int (0 : Int32)), .unset] [(.int (0 : Int32))]))
      refine OG.istore (Ls' := #[.val (.int p1), .val (.int p2), .val (.ref b1), .val (.int (0 : Int32)), .val (.int (1 : Int32)), .val (.int (0 : Int32)), .val (.int (0 : Int32)), .val (.int (0 : Int32))]) X57 hx hby at_113 rfl rfl ?_
      refine OG.iload X57 hx hby at_115 rfl rfl ?_
      refine OG.iload X57 hx hby at_117 rfl rfl ?_
      refine OG.icmpNo X57 hx hby at_119 (teq (by decide)).2 rfl ?_
      refine OG.iload X57 hx hby at_122 rfl rfl ?_
      refine OG.iload X57 hx hby at_124 rfl rfl ?_
      refine OG.icmpNo X57 hx hby at_126 (teq (by decide)).2 rfl ?_
      refine OG.iconst (v := (1 : Int32)) X57 hx hby at_129 (by decide) rfl ?_
      refine OG.goto (pc' := 134) X57 hx hby at_130 (by decide) (by decide) ?_
      refine OG.retZ X57 hx hby Bd.returns (by simp) at_134 Bd.notSynchronized (by decide) (by decide) ?_
      exact ⟨rfl, M57⟩
    · rw [hi57]
      refine OG.istore (Ls' := #[.val (.int p1), .val (.int p2), .val (.ref b1), .val (.int (0 : Int32)), .val (.int (2 : Int32)), .unset, .unset, .unset]) X43 hx hby at_57 rfl rfl ?_
      refine OG.iloadN X43 hx hby at_59 rfl rfl ?_
      refine OG.iload X43 hx hby at_60 rfl rfl ?_
      refine OG.icmpYes (pc' := 71) X43 hx hby at_62 (feq (by decide)).2 (by decide) (by decide) ?_
      refine OG.iloadN X43 hx hby at_71 rfl rfl ?_
      refine OG.iconst (v := (5 : Int32)) X43 hx hby at_72 (by decide) rfl ?_
      refine OG.icmpNo X43 hx hby at_73 (feq (by decide)).1 rfl ?_
      refine OG.iload X43 hx hby at_76 rfl rfl ?_
      refine OG.iconst (v := (5 : Int32)) X43 hx hby at_78 (by decide) rfl ?_
      refine OG.icmpYes (pc' := 88) X43 hx hby at_79 (feq (by decide)).2 (by decide) (by decide) ?_
      refine OG.iconst (v := (0 : Int32)) X43 hx hby at_88 (by decide) rfl ?_
      refine OG.istore (Ls' := #[.val (.int p1), .val (.int p2), .val (.ref b1), .val (.int (0 : Int32)), .val (.int (2 : Int32)), .val (.int (0 : Int32)), .unset, .unset]) X43 hx hby at_89 rfl rfl ?_
      refine OG.aloadN X43 hx hby at_91 rfl rfl rfl ?_
      refine OG.iloadN X43 hx hby at_92 rfl rfl ?_
      refine OG.lR X43 hx hZ hby rfl e43 f44 (by decide) rfl at_93 rfl ?_
      refine OG.aloadN X43 hx hby at_94 rfl rfl rfl ?_
      refine OG.iload X43 hx hby at_95 rfl rfl ?_
      refine OG.lR X43 hx hZ hby rfl e43 f44 (by decide) rfl at_97 rfl ?_
      refine OG.cV X43 hx hZ hby (by rw [hml]; rfl) hown (y := (⟨"com/example/stutter/stutter/values/Value$Kind", "comparableWith", "(Lcom/example/stutter/stutter/values/Value$Kind;)Z"⟩ : MethodName)) (z := (⟨"com/example/stutter/stutter/values/Value$Kind", "comparableWith", "(Lcom/example/stutter/stutter/values/Value$Kind;)Z"⟩ : MethodName)) (hw _ (List.mem_of_getElem? (i := 17) rfl)) (hw _ (List.mem_of_getElem? (i := 18) rfl)) (notFace_of_selects (args := #[]) (mvT hZ (hw _ (List.mem_of_getElem? (i := 20) rfl)))) (hw _ (List.mem_of_getElem? (i := 20) rfl)) (hw _ (List.mem_of_getElem? (i := 19) rfl)) (hw _ (List.mem_of_getElem? (i := 21) rfl)) (hw _ (List.mem_of_getElem? (i := 3) rfl)) (by decide) (own_rm_cmp l Z a0 hw [] w0 w2 w5 (0 : Int32) h43 n0 (Nat.le_trans (Nat.le_trans (Nat.le_trans (Nat.le_trans (Nat.le_trans (Nat.le_trans (Nat.le_trans Z0 E1.1) (Nat.le_of_eq (Wr.size W13).symm)) (Nat.le_of_eq (Wr.size W19).symm)) (Nat.le_of_eq (Wr.size W25).symm)) (Nat.le_of_eq (Wr.size W31).symm)) (Nat.le_of_eq (Wr.size W37).symm)) (Nat.le_of_eq (Wr.size W43).symm)) f47 (by simp [hn0_2, hn0_5, hn2_5])) f48 e43 (argsL := [(.ref w2)]) (stk := [(.ref w2), (.ref w0)]) (st := []) own_pd_0 rfl rfl rfl (W := 0) rfl (by decide) (by decide) (by decide) (by decide) at_98 rfl ?_
      intro T58 L58 v58 X58 q58
      obtain ⟨rfl, N58, e58⟩ := q58
      have M58 := Fr.app N46 N58
      show OG.Go _ _ _ _ _ _ _ (T58.setTop (mkF m 101 #[.val (.int p1), .val (.int p2), .val (.ref b1), .val (.int (0 : Int32)), .val (.int (2 : Int32)), .val (.int (0 : Int32)), .unset, .unset] [(.int (0 : Int32))]))
      refine OG.istore (Ls' := #[.val (.int p1), .val (.int p2), .val (.ref b1), .val (.int (0 : Int32)), .val (.int (2 : Int32)), .val (.int (0 : Int32)), .val (.int (0 : Int32)), .unset]) X58 hx hby at_101 rfl rfl ?_
      refine OG.aloadN X58 hx hby at_103 rfl rfl rfl ?_
      refine OG.iload X58 hx hby at_104 rfl rfl ?_
      refine OG.lR X58 hx hZ hby rfl e58 f44 (by decide) rfl at_106 rfl ?_
      refine OG.aloadN X58 hx hby at_107 rfl rfl rfl ?_
      refine OG.iloadN X58 hx hby at_108 rfl rfl ?_
      refine OG.lR X58 hx hZ hby rfl e58 f44 (by decide) rfl at_109 rfl ?_
      refine OG.cV X58 hx hZ hby (by rw [hml]; rfl) hown (y := (⟨"com/example/stutter/stutter/values/Value$Kind", "comparableWith", "(Lcom/example/stutter/stutter/values/Value$Kind;)Z"⟩ : MethodName)) (z := (⟨"com/example/stutter/stutter/values/Value$Kind", "comparableWith", "(Lcom/example/stutter/stutter/values/Value$Kind;)Z"⟩ : MethodName)) (hw _ (List.mem_of_getElem? (i := 17) rfl)) (hw _ (List.mem_of_getElem? (i := 18) rfl)) (notFace_of_selects (args := #[]) (mvT hZ (hw _ (List.mem_of_getElem? (i := 20) rfl)))) (hw _ (List.mem_of_getElem? (i := 20) rfl)) (hw _ (List.mem_of_getElem? (i := 19) rfl)) (hw _ (List.mem_of_getElem? (i := 21) rfl)) (hw _ (List.mem_of_getElem? (i := 3) rfl)) (by decide) (own_rm_cmp l Z a0 hw [] w2 w0 w5 (0 : Int32) h43 n0 (Nat.le_trans (Nat.le_trans (Nat.le_trans (Nat.le_trans (Nat.le_trans (Nat.le_trans (Nat.le_trans Z0 E1.1) (Nat.le_of_eq (Wr.size W13).symm)) (Nat.le_of_eq (Wr.size W19).symm)) (Nat.le_of_eq (Wr.size W25).symm)) (Nat.le_of_eq (Wr.size W31).symm)) (Nat.le_of_eq (Wr.size W37).symm)) (Nat.le_of_eq (Wr.size W43).symm)) f47 (by simp [hn2_0, hn2_5, hn0_5])) f50 e58 (argsL := [(.ref w0)]) (stk := [(.ref w0), (.ref w2)]) (st := []) own_pd_0 rfl rfl rfl (W := 0) rfl (by decide) (by decide) (by decide) (by decide) at_110 rfl ?_
      intro T59 L59 v59 X59 q59
      obtain ⟨rfl, N59, e59⟩ := q59
      have M59 := Fr.app M58 N59
      show OG.Go _ _ _ _ _ _ _ (T59.setTop (mkF m 113 #[.val (.int p1), .val (.int p2), .val (.ref b1), .val (.int (0 : Int32)), .val (.int (2 : Int32)), .val (.int (0 : Int32)), .val (.int (0 : Int32)), .unset] [(.int (0 : Int32))]))
      refine OG.istore (Ls' := #[.val (.int p1), .val (.int p2), .val (.ref b1), .val (.int (0 : Int32)), .val (.int (2 : Int32)), .val (.int (0 : Int32)), .val (.int (0 : Int32)), .val (.int (0 : Int32))]) X59 hx hby at_113 rfl rfl ?_
      refine OG.iload X59 hx hby at_115 rfl rfl ?_
      refine OG.iload X59 hx hby at_117 rfl rfl ?_
      refine OG.icmpNo X59 hx hby at_119 (teq (by decide)).2 rfl ?_
      refine OG.iload X59 hx hby at_122 rfl rfl ?_
      refine OG.iload X59 hx hby at_124 rfl rfl ?_
      refine OG.icmpNo X59 hx hby at_126 (teq (by decide)).2 rfl ?_
      refine OG.iconst (v := (1 : Int32)) X59 hx hby at_129 (by decide) rfl ?_
      refine OG.goto (pc' := 134) X59 hx hby at_130 (by decide) (by decide) ?_
      refine OG.retZ X59 hx hby Bd.returns (by simp) at_134 Bd.notSynchronized (by decide) (by decide) ?_
      exact ⟨rfl, M59⟩
    · rw [hi57]
      refine OG.istore (Ls' := #[.val (.int p1), .val (.int p2), .val (.ref b1), .val (.int (0 : Int32)), .val (.int (3 : Int32)), .unset, .unset, .unset]) X43 hx hby at_57 rfl rfl ?_
      refine OG.iloadN X43 hx hby at_59 rfl rfl ?_
      refine OG.iload X43 hx hby at_60 rfl rfl ?_
      refine OG.icmpYes (pc' := 71) X43 hx hby at_62 (feq (by decide)).2 (by decide) (by decide) ?_
      refine OG.iloadN X43 hx hby at_71 rfl rfl ?_
      refine OG.iconst (v := (5 : Int32)) X43 hx hby at_72 (by decide) rfl ?_
      refine OG.icmpNo X43 hx hby at_73 (feq (by decide)).1 rfl ?_
      refine OG.iload X43 hx hby at_76 rfl rfl ?_
      refine OG.iconst (v := (5 : Int32)) X43 hx hby at_78 (by decide) rfl ?_
      refine OG.icmpYes (pc' := 88) X43 hx hby at_79 (feq (by decide)).2 (by decide) (by decide) ?_
      refine OG.iconst (v := (0 : Int32)) X43 hx hby at_88 (by decide) rfl ?_
      refine OG.istore (Ls' := #[.val (.int p1), .val (.int p2), .val (.ref b1), .val (.int (0 : Int32)), .val (.int (3 : Int32)), .val (.int (0 : Int32)), .unset, .unset]) X43 hx hby at_89 rfl rfl ?_
      refine OG.aloadN X43 hx hby at_91 rfl rfl rfl ?_
      refine OG.iloadN X43 hx hby at_92 rfl rfl ?_
      refine OG.lR X43 hx hZ hby rfl e43 f44 (by decide) rfl at_93 rfl ?_
      refine OG.aloadN X43 hx hby at_94 rfl rfl rfl ?_
      refine OG.iload X43 hx hby at_95 rfl rfl ?_
      refine OG.lR X43 hx hZ hby rfl e43 f44 (by decide) rfl at_97 rfl ?_
      refine OG.cV X43 hx hZ hby (by rw [hml]; rfl) hown (y := (⟨"com/example/stutter/stutter/values/Value$Kind", "comparableWith", "(Lcom/example/stutter/stutter/values/Value$Kind;)Z"⟩ : MethodName)) (z := (⟨"com/example/stutter/stutter/values/Value$Kind", "comparableWith", "(Lcom/example/stutter/stutter/values/Value$Kind;)Z"⟩ : MethodName)) (hw _ (List.mem_of_getElem? (i := 17) rfl)) (hw _ (List.mem_of_getElem? (i := 18) rfl)) (notFace_of_selects (args := #[]) (mvT hZ (hw _ (List.mem_of_getElem? (i := 20) rfl)))) (hw _ (List.mem_of_getElem? (i := 20) rfl)) (hw _ (List.mem_of_getElem? (i := 19) rfl)) (hw _ (List.mem_of_getElem? (i := 21) rfl)) (hw _ (List.mem_of_getElem? (i := 3) rfl)) (by decide) (own_rm_cmp l Z a0 hw [] w0 w3 w5 (0 : Int32) h43 n0 (Nat.le_trans (Nat.le_trans (Nat.le_trans (Nat.le_trans (Nat.le_trans (Nat.le_trans (Nat.le_trans Z0 E1.1) (Nat.le_of_eq (Wr.size W13).symm)) (Nat.le_of_eq (Wr.size W19).symm)) (Nat.le_of_eq (Wr.size W25).symm)) (Nat.le_of_eq (Wr.size W31).symm)) (Nat.le_of_eq (Wr.size W37).symm)) (Nat.le_of_eq (Wr.size W43).symm)) f47 (by simp [hn0_3, hn0_5, hn3_5])) f48 e43 (argsL := [(.ref w3)]) (stk := [(.ref w3), (.ref w0)]) (st := []) own_pd_0 rfl rfl rfl (W := 0) rfl (by decide) (by decide) (by decide) (by decide) at_98 rfl ?_
      intro T60 L60 v60 X60 q60
      obtain ⟨rfl, N60, e60⟩ := q60
      have M60 := Fr.app N46 N60
      show OG.Go _ _ _ _ _ _ _ (T60.setTop (mkF m 101 #[.val (.int p1), .val (.int p2), .val (.ref b1), .val (.int (0 : Int32)), .val (.int (3 : Int32)), .val (.int (0 : Int32)), .unset, .unset] [(.int (0 : Int32))]))
      refine OG.istore (Ls' := #[.val (.int p1), .val (.int p2), .val (.ref b1), .val (.int (0 : Int32)), .val (.int (3 : Int32)), .val (.int (0 : Int32)), .val (.int (0 : Int32)), .unset]) X60 hx hby at_101 rfl rfl ?_
      refine OG.aloadN X60 hx hby at_103 rfl rfl rfl ?_
      refine OG.iload X60 hx hby at_104 rfl rfl ?_
      refine OG.lR X60 hx hZ hby rfl e60 f44 (by decide) rfl at_106 rfl ?_
      refine OG.aloadN X60 hx hby at_107 rfl rfl rfl ?_
      refine OG.iloadN X60 hx hby at_108 rfl rfl ?_
      refine OG.lR X60 hx hZ hby rfl e60 f44 (by decide) rfl at_109 rfl ?_
      refine OG.cV X60 hx hZ hby (by rw [hml]; rfl) hown (y := (⟨"com/example/stutter/stutter/values/Value$Kind", "comparableWith", "(Lcom/example/stutter/stutter/values/Value$Kind;)Z"⟩ : MethodName)) (z := (⟨"com/example/stutter/stutter/values/Value$Kind", "comparableWith", "(Lcom/example/stutter/stutter/values/Value$Kind;)Z"⟩ : MethodName)) (hw _ (List.mem_of_getElem? (i := 17) rfl)) (hw _ (List.mem_of_getElem? (i := 18) rfl)) (notFace_of_selects (args := #[]) (mvT hZ (hw _ (List.mem_of_getElem? (i := 20) rfl)))) (hw _ (List.mem_of_getElem? (i := 20) rfl)) (hw _ (List.mem_of_getElem? (i := 19) rfl)) (hw _ (List.mem_of_getElem? (i := 21) rfl)) (hw _ (List.mem_of_getElem? (i := 3) rfl)) (by decide) (own_rm_cmp l Z a0 hw [] w3 w0 w5 (0 : Int32) h43 n0 (Nat.le_trans (Nat.le_trans (Nat.le_trans (Nat.le_trans (Nat.le_trans (Nat.le_trans (Nat.le_trans Z0 E1.1) (Nat.le_of_eq (Wr.size W13).symm)) (Nat.le_of_eq (Wr.size W19).symm)) (Nat.le_of_eq (Wr.size W25).symm)) (Nat.le_of_eq (Wr.size W31).symm)) (Nat.le_of_eq (Wr.size W37).symm)) (Nat.le_of_eq (Wr.size W43).symm)) f47 (by simp [hn3_0, hn3_5, hn0_5])) f51 e60 (argsL := [(.ref w0)]) (stk := [(.ref w0), (.ref w3)]) (st := []) own_pd_0 rfl rfl rfl (W := 0) rfl (by decide) (by decide) (by decide) (by decide) at_110 rfl ?_
      intro T61 L61 v61 X61 q61
      obtain ⟨rfl, N61, e61⟩ := q61
      have M61 := Fr.app M60 N61
      show OG.Go _ _ _ _ _ _ _ (T61.setTop (mkF m 113 #[.val (.int p1), .val (.int p2), .val (.ref b1), .val (.int (0 : Int32)), .val (.int (3 : Int32)), .val (.int (0 : Int32)), .val (.int (0 : Int32)), .unset] [(.int (0 : Int32))]))
      refine OG.istore (Ls' := #[.val (.int p1), .val (.int p2), .val (.ref b1), .val (.int (0 : Int32)), .val (.int (3 : Int32)), .val (.int (0 : Int32)), .val (.int (0 : Int32)), .val (.int (0 : Int32))]) X61 hx hby at_113 rfl rfl ?_
      refine OG.iload X61 hx hby at_115 rfl rfl ?_
      refine OG.iload X61 hx hby at_117 rfl rfl ?_
      refine OG.icmpNo X61 hx hby at_119 (teq (by decide)).2 rfl ?_
      refine OG.iload X61 hx hby at_122 rfl rfl ?_
      refine OG.iload X61 hx hby at_124 rfl rfl ?_
      refine OG.icmpNo X61 hx hby at_126 (teq (by decide)).2 rfl ?_
      refine OG.iconst (v := (1 : Int32)) X61 hx hby at_129 (by decide) rfl ?_
      refine OG.goto (pc' := 134) X61 hx hby at_130 (by decide) (by decide) ?_
      refine OG.retZ X61 hx hby Bd.returns (by simp) at_134 Bd.notSynchronized (by decide) (by decide) ?_
      exact ⟨rfl, M61⟩
    · rw [hi57]
      refine OG.istore (Ls' := #[.val (.int p1), .val (.int p2), .val (.ref b1), .val (.int (0 : Int32)), .val (.int (4 : Int32)), .unset, .unset, .unset]) X43 hx hby at_57 rfl rfl ?_
      refine OG.iloadN X43 hx hby at_59 rfl rfl ?_
      refine OG.iload X43 hx hby at_60 rfl rfl ?_
      refine OG.icmpYes (pc' := 71) X43 hx hby at_62 (feq (by decide)).2 (by decide) (by decide) ?_
      refine OG.iloadN X43 hx hby at_71 rfl rfl ?_
      refine OG.iconst (v := (5 : Int32)) X43 hx hby at_72 (by decide) rfl ?_
      refine OG.icmpNo X43 hx hby at_73 (feq (by decide)).1 rfl ?_
      refine OG.iload X43 hx hby at_76 rfl rfl ?_
      refine OG.iconst (v := (5 : Int32)) X43 hx hby at_78 (by decide) rfl ?_
      refine OG.icmpYes (pc' := 88) X43 hx hby at_79 (feq (by decide)).2 (by decide) (by decide) ?_
      refine OG.iconst (v := (0 : Int32)) X43 hx hby at_88 (by decide) rfl ?_
      refine OG.istore (Ls' := #[.val (.int p1), .val (.int p2), .val (.ref b1), .val (.int (0 : Int32)), .val (.int (4 : Int32)), .val (.int (0 : Int32)), .unset, .unset]) X43 hx hby at_89 rfl rfl ?_
      refine OG.aloadN X43 hx hby at_91 rfl rfl rfl ?_
      refine OG.iloadN X43 hx hby at_92 rfl rfl ?_
      refine OG.lR X43 hx hZ hby rfl e43 f44 (by decide) rfl at_93 rfl ?_
      refine OG.aloadN X43 hx hby at_94 rfl rfl rfl ?_
      refine OG.iload X43 hx hby at_95 rfl rfl ?_
      refine OG.lR X43 hx hZ hby rfl e43 f44 (by decide) rfl at_97 rfl ?_
      refine OG.cV X43 hx hZ hby (by rw [hml]; rfl) hown (y := (⟨"com/example/stutter/stutter/values/Value$Kind", "comparableWith", "(Lcom/example/stutter/stutter/values/Value$Kind;)Z"⟩ : MethodName)) (z := (⟨"com/example/stutter/stutter/values/Value$Kind", "comparableWith", "(Lcom/example/stutter/stutter/values/Value$Kind;)Z"⟩ : MethodName)) (hw _ (List.mem_of_getElem? (i := 17) rfl)) (hw _ (List.mem_of_getElem? (i := 18) rfl)) (notFace_of_selects (args := #[]) (mvT hZ (hw _ (List.mem_of_getElem? (i := 20) rfl)))) (hw _ (List.mem_of_getElem? (i := 20) rfl)) (hw _ (List.mem_of_getElem? (i := 19) rfl)) (hw _ (List.mem_of_getElem? (i := 21) rfl)) (hw _ (List.mem_of_getElem? (i := 3) rfl)) (by decide) (own_rm_cmp l Z a0 hw [] w0 w4 w5 (0 : Int32) h43 n0 (Nat.le_trans (Nat.le_trans (Nat.le_trans (Nat.le_trans (Nat.le_trans (Nat.le_trans (Nat.le_trans Z0 E1.1) (Nat.le_of_eq (Wr.size W13).symm)) (Nat.le_of_eq (Wr.size W19).symm)) (Nat.le_of_eq (Wr.size W25).symm)) (Nat.le_of_eq (Wr.size W31).symm)) (Nat.le_of_eq (Wr.size W37).symm)) (Nat.le_of_eq (Wr.size W43).symm)) f47 (by simp [hn0_4, hn0_5, hn4_5])) f48 e43 (argsL := [(.ref w4)]) (stk := [(.ref w4), (.ref w0)]) (st := []) own_pd_0 rfl rfl rfl (W := 0) rfl (by decide) (by decide) (by decide) (by decide) at_98 rfl ?_
      intro T62 L62 v62 X62 q62
      obtain ⟨rfl, N62, e62⟩ := q62
      have M62 := Fr.app N46 N62
      show OG.Go _ _ _ _ _ _ _ (T62.setTop (mkF m 101 #[.val (.int p1), .val (.int p2), .val (.ref b1), .val (.int (0 : Int32)), .val (.int (4 : Int32)), .val (.int (0 : Int32)), .unset, .unset] [(.int (0 : Int32))]))
      refine OG.istore (Ls' := #[.val (.int p1), .val (.int p2), .val (.ref b1), .val (.int (0 : Int32)), .val (.int (4 : Int32)), .val (.int (0 : Int32)), .val (.int (0 : Int32)), .unset]) X62 hx hby at_101 rfl rfl ?_
      refine OG.aloadN X62 hx hby at_103 rfl rfl rfl ?_
      refine OG.iload X62 hx hby at_104 rfl rfl ?_
      refine OG.lR X62 hx hZ hby rfl e62 f44 (by decide) rfl at_106 rfl ?_
      refine OG.aloadN X62 hx hby at_107 rfl rfl rfl ?_
      refine OG.iloadN X62 hx hby at_108 rfl rfl ?_
      refine OG.lR X62 hx hZ hby rfl e62 f44 (by decide) rfl at_109 rfl ?_
      refine OG.cV X62 hx hZ hby (by rw [hml]; rfl) hown (y := (⟨"com/example/stutter/stutter/values/Value$Kind", "comparableWith", "(Lcom/example/stutter/stutter/values/Value$Kind;)Z"⟩ : MethodName)) (z := (⟨"com/example/stutter/stutter/values/Value$Kind", "comparableWith", "(Lcom/example/stutter/stutter/values/Value$Kind;)Z"⟩ : MethodName)) (hw _ (List.mem_of_getElem? (i := 17) rfl)) (hw _ (List.mem_of_getElem? (i := 18) rfl)) (notFace_of_selects (args := #[]) (mvT hZ (hw _ (List.mem_of_getElem? (i := 20) rfl)))) (hw _ (List.mem_of_getElem? (i := 20) rfl)) (hw _ (List.mem_of_getElem? (i := 19) rfl)) (hw _ (List.mem_of_getElem? (i := 21) rfl)) (hw _ (List.mem_of_getElem? (i := 3) rfl)) (by decide) (own_rm_cmp l Z a0 hw [] w4 w0 w5 (0 : Int32) h43 n0 (Nat.le_trans (Nat.le_trans (Nat.le_trans (Nat.le_trans (Nat.le_trans (Nat.le_trans (Nat.le_trans Z0 E1.1) (Nat.le_of_eq (Wr.size W13).symm)) (Nat.le_of_eq (Wr.size W19).symm)) (Nat.le_of_eq (Wr.size W25).symm)) (Nat.le_of_eq (Wr.size W31).symm)) (Nat.le_of_eq (Wr.size W37).symm)) (Nat.le_of_eq (Wr.size W43).symm)) f47 (by simp [hn4_0, hn4_5, hn0_5])) f52 e62 (argsL := [(.ref w0)]) (stk := [(.ref w0), (.ref w4)]) (st := []) own_pd_0 rfl rfl rfl (W := 0) rfl (by decide) (by decide) (by decide) (by decide) at_110 rfl ?_
      intro T63 L63 v63 X63 q63
      obtain ⟨rfl, N63, e63⟩ := q63
      have M63 := Fr.app M62 N63
      show OG.Go _ _ _ _ _ _ _ (T63.setTop (mkF m 113 #[.val (.int p1), .val (.int p2), .val (.ref b1), .val (.int (0 : Int32)), .val (.int (4 : Int32)), .val (.int (0 : Int32)), .val (.int (0 : Int32)), .unset] [(.int (0 : Int32))]))
      refine OG.istore (Ls' := #[.val (.int p1), .val (.int p2), .val (.ref b1), .val (.int (0 : Int32)), .val (.int (4 : Int32)), .val (.int (0 : Int32)), .val (.int (0 : Int32)), .val (.int (0 : Int32))]) X63 hx hby at_113 rfl rfl ?_
      refine OG.iload X63 hx hby at_115 rfl rfl ?_
      refine OG.iload X63 hx hby at_117 rfl rfl ?_
      refine OG.icmpNo X63 hx hby at_119 (teq (by decide)).2 rfl ?_
      refine OG.iload X63 hx hby at_122 rfl rfl ?_
      refine OG.iload X63 hx hby at_124 rfl rfl ?_
      refine OG.icmpNo X63 hx hby at_126 (teq (by decide)).2 rfl ?_
      refine OG.iconst (v := (1 : Int32)) X63 hx hby at_129 (by decide) rfl ?_
      refine OG.goto (pc' := 134) X63 hx hby at_130 (by decide) (by decide) ?_
      refine OG.retZ X63 hx hby Bd.returns (by simp) at_134 Bd.notSynchronized (by decide) (by decide) ?_
      exact ⟨rfl, M63⟩
    · rw [hi57]
      refine OG.istore (Ls' := #[.val (.int p1), .val (.int p2), .val (.ref b1), .val (.int (0 : Int32)), .val (.int (5 : Int32)), .unset, .unset, .unset]) X43 hx hby at_57 rfl rfl ?_
      refine OG.iloadN X43 hx hby at_59 rfl rfl ?_
      refine OG.iload X43 hx hby at_60 rfl rfl ?_
      refine OG.icmpYes (pc' := 71) X43 hx hby at_62 (feq (by decide)).2 (by decide) (by decide) ?_
      refine OG.iloadN X43 hx hby at_71 rfl rfl ?_
      refine OG.iconst (v := (5 : Int32)) X43 hx hby at_72 (by decide) rfl ?_
      refine OG.icmpNo X43 hx hby at_73 (feq (by decide)).1 rfl ?_
      refine OG.iload X43 hx hby at_76 rfl rfl ?_
      refine OG.iconst (v := (5 : Int32)) X43 hx hby at_78 (by decide) rfl ?_
      refine OG.icmpNo X43 hx hby at_79 (teq (by decide)).2 rfl ?_
      refine OG.iconst (v := (1 : Int32)) X43 hx hby at_82 (by decide) rfl ?_
      refine OG.istore (Ls' := #[.val (.int p1), .val (.int p2), .val (.ref b1), .val (.int (0 : Int32)), .val (.int (5 : Int32)), .val (.int (1 : Int32)), .unset, .unset]) X43 hx hby at_83 rfl rfl ?_
      refine OG.goto (pc' := 91) X43 hx hby at_85 (by decide) (by decide) ?_
      refine OG.aloadN X43 hx hby at_91 rfl rfl rfl ?_
      refine OG.iloadN X43 hx hby at_92 rfl rfl ?_
      refine OG.lR X43 hx hZ hby rfl e43 f44 (by decide) rfl at_93 rfl ?_
      refine OG.aloadN X43 hx hby at_94 rfl rfl rfl ?_
      refine OG.iload X43 hx hby at_95 rfl rfl ?_
      refine OG.lR X43 hx hZ hby rfl e43 f44 (by decide) rfl at_97 rfl ?_
      refine OG.cV X43 hx hZ hby (by rw [hml]; rfl) hown (y := (⟨"com/example/stutter/stutter/values/Value$Kind", "comparableWith", "(Lcom/example/stutter/stutter/values/Value$Kind;)Z"⟩ : MethodName)) (z := (⟨"com/example/stutter/stutter/values/Value$Kind", "comparableWith", "(Lcom/example/stutter/stutter/values/Value$Kind;)Z"⟩ : MethodName)) (hw _ (List.mem_of_getElem? (i := 17) rfl)) (hw _ (List.mem_of_getElem? (i := 18) rfl)) (notFace_of_selects (args := #[]) (mvT hZ (hw _ (List.mem_of_getElem? (i := 20) rfl)))) (hw _ (List.mem_of_getElem? (i := 20) rfl)) (hw _ (List.mem_of_getElem? (i := 19) rfl)) (hw _ (List.mem_of_getElem? (i := 21) rfl)) (hw _ (List.mem_of_getElem? (i := 3) rfl)) (by decide) (own_rm_cmp l Z a0 hw [] w0 w5 w5 (1 : Int32) h43 n0 (Nat.le_trans (Nat.le_trans (Nat.le_trans (Nat.le_trans (Nat.le_trans (Nat.le_trans (Nat.le_trans Z0 E1.1) (Nat.le_of_eq (Wr.size W13).symm)) (Nat.le_of_eq (Wr.size W19).symm)) (Nat.le_of_eq (Wr.size W25).symm)) (Nat.le_of_eq (Wr.size W31).symm)) (Nat.le_of_eq (Wr.size W37).symm)) (Nat.le_of_eq (Wr.size W43).symm)) f47 (by simp [hn0_5])) f48 e43 (argsL := [(.ref w5)]) (stk := [(.ref w5), (.ref w0)]) (st := []) own_pd_0 rfl rfl rfl (W := 0) rfl (by decide) (by decide) (by decide) (by decide) at_98 rfl ?_
      intro T64 L64 v64 X64 q64
      obtain ⟨rfl, N64, e64⟩ := q64
      have M64 := Fr.app N46 N64
      show OG.Go _ _ _ _ _ _ _ (T64.setTop (mkF m 101 #[.val (.int p1), .val (.int p2), .val (.ref b1), .val (.int (0 : Int32)), .val (.int (5 : Int32)), .val (.int (1 : Int32)), .unset, .unset] [(.int (1 : Int32))]))
      refine OG.istore (Ls' := #[.val (.int p1), .val (.int p2), .val (.ref b1), .val (.int (0 : Int32)), .val (.int (5 : Int32)), .val (.int (1 : Int32)), .val (.int (1 : Int32)), .unset]) X64 hx hby at_101 rfl rfl ?_
      refine OG.aloadN X64 hx hby at_103 rfl rfl rfl ?_
      refine OG.iload X64 hx hby at_104 rfl rfl ?_
      refine OG.lR X64 hx hZ hby rfl e64 f44 (by decide) rfl at_106 rfl ?_
      refine OG.aloadN X64 hx hby at_107 rfl rfl rfl ?_
      refine OG.iloadN X64 hx hby at_108 rfl rfl ?_
      refine OG.lR X64 hx hZ hby rfl e64 f44 (by decide) rfl at_109 rfl ?_
      refine OG.cV X64 hx hZ hby (by rw [hml]; rfl) hown (y := (⟨"com/example/stutter/stutter/values/Value$Kind", "comparableWith", "(Lcom/example/stutter/stutter/values/Value$Kind;)Z"⟩ : MethodName)) (z := (⟨"com/example/stutter/stutter/values/Value$Kind", "comparableWith", "(Lcom/example/stutter/stutter/values/Value$Kind;)Z"⟩ : MethodName)) (hw _ (List.mem_of_getElem? (i := 17) rfl)) (hw _ (List.mem_of_getElem? (i := 18) rfl)) (notFace_of_selects (args := #[]) (mvT hZ (hw _ (List.mem_of_getElem? (i := 20) rfl)))) (hw _ (List.mem_of_getElem? (i := 20) rfl)) (hw _ (List.mem_of_getElem? (i := 19) rfl)) (hw _ (List.mem_of_getElem? (i := 21) rfl)) (hw _ (List.mem_of_getElem? (i := 3) rfl)) (by decide) (own_rm_cmp l Z a0 hw [] w5 w0 w5 (1 : Int32) h43 n0 (Nat.le_trans (Nat.le_trans (Nat.le_trans (Nat.le_trans (Nat.le_trans (Nat.le_trans (Nat.le_trans Z0 E1.1) (Nat.le_of_eq (Wr.size W13).symm)) (Nat.le_of_eq (Wr.size W19).symm)) (Nat.le_of_eq (Wr.size W25).symm)) (Nat.le_of_eq (Wr.size W31).symm)) (Nat.le_of_eq (Wr.size W37).symm)) (Nat.le_of_eq (Wr.size W43).symm)) f47 (by simp [hn5_0, hn0_5])) f53 e64 (argsL := [(.ref w0)]) (stk := [(.ref w0), (.ref w5)]) (st := []) own_pd_0 rfl rfl rfl (W := 0) rfl (by decide) (by decide) (by decide) (by decide) at_110 rfl ?_
      intro T65 L65 v65 X65 q65
      obtain ⟨rfl, N65, e65⟩ := q65
      have M65 := Fr.app M64 N65
      show OG.Go _ _ _ _ _ _ _ (T65.setTop (mkF m 113 #[.val (.int p1), .val (.int p2), .val (.ref b1), .val (.int (0 : Int32)), .val (.int (5 : Int32)), .val (.int (1 : Int32)), .val (.int (1 : Int32)), .unset] [(.int (1 : Int32))]))
      refine OG.istore (Ls' := #[.val (.int p1), .val (.int p2), .val (.ref b1), .val (.int (0 : Int32)), .val (.int (5 : Int32)), .val (.int (1 : Int32)), .val (.int (1 : Int32)), .val (.int (1 : Int32))]) X65 hx hby at_113 rfl rfl ?_
      refine OG.iload X65 hx hby at_115 rfl rfl ?_
      refine OG.iload X65 hx hby at_117 rfl rfl ?_
      refine OG.icmpNo X65 hx hby at_119 (teq (by decide)).2 rfl ?_
      refine OG.iload X65 hx hby at_122 rfl rfl ?_
      refine OG.iload X65 hx hby at_124 rfl rfl ?_
      refine OG.icmpNo X65 hx hby at_126 (teq (by decide)).2 rfl ?_
      refine OG.iconst (v := (1 : Int32)) X65 hx hby at_129 (by decide) rfl ?_
      refine OG.goto (pc' := 134) X65 hx hby at_130 (by decide) (by decide) ?_
      refine OG.retZ X65 hx hby Bd.returns (by simp) at_134 Bd.notSynchronized (by decide) (by decide) ?_
      exact ⟨rfl, M65⟩
  · rw [hi49]
    refine OG.istoreN (Ls' := #[.val (.int p1), .val (.int p2), .val (.ref b1), .val (.int (1 : Int32)), .unset, .unset, .unset, .unset]) X43 hx hby at_49 rfl rfl ?_
    refine OG.iloadN X43 hx hby at_50 rfl rfl ?_
    refine OG.ldcI (v := (2147483647 : Int32)) X43 hx hZ hby hown (hw _ (List.mem_of_getElem? (i := 16) rfl)) at_51 rfl ?_
    refine OG.iand X43 hx hby at_53 rfl ?_
    refine OG.bipush (v := (6 : Int32)) X43 hx hby at_54 (by decide) rfl ?_
    refine OG.irem X43 hx hby at_56 (by decide) rfl ?_
    rcases own_mod6 p2 with hi57 | hi57 | hi57 | hi57 | hi57 | hi57
    · rw [hi57]
      refine OG.istore (Ls' := #[.val (.int p1), .val (.int p2), .val (.ref b1), .val (.int (1 : Int32)), .val (.int (0 : Int32)), .unset, .unset, .unset]) X43 hx hby at_57 rfl rfl ?_
      refine OG.iloadN X43 hx hby at_59 rfl rfl ?_
      refine OG.iload X43 hx hby at_60 rfl rfl ?_
      refine OG.icmpYes (pc' := 71) X43 hx hby at_62 (feq (by decide)).2 (by decide) (by decide) ?_
      refine OG.iloadN X43 hx hby at_71 rfl rfl ?_
      refine OG.iconst (v := (5 : Int32)) X43 hx hby at_72 (by decide) rfl ?_
      refine OG.icmpNo X43 hx hby at_73 (feq (by decide)).1 rfl ?_
      refine OG.iload X43 hx hby at_76 rfl rfl ?_
      refine OG.iconst (v := (5 : Int32)) X43 hx hby at_78 (by decide) rfl ?_
      refine OG.icmpYes (pc' := 88) X43 hx hby at_79 (feq (by decide)).2 (by decide) (by decide) ?_
      refine OG.iconst (v := (0 : Int32)) X43 hx hby at_88 (by decide) rfl ?_
      refine OG.istore (Ls' := #[.val (.int p1), .val (.int p2), .val (.ref b1), .val (.int (1 : Int32)), .val (.int (0 : Int32)), .val (.int (0 : Int32)), .unset, .unset]) X43 hx hby at_89 rfl rfl ?_
      refine OG.aloadN X43 hx hby at_91 rfl rfl rfl ?_
      refine OG.iloadN X43 hx hby at_92 rfl rfl ?_
      refine OG.lR X43 hx hZ hby rfl e43 f44 (by decide) rfl at_93 rfl ?_
      refine OG.aloadN X43 hx hby at_94 rfl rfl rfl ?_
      refine OG.iload X43 hx hby at_95 rfl rfl ?_
      refine OG.lR X43 hx hZ hby rfl e43 f44 (by decide) rfl at_97 rfl ?_
      refine OG.cV X43 hx hZ hby (by rw [hml]; rfl) hown (y := (⟨"com/example/stutter/stutter/values/Value$Kind", "comparableWith", "(Lcom/example/stutter/stutter/values/Value$Kind;)Z"⟩ : MethodName)) (z := (⟨"com/example/stutter/stutter/values/Value$Kind", "comparableWith", "(Lcom/example/stutter/stutter/values/Value$Kind;)Z"⟩ : MethodName)) (hw _ (List.mem_of_getElem? (i := 17) rfl)) (hw _ (List.mem_of_getElem? (i := 18) rfl)) (notFace_of_selects (args := #[]) (mvT hZ (hw _ (List.mem_of_getElem? (i := 20) rfl)))) (hw _ (List.mem_of_getElem? (i := 20) rfl)) (hw _ (List.mem_of_getElem? (i := 19) rfl)) (hw _ (List.mem_of_getElem? (i := 21) rfl)) (hw _ (List.mem_of_getElem? (i := 3) rfl)) (by decide) (own_rm_cmp l Z a0 hw [] w1 w0 w5 (0 : Int32) h43 n0 (Nat.le_trans (Nat.le_trans (Nat.le_trans (Nat.le_trans (Nat.le_trans (Nat.le_trans (Nat.le_trans Z0 E1.1) (Nat.le_of_eq (Wr.size W13).symm)) (Nat.le_of_eq (Wr.size W19).symm)) (Nat.le_of_eq (Wr.size W25).symm)) (Nat.le_of_eq (Wr.size W31).symm)) (Nat.le_of_eq (Wr.size W37).symm)) (Nat.le_of_eq (Wr.size W43).symm)) f47 (by simp [hn1_0, hn1_5, hn0_5])) f49 e43 (argsL := [(.ref w0)]) (stk := [(.ref w0), (.ref w1)]) (st := []) own_pd_0 rfl rfl rfl (W := 0) rfl (by decide) (by decide) (by decide) (by decide) at_98 rfl ?_
      intro T66 L66 v66 X66 q66
      obtain ⟨rfl, N66, e66⟩ := q66
      have M66 := Fr.app N46 N66
      show OG.Go _ _ _ _ _ _ _ (T66.setTop (mkF m 101 #[.val (.int p1), .val (.int p2), .val (.ref b1), .val (.int (1 : Int32)), .val (.int (0 : Int32)), .val (.int (0 : Int32)), .unset, .unset] [(.int (0 : Int32))]))
      refine OG.istore (Ls' := #[.val (.int p1), .val (.int p2), .val (.ref b1), .val (.int (1 : Int32)), .val (.int (0 : Int32)), .val (.int (0 : Int32)), .val (.int (0 : Int32)), .unset]) X66 hx hby at_101 rfl rfl ?_
      refine OG.aloadN X66 hx hby at_103 rfl rfl rfl ?_
      refine OG.iload X66 hx hby at_104 rfl rfl ?_
      refine OG.lR X66 hx hZ hby rfl e66 f44 (by decide) rfl at_106 rfl ?_
      refine OG.aloadN X66 hx hby at_107 rfl rfl rfl ?_
      refine OG.iloadN X66 hx hby at_108 rfl rfl ?_
      refine OG.lR X66 hx hZ hby rfl e66 f44 (by decide) rfl at_109 rfl ?_
      refine OG.cV X66 hx hZ hby (by rw [hml]; rfl) hown (y := (⟨"com/example/stutter/stutter/values/Value$Kind", "comparableWith", "(Lcom/example/stutter/stutter/values/Value$Kind;)Z"⟩ : MethodName)) (z := (⟨"com/example/stutter/stutter/values/Value$Kind", "comparableWith", "(Lcom/example/stutter/stutter/values/Value$Kind;)Z"⟩ : MethodName)) (hw _ (List.mem_of_getElem? (i := 17) rfl)) (hw _ (List.mem_of_getElem? (i := 18) rfl)) (notFace_of_selects (args := #[]) (mvT hZ (hw _ (List.mem_of_getElem? (i := 20) rfl)))) (hw _ (List.mem_of_getElem? (i := 20) rfl)) (hw _ (List.mem_of_getElem? (i := 19) rfl)) (hw _ (List.mem_of_getElem? (i := 21) rfl)) (hw _ (List.mem_of_getElem? (i := 3) rfl)) (by decide) (own_rm_cmp l Z a0 hw [] w0 w1 w5 (0 : Int32) h43 n0 (Nat.le_trans (Nat.le_trans (Nat.le_trans (Nat.le_trans (Nat.le_trans (Nat.le_trans (Nat.le_trans Z0 E1.1) (Nat.le_of_eq (Wr.size W13).symm)) (Nat.le_of_eq (Wr.size W19).symm)) (Nat.le_of_eq (Wr.size W25).symm)) (Nat.le_of_eq (Wr.size W31).symm)) (Nat.le_of_eq (Wr.size W37).symm)) (Nat.le_of_eq (Wr.size W43).symm)) f47 (by simp [hn0_1, hn0_5, hn1_5])) f48 e66 (argsL := [(.ref w1)]) (stk := [(.ref w1), (.ref w0)]) (st := []) own_pd_0 rfl rfl rfl (W := 0) rfl (by decide) (by decide) (by decide) (by decide) at_110 rfl ?_
      intro T67 L67 v67 X67 q67
      obtain ⟨rfl, N67, e67⟩ := q67
      have M67 := Fr.app M66 N67
      show OG.Go _ _ _ _ _ _ _ (T67.setTop (mkF m 113 #[.val (.int p1), .val (.int p2), .val (.ref b1), .val (.int (1 : Int32)), .val (.int (0 : Int32)), .val (.int (0 : Int32)), .val (.int (0 : Int32)), .unset] [(.int (0 : Int32))]))
      refine OG.istore (Ls' := #[.val (.int p1), .val (.int p2), .val (.ref b1), .val (.int (1 : Int32)), .val (.int (0 : Int32)), .val (.int (0 : Int32)), .val (.int (0 : Int32)), .val (.int (0 : Int32))]) X67 hx hby at_113 rfl rfl ?_
      refine OG.iload X67 hx hby at_115 rfl rfl ?_
      refine OG.iload X67 hx hby at_117 rfl rfl ?_
      refine OG.icmpNo X67 hx hby at_119 (teq (by decide)).2 rfl ?_
      refine OG.iload X67 hx hby at_122 rfl rfl ?_
      refine OG.iload X67 hx hby at_124 rfl rfl ?_
      refine OG.icmpNo X67 hx hby at_126 (teq (by decide)).2 rfl ?_
      refine OG.iconst (v := (1 : Int32)) X67 hx hby at_129 (by decide) rfl ?_
      refine OG.goto (pc' := 134) X67 hx hby at_130 (by decide) (by decide) ?_
      refine OG.retZ X67 hx hby Bd.returns (by simp) at_134 Bd.notSynchronized (by decide) (by decide) ?_
      exact ⟨rfl, M67⟩
    · rw [hi57]
      refine OG.istore (Ls' := #[.val (.int p1), .val (.int p2), .val (.ref b1), .val (.int (1 : Int32)), .val (.int (1 : Int32)), .unset, .unset, .unset]) X43 hx hby at_57 rfl rfl ?_
      refine OG.iloadN X43 hx hby at_59 rfl rfl ?_
      refine OG.iload X43 hx hby at_60 rfl rfl ?_
      refine OG.icmpNo X43 hx hby at_62 (teq (by decide)).2 rfl ?_
      refine OG.iconst (v := (1 : Int32)) X43 hx hby at_65 (by decide) rfl ?_
      refine OG.istore (Ls' := #[.val (.int p1), .val (.int p2), .val (.ref b1), .val (.int (1 : Int32)), .val (.int (1 : Int32)), .val (.int (1 : Int32)), .unset, .unset]) X43 hx hby at_66 rfl rfl ?_
      refine OG.goto (pc' := 91) X43 hx hby at_68 (by decide) (by decide) ?_
      refine OG.aloadN X43 hx hby at_91 rfl rfl rfl ?_
      refine OG.iloadN X43 hx hby at_92 rfl rfl ?_
      refine OG.lR X43 hx hZ hby rfl e43 f44 (by decide) rfl at_93 rfl ?_
      refine OG.aloadN X43 hx hby at_94 rfl rfl rfl ?_
      refine OG.iload X43 hx hby at_95 rfl rfl ?_
      refine OG.lR X43 hx hZ hby rfl e43 f44 (by decide) rfl at_97 rfl ?_
      refine OG.cV X43 hx hZ hby (by rw [hml]; rfl) hown (y := (⟨"com/example/stutter/stutter/values/Value$Kind", "comparableWith", "(Lcom/example/stutter/stutter/values/Value$Kind;)Z"⟩ : MethodName)) (z := (⟨"com/example/stutter/stutter/values/Value$Kind", "comparableWith", "(Lcom/example/stutter/stutter/values/Value$Kind;)Z"⟩ : MethodName)) (hw _ (List.mem_of_getElem? (i := 17) rfl)) (hw _ (List.mem_of_getElem? (i := 18) rfl)) (notFace_of_selects (args := #[]) (mvT hZ (hw _ (List.mem_of_getElem? (i := 20) rfl)))) (hw _ (List.mem_of_getElem? (i := 20) rfl)) (hw _ (List.mem_of_getElem? (i := 19) rfl)) (hw _ (List.mem_of_getElem? (i := 21) rfl)) (hw _ (List.mem_of_getElem? (i := 3) rfl)) (by decide) (own_rm_cmp l Z a0 hw [] w1 w1 w5 (1 : Int32) h43 n0 (Nat.le_trans (Nat.le_trans (Nat.le_trans (Nat.le_trans (Nat.le_trans (Nat.le_trans (Nat.le_trans Z0 E1.1) (Nat.le_of_eq (Wr.size W13).symm)) (Nat.le_of_eq (Wr.size W19).symm)) (Nat.le_of_eq (Wr.size W25).symm)) (Nat.le_of_eq (Wr.size W31).symm)) (Nat.le_of_eq (Wr.size W37).symm)) (Nat.le_of_eq (Wr.size W43).symm)) f47 (by simp)) f49 e43 (argsL := [(.ref w1)]) (stk := [(.ref w1), (.ref w1)]) (st := []) own_pd_0 rfl rfl rfl (W := 0) rfl (by decide) (by decide) (by decide) (by decide) at_98 rfl ?_
      intro T68 L68 v68 X68 q68
      obtain ⟨rfl, N68, e68⟩ := q68
      have M68 := Fr.app N46 N68
      show OG.Go _ _ _ _ _ _ _ (T68.setTop (mkF m 101 #[.val (.int p1), .val (.int p2), .val (.ref b1), .val (.int (1 : Int32)), .val (.int (1 : Int32)), .val (.int (1 : Int32)), .unset, .unset] [(.int (1 : Int32))]))
      refine OG.istore (Ls' := #[.val (.int p1), .val (.int p2), .val (.ref b1), .val (.int (1 : Int32)), .val (.int (1 : Int32)), .val (.int (1 : Int32)), .val (.int (1 : Int32)), .unset]) X68 hx hby at_101 rfl rfl ?_
      refine OG.aloadN X68 hx hby at_103 rfl rfl rfl ?_
      refine OG.iload X68 hx hby at_104 rfl rfl ?_
      refine OG.lR X68 hx hZ hby rfl e68 f44 (by decide) rfl at_106 rfl ?_
      refine OG.aloadN X68 hx hby at_107 rfl rfl rfl ?_
      refine OG.iloadN X68 hx hby at_108 rfl rfl ?_
      refine OG.lR X68 hx hZ hby rfl e68 f44 (by decide) rfl at_109 rfl ?_
      refine OG.cV X68 hx hZ hby (by rw [hml]; rfl) hown (y := (⟨"com/example/stutter/stutter/values/Value$Kind", "comparableWith", "(Lcom/example/stutter/stutter/values/Value$Kind;)Z"⟩ : MethodName)) (z := (⟨"com/example/stutter/stutter/values/Value$Kind", "comparableWith", "(Lcom/example/stutter/stutter/values/Value$Kind;)Z"⟩ : MethodName)) (hw _ (List.mem_of_getElem? (i := 17) rfl)) (hw _ (List.mem_of_getElem? (i := 18) rfl)) (notFace_of_selects (args := #[]) (mvT hZ (hw _ (List.mem_of_getElem? (i := 20) rfl)))) (hw _ (List.mem_of_getElem? (i := 20) rfl)) (hw _ (List.mem_of_getElem? (i := 19) rfl)) (hw _ (List.mem_of_getElem? (i := 21) rfl)) (hw _ (List.mem_of_getElem? (i := 3) rfl)) (by decide) (own_rm_cmp l Z a0 hw [] w1 w1 w5 (1 : Int32) h43 n0 (Nat.le_trans (Nat.le_trans (Nat.le_trans (Nat.le_trans (Nat.le_trans (Nat.le_trans (Nat.le_trans Z0 E1.1) (Nat.le_of_eq (Wr.size W13).symm)) (Nat.le_of_eq (Wr.size W19).symm)) (Nat.le_of_eq (Wr.size W25).symm)) (Nat.le_of_eq (Wr.size W31).symm)) (Nat.le_of_eq (Wr.size W37).symm)) (Nat.le_of_eq (Wr.size W43).symm)) f47 (by simp)) f49 e68 (argsL := [(.ref w1)]) (stk := [(.ref w1), (.ref w1)]) (st := []) own_pd_0 rfl rfl rfl (W := 0) rfl (by decide) (by decide) (by decide) (by decide) at_110 rfl ?_
      intro T69 L69 v69 X69 q69
      obtain ⟨rfl, N69, e69⟩ := q69
      have M69 := Fr.app M68 N69
      show OG.Go _ _ _ _ _ _ _ (T69.setTop (mkF m 113 #[.val (.int p1), .val (.int p2), .val (.ref b1), .val (.int (1 : Int32)), .val (.int (1 : Int32)), .val (.int (1 : Int32)), .val (.int (1 : Int32)), .unset] [(.int (1 : Int32))]))
      refine OG.istore (Ls' := #[.val (.int p1), .val (.int p2), .val (.ref b1), .val (.int (1 : Int32)), .val (.int (1 : Int32)), .val (.int (1 : Int32)), .val (.int (1 : Int32)), .val (.int (1 : Int32))]) X69 hx hby at_113 rfl rfl ?_
      refine OG.iload X69 hx hby at_115 rfl rfl ?_
      refine OG.iload X69 hx hby at_117 rfl rfl ?_
      refine OG.icmpNo X69 hx hby at_119 (teq (by decide)).2 rfl ?_
      refine OG.iload X69 hx hby at_122 rfl rfl ?_
      refine OG.iload X69 hx hby at_124 rfl rfl ?_
      refine OG.icmpNo X69 hx hby at_126 (teq (by decide)).2 rfl ?_
      refine OG.iconst (v := (1 : Int32)) X69 hx hby at_129 (by decide) rfl ?_
      refine OG.goto (pc' := 134) X69 hx hby at_130 (by decide) (by decide) ?_
      refine OG.retZ X69 hx hby Bd.returns (by simp) at_134 Bd.notSynchronized (by decide) (by decide) ?_
      exact ⟨rfl, M69⟩
    · rw [hi57]
      refine OG.istore (Ls' := #[.val (.int p1), .val (.int p2), .val (.ref b1), .val (.int (1 : Int32)), .val (.int (2 : Int32)), .unset, .unset, .unset]) X43 hx hby at_57 rfl rfl ?_
      refine OG.iloadN X43 hx hby at_59 rfl rfl ?_
      refine OG.iload X43 hx hby at_60 rfl rfl ?_
      refine OG.icmpYes (pc' := 71) X43 hx hby at_62 (feq (by decide)).2 (by decide) (by decide) ?_
      refine OG.iloadN X43 hx hby at_71 rfl rfl ?_
      refine OG.iconst (v := (5 : Int32)) X43 hx hby at_72 (by decide) rfl ?_
      refine OG.icmpNo X43 hx hby at_73 (feq (by decide)).1 rfl ?_
      refine OG.iload X43 hx hby at_76 rfl rfl ?_
      refine OG.iconst (v := (5 : Int32)) X43 hx hby at_78 (by decide) rfl ?_
      refine OG.icmpYes (pc' := 88) X43 hx hby at_79 (feq (by decide)).2 (by decide) (by decide) ?_
      refine OG.iconst (v := (0 : Int32)) X43 hx hby at_88 (by decide) rfl ?_
      refine OG.istore (Ls' := #[.val (.int p1), .val (.int p2), .val (.ref b1), .val (.int (1 : Int32)), .val (.int (2 : Int32)), .val (.int (0 : Int32)), .unset, .unset]) X43 hx hby at_89 rfl rfl ?_
      refine OG.aloadN X43 hx hby at_91 rfl rfl rfl ?_
      refine OG.iloadN X43 hx hby at_92 rfl rfl ?_
      refine OG.lR X43 hx hZ hby rfl e43 f44 (by decide) rfl at_93 rfl ?_
      refine OG.aloadN X43 hx hby at_94 rfl rfl rfl ?_
      refine OG.iload X43 hx hby at_95 rfl rfl ?_
      refine OG.lR X43 hx hZ hby rfl e43 f44 (by decide) rfl at_97 rfl ?_
      refine OG.cV X43 hx hZ hby (by rw [hml]; rfl) hown (y := (⟨"com/example/stutter/stutter/values/Value$Kind", "comparableWith", "(Lcom/example/stutter/stutter/values/Value$Kind;)Z"⟩ : MethodName)) (z := (⟨"com/example/stutter/stutter/values/Value$Kind", "comparableWith", "(Lcom/example/stutter/stutter/values/Value$Kind;)Z"⟩ : MethodName)) (hw _ (List.mem_of_getElem? (i := 17) rfl)) (hw _ (List.mem_of_getElem? (i := 18) rfl)) (notFace_of_selects (args := #[]) (mvT hZ (hw _ (List.mem_of_getElem? (i := 20) rfl)))) (hw _ (List.mem_of_getElem? (i := 20) rfl)) (hw _ (List.mem_of_getElem? (i := 19) rfl)) (hw _ (List.mem_of_getElem? (i := 21) rfl)) (hw _ (List.mem_of_getElem? (i := 3) rfl)) (by decide) (own_rm_cmp l Z a0 hw [] w1 w2 w5 (0 : Int32) h43 n0 (Nat.le_trans (Nat.le_trans (Nat.le_trans (Nat.le_trans (Nat.le_trans (Nat.le_trans (Nat.le_trans Z0 E1.1) (Nat.le_of_eq (Wr.size W13).symm)) (Nat.le_of_eq (Wr.size W19).symm)) (Nat.le_of_eq (Wr.size W25).symm)) (Nat.le_of_eq (Wr.size W31).symm)) (Nat.le_of_eq (Wr.size W37).symm)) (Nat.le_of_eq (Wr.size W43).symm)) f47 (by simp [hn1_2, hn1_5, hn2_5])) f49 e43 (argsL := [(.ref w2)]) (stk := [(.ref w2), (.ref w1)]) (st := []) own_pd_0 rfl rfl rfl (W := 0) rfl (by decide) (by decide) (by decide) (by decide) at_98 rfl ?_
      intro T70 L70 v70 X70 q70
      obtain ⟨rfl, N70, e70⟩ := q70
      have M70 := Fr.app N46 N70
      show OG.Go _ _ _ _ _ _ _ (T70.setTop (mkF m 101 #[.val (.int p1), .val (.int p2), .val (.ref b1), .val (.int (1 : Int32)), .val (.int (2 : Int32)), .val (.int (0 : Int32)), .unset, .unset] [(.int (0 : Int32))]))
      refine OG.istore (Ls' := #[.val (.int p1), .val (.int p2), .val (.ref b1), .val (.int (1 : Int32)), .val (.int (2 : Int32)), .val (.int (0 : Int32)), .val (.int (0 : Int32)), .unset]) X70 hx hby at_101 rfl rfl ?_
      refine OG.aloadN X70 hx hby at_103 rfl rfl rfl ?_
      refine OG.iload X70 hx hby at_104 rfl rfl ?_
      refine OG.lR X70 hx hZ hby rfl e70 f44 (by decide) rfl at_106 rfl ?_
      refine OG.aloadN X70 hx hby at_107 rfl rfl rfl ?_
      refine OG.iloadN X70 hx hby at_108 rfl rfl ?_
      refine OG.lR X70 hx hZ hby rfl e70 f44 (by decide) rfl at_109 rfl ?_
      refine OG.cV X70 hx hZ hby (by rw [hml]; rfl) hown (y := (⟨"com/example/stutter/stutter/values/Value$Kind", "comparableWith", "(Lcom/example/stutter/stutter/values/Value$Kind;)Z"⟩ : MethodName)) (z := (⟨"com/example/stutter/stutter/values/Value$Kind", "comparableWith", "(Lcom/example/stutter/stutter/values/Value$Kind;)Z"⟩ : MethodName)) (hw _ (List.mem_of_getElem? (i := 17) rfl)) (hw _ (List.mem_of_getElem? (i := 18) rfl)) (notFace_of_selects (args := #[]) (mvT hZ (hw _ (List.mem_of_getElem? (i := 20) rfl)))) (hw _ (List.mem_of_getElem? (i := 20) rfl)) (hw _ (List.mem_of_getElem? (i := 19) rfl)) (hw _ (List.mem_of_getElem? (i := 21) rfl)) (hw _ (List.mem_of_getElem? (i := 3) rfl)) (by decide) (own_rm_cmp l Z a0 hw [] w2 w1 w5 (0 : Int32) h43 n0 (Nat.le_trans (Nat.le_trans (Nat.le_trans (Nat.le_trans (Nat.le_trans (Nat.le_trans (Nat.le_trans Z0 E1.1) (Nat.le_of_eq (Wr.size W13).symm)) (Nat.le_of_eq (Wr.size W19).symm)) (Nat.le_of_eq (Wr.size W25).symm)) (Nat.le_of_eq (Wr.size W31).symm)) (Nat.le_of_eq (Wr.size W37).symm)) (Nat.le_of_eq (Wr.size W43).symm)) f47 (by simp [hn2_1, hn2_5, hn1_5])) f50 e70 (argsL := [(.ref w1)]) (stk := [(.ref w1), (.ref w2)]) (st := []) own_pd_0 rfl rfl rfl (W := 0) rfl (by decide) (by decide) (by decide) (by decide) at_110 rfl ?_
      intro T71 L71 v71 X71 q71
      obtain ⟨rfl, N71, e71⟩ := q71
      have M71 := Fr.app M70 N71
      show OG.Go _ _ _ _ _ _ _ (T71.setTop (mkF m 113 #[.val (.int p1), .val (.int p2), .val (.ref b1), .val (.int (1 : Int32)), .val (.int (2 : Int32)), .val (.int (0 : Int32)), .val (.int (0 : Int32)), .unset] [(.int (0 : Int32))]))
      refine OG.istore (Ls' := #[.val (.int p1), .val (.int p2), .val (.ref b1), .val (.int (1 : Int32)), .val (.int (2 : Int32)), .val (.int (0 : Int32)), .val (.int (0 : Int32)), .val (.int (0 : Int32))]) X71 hx hby at_113 rfl rfl ?_
      refine OG.iload X71 hx hby at_115 rfl rfl ?_
      refine OG.iload X71 hx hby at_117 rfl rfl ?_
      refine OG.icmpNo X71 hx hby at_119 (teq (by decide)).2 rfl ?_
      refine OG.iload X71 hx hby at_122 rfl rfl ?_
      refine OG.iload X71 hx hby at_124 rfl rfl ?_
      refine OG.icmpNo X71 hx hby at_126 (teq (by decide)).2 rfl ?_
      refine OG.iconst (v := (1 : Int32)) X71 hx hby at_129 (by decide) rfl ?_
      refine OG.goto (pc' := 134) X71 hx hby at_130 (by decide) (by decide) ?_
      refine OG.retZ X71 hx hby Bd.returns (by simp) at_134 Bd.notSynchronized (by decide) (by decide) ?_
      exact ⟨rfl, M71⟩
    · rw [hi57]
      refine OG.istore (Ls' := #[.val (.int p1), .val (.int p2), .val (.ref b1), .val (.int (1 : Int32)), .val (.int (3 : Int32)), .unset, .unset, .unset]) X43 hx hby at_57 rfl rfl ?_
      refine OG.iloadN X43 hx hby at_59 rfl rfl ?_
      refine OG.iload X43 hx hby at_60 rfl rfl ?_
      refine OG.icmpYes (pc' := 71) X43 hx hby at_62 (feq (by decide)).2 (by decide) (by decide) ?_
      refine OG.iloadN X43 hx hby at_71 rfl rfl ?_
      refine OG.iconst (v := (5 : Int32)) X43 hx hby at_72 (by decide) rfl ?_
      refine OG.icmpNo X43 hx hby at_73 (feq (by decide)).1 rfl ?_
      refine OG.iload X43 hx hby at_76 rfl rfl ?_
      refine OG.iconst (v := (5 : Int32)) X43 hx hby at_78 (by decide) rfl ?_
      refine OG.icmpYes (pc' := 88) X43 hx hby at_79 (feq (by decide)).2 (by decide) (by decide) ?_
      refine OG.iconst (v := (0 : Int32)) X43 hx hby at_88 (by decide) rfl ?_
      refine OG.istore (Ls' := #[.val (.int p1), .val (.int p2), .val (.ref b1), .val (.int (1 : Int32)), .val (.int (3 : Int32)), .val (.int (0 : Int32)), .unset, .unset]) X43 hx hby at_89 rfl rfl ?_
      refine OG.aloadN X43 hx hby at_91 rfl rfl rfl ?_
      refine OG.iloadN X43 hx hby at_92 rfl rfl ?_
      refine OG.lR X43 hx hZ hby rfl e43 f44 (by decide) rfl at_93 rfl ?_
      refine OG.aloadN X43 hx hby at_94 rfl rfl rfl ?_
      refine OG.iload X43 hx hby at_95 rfl rfl ?_
      refine OG.lR X43 hx hZ hby rfl e43 f44 (by decide) rfl at_97 rfl ?_
      refine OG.cV X43 hx hZ hby (by rw [hml]; rfl) hown (y := (⟨"com/example/stutter/stutter/values/Value$Kind", "comparableWith", "(Lcom/example/stutter/stutter/values/Value$Kind;)Z"⟩ : MethodName)) (z := (⟨"com/example/stutter/stutter/values/Value$Kind", "comparableWith", "(Lcom/example/stutter/stutter/values/Value$Kind;)Z"⟩ : MethodName)) (hw _ (List.mem_of_getElem? (i := 17) rfl)) (hw _ (List.mem_of_getElem? (i := 18) rfl)) (notFace_of_selects (args := #[]) (mvT hZ (hw _ (List.mem_of_getElem? (i := 20) rfl)))) (hw _ (List.mem_of_getElem? (i := 20) rfl)) (hw _ (List.mem_of_getElem? (i := 19) rfl)) (hw _ (List.mem_of_getElem? (i := 21) rfl)) (hw _ (List.mem_of_getElem? (i := 3) rfl)) (by decide) (own_rm_cmp l Z a0 hw [] w1 w3 w5 (0 : Int32) h43 n0 (Nat.le_trans (Nat.le_trans (Nat.le_trans (Nat.le_trans (Nat.le_trans (Nat.le_trans (Nat.le_trans Z0 E1.1) (Nat.le_of_eq (Wr.size W13).symm)) (Nat.le_of_eq (Wr.size W19).symm)) (Nat.le_of_eq (Wr.size W25).symm)) (Nat.le_of_eq (Wr.size W31).symm)) (Nat.le_of_eq (Wr.size W37).symm)) (Nat.le_of_eq (Wr.size W43).symm)) f47 (by simp [hn1_3, hn1_5, hn3_5])) f49 e43 (argsL := [(.ref w3)]) (stk := [(.ref w3), (.ref w1)]) (st := []) own_pd_0 rfl rfl rfl (W := 0) rfl (by decide) (by decide) (by decide) (by decide) at_98 rfl ?_
      intro T72 L72 v72 X72 q72
      obtain ⟨rfl, N72, e72⟩ := q72
      have M72 := Fr.app N46 N72
      show OG.Go _ _ _ _ _ _ _ (T72.setTop (mkF m 101 #[.val (.int p1), .val (.int p2), .val (.ref b1), .val (.int (1 : Int32)), .val (.int (3 : Int32)), .val (.int (0 : Int32)), .unset, .unset] [(.int (0 : Int32))]))
      refine OG.istore (Ls' := #[.val (.int p1), .val (.int p2), .val (.ref b1), .val (.int (1 : Int32)), .val (.int (3 : Int32)), .val (.int (0 : Int32)), .val (.int (0 : Int32)), .unset]) X72 hx hby at_101 rfl rfl ?_
      refine OG.aloadN X72 hx hby at_103 rfl rfl rfl ?_
      refine OG.iload X72 hx hby at_104 rfl rfl ?_
      refine OG.lR X72 hx hZ hby rfl e72 f44 (by decide) rfl at_106 rfl ?_
      refine OG.aloadN X72 hx hby at_107 rfl rfl rfl ?_
      refine OG.iloadN X72 hx hby at_108 rfl rfl ?_
      refine OG.lR X72 hx hZ hby rfl e72 f44 (by decide) rfl at_109 rfl ?_
      refine OG.cV X72 hx hZ hby (by rw [hml]; rfl) hown (y := (⟨"com/example/stutter/stutter/values/Value$Kind", "comparableWith", "(Lcom/example/stutter/stutter/values/Value$Kind;)Z"⟩ : MethodName)) (z := (⟨"com/example/stutter/stutter/values/Value$Kind", "comparableWith", "(Lcom/example/stutter/stutter/values/Value$Kind;)Z"⟩ : MethodName)) (hw _ (List.mem_of_getElem? (i := 17) rfl)) (hw _ (List.mem_of_getElem? (i := 18) rfl)) (notFace_of_selects (args := #[]) (mvT hZ (hw _ (List.mem_of_getElem? (i := 20) rfl)))) (hw _ (List.mem_of_getElem? (i := 20) rfl)) (hw _ (List.mem_of_getElem? (i := 19) rfl)) (hw _ (List.mem_of_getElem? (i := 21) rfl)) (hw _ (List.mem_of_getElem? (i := 3) rfl)) (by decide) (own_rm_cmp l Z a0 hw [] w3 w1 w5 (0 : Int32) h43 n0 (Nat.le_trans (Nat.le_trans (Nat.le_trans (Nat.le_trans (Nat.le_trans (Nat.le_trans (Nat.le_trans Z0 E1.1) (Nat.le_of_eq (Wr.size W13).symm)) (Nat.le_of_eq (Wr.size W19).symm)) (Nat.le_of_eq (Wr.size W25).symm)) (Nat.le_of_eq (Wr.size W31).symm)) (Nat.le_of_eq (Wr.size W37).symm)) (Nat.le_of_eq (Wr.size W43).symm)) f47 (by simp [hn3_1, hn3_5, hn1_5])) f51 e72 (argsL := [(.ref w1)]) (stk := [(.ref w1), (.ref w3)]) (st := []) own_pd_0 rfl rfl rfl (W := 0) rfl (by decide) (by decide) (by decide) (by decide) at_110 rfl ?_
      intro T73 L73 v73 X73 q73
      obtain ⟨rfl, N73, e73⟩ := q73
      have M73 := Fr.app M72 N73
      show OG.Go _ _ _ _ _ _ _ (T73.setTop (mkF m 113 #[.val (.int p1), .val (.int p2), .val (.ref b1), .val (.int (1 : Int32)), .val (.int (3 : Int32)), .val (.int (0 : Int32)), .val (.int (0 : Int32)), .unset] [(.int (0 : Int32))]))
      refine OG.istore (Ls' := #[.val (.int p1), .val (.int p2), .val (.ref b1), .val (.int (1 : Int32)), .val (.int (3 : Int32)), .val (.int (0 : Int32)), .val (.int (0 : Int32)), .val (.int (0 : Int32))]) X73 hx hby at_113 rfl rfl ?_
      refine OG.iload X73 hx hby at_115 rfl rfl ?_
      refine OG.iload X73 hx hby at_117 rfl rfl ?_
      refine OG.icmpNo X73 hx hby at_119 (teq (by decide)).2 rfl ?_
      refine OG.iload X73 hx hby at_122 rfl rfl ?_
      refine OG.iload X73 hx hby at_124 rfl rfl ?_
      refine OG.icmpNo X73 hx hby at_126 (teq (by decide)).2 rfl ?_
      refine OG.iconst (v := (1 : Int32)) X73 hx hby at_129 (by decide) rfl ?_
      refine OG.goto (pc' := 134) X73 hx hby at_130 (by decide) (by decide) ?_
      refine OG.retZ X73 hx hby Bd.returns (by simp) at_134 Bd.notSynchronized (by decide) (by decide) ?_
      exact ⟨rfl, M73⟩
    · rw [hi57]
      refine OG.istore (Ls' := #[.val (.int p1), .val (.int p2), .val (.ref b1), .val (.int (1 : Int32)), .val (.int (4 : Int32)), .unset, .unset, .unset]) X43 hx hby at_57 rfl rfl ?_
      refine OG.iloadN X43 hx hby at_59 rfl rfl ?_
      refine OG.iload X43 hx hby at_60 rfl rfl ?_
      refine OG.icmpYes (pc' := 71) X43 hx hby at_62 (feq (by decide)).2 (by decide) (by decide) ?_
      refine OG.iloadN X43 hx hby at_71 rfl rfl ?_
      refine OG.iconst (v := (5 : Int32)) X43 hx hby at_72 (by decide) rfl ?_
      refine OG.icmpNo X43 hx hby at_73 (feq (by decide)).1 rfl ?_
      refine OG.iload X43 hx hby at_76 rfl rfl ?_
      refine OG.iconst (v := (5 : Int32)) X43 hx hby at_78 (by decide) rfl ?_
      refine OG.icmpYes (pc' := 88) X43 hx hby at_79 (feq (by decide)).2 (by decide) (by decide) ?_
      refine OG.iconst (v := (0 : Int32)) X43 hx hby at_88 (by decide) rfl ?_
      refine OG.istore (Ls' := #[.val (.int p1), .val (.int p2), .val (.ref b1), .val (.int (1 : Int32)), .val (.int (4 : Int32)), .val (.int (0 : Int32)), .unset, .unset]) X43 hx hby at_89 rfl rfl ?_
      refine OG.aloadN X43 hx hby at_91 rfl rfl rfl ?_
      refine OG.iloadN X43 hx hby at_92 rfl rfl ?_
      refine OG.lR X43 hx hZ hby rfl e43 f44 (by decide) rfl at_93 rfl ?_
      refine OG.aloadN X43 hx hby at_94 rfl rfl rfl ?_
      refine OG.iload X43 hx hby at_95 rfl rfl ?_
      refine OG.lR X43 hx hZ hby rfl e43 f44 (by decide) rfl at_97 rfl ?_
      refine OG.cV X43 hx hZ hby (by rw [hml]; rfl) hown (y := (⟨"com/example/stutter/stutter/values/Value$Kind", "comparableWith", "(Lcom/example/stutter/stutter/values/Value$Kind;)Z"⟩ : MethodName)) (z := (⟨"com/example/stutter/stutter/values/Value$Kind", "comparableWith", "(Lcom/example/stutter/stutter/values/Value$Kind;)Z"⟩ : MethodName)) (hw _ (List.mem_of_getElem? (i := 17) rfl)) (hw _ (List.mem_of_getElem? (i := 18) rfl)) (notFace_of_selects (args := #[]) (mvT hZ (hw _ (List.mem_of_getElem? (i := 20) rfl)))) (hw _ (List.mem_of_getElem? (i := 20) rfl)) (hw _ (List.mem_of_getElem? (i := 19) rfl)) (hw _ (List.mem_of_getElem? (i := 21) rfl)) (hw _ (List.mem_of_getElem? (i := 3) rfl)) (by decide) (own_rm_cmp l Z a0 hw [] w1 w4 w5 (0 : Int32) h43 n0 (Nat.le_trans (Nat.le_trans (Nat.le_trans (Nat.le_trans (Nat.le_trans (Nat.le_trans (Nat.le_trans Z0 E1.1) (Nat.le_of_eq (Wr.size W13).symm)) (Nat.le_of_eq (Wr.size W19).symm)) (Nat.le_of_eq (Wr.size W25).symm)) (Nat.le_of_eq (Wr.size W31).symm)) (Nat.le_of_eq (Wr.size W37).symm)) (Nat.le_of_eq (Wr.size W43).symm)) f47 (by simp [hn1_4, hn1_5, hn4_5])) f49 e43 (argsL := [(.ref w4)]) (stk := [(.ref w4), (.ref w1)]) (st := []) own_pd_0 rfl rfl rfl (W := 0) rfl (by decide) (by decide) (by decide) (by decide) at_98 rfl ?_
      intro T74 L74 v74 X74 q74
      obtain ⟨rfl, N74, e74⟩ := q74
      have M74 := Fr.app N46 N74
      show OG.Go _ _ _ _ _ _ _ (T74.setTop (mkF m 101 #[.val (.int p1), .val (.int p2), .val (.ref b1), .val (.int (1 : Int32)), .val (.int (4 : Int32)), .val (.int (0 : Int32)), .unset, .unset] [(.int (0 : Int32))]))
      refine OG.istore (Ls' := #[.val (.int p1), .val (.int p2), .val (.ref b1), .val (.int (1 : Int32)), .val (.int (4 : Int32)), .val (.int (0 : Int32)), .val (.int (0 : Int32)), .unset]) X74 hx hby at_101 rfl rfl ?_
      refine OG.aloadN X74 hx hby at_103 rfl rfl rfl ?_
      refine OG.iload X74 hx hby at_104 rfl rfl ?_
      refine OG.lR X74 hx hZ hby rfl e74 f44 (by decide) rfl at_106 rfl ?_
      refine OG.aloadN X74 hx hby at_107 rfl rfl rfl ?_
      refine OG.iloadN X74 hx hby at_108 rfl rfl ?_
      refine OG.lR X74 hx hZ hby rfl e74 f44 (by decide) rfl at_109 rfl ?_
      refine OG.cV X74 hx hZ hby (by rw [hml]; rfl) hown (y := (⟨"com/example/stutter/stutter/values/Value$Kind", "comparableWith", "(Lcom/example/stutter/stutter/values/Value$Kind;)Z"⟩ : MethodName)) (z := (⟨"com/example/stutter/stutter/values/Value$Kind", "comparableWith", "(Lcom/example/stutter/stutter/values/Value$Kind;)Z"⟩ : MethodName)) (hw _ (List.mem_of_getElem? (i := 17) rfl)) (hw _ (List.mem_of_getElem? (i := 18) rfl)) (notFace_of_selects (args := #[]) (mvT hZ (hw _ (List.mem_of_getElem? (i := 20) rfl)))) (hw _ (List.mem_of_getElem? (i := 20) rfl)) (hw _ (List.mem_of_getElem? (i := 19) rfl)) (hw _ (List.mem_of_getElem? (i := 21) rfl)) (hw _ (List.mem_of_getElem? (i := 3) rfl)) (by decide) (own_rm_cmp l Z a0 hw [] w4 w1 w5 (0 : Int32) h43 n0 (Nat.le_trans (Nat.le_trans (Nat.le_trans (Nat.le_trans (Nat.le_trans (Nat.le_trans (Nat.le_trans Z0 E1.1) (Nat.le_of_eq (Wr.size W13).symm)) (Nat.le_of_eq (Wr.size W19).symm)) (Nat.le_of_eq (Wr.size W25).symm)) (Nat.le_of_eq (Wr.size W31).symm)) (Nat.le_of_eq (Wr.size W37).symm)) (Nat.le_of_eq (Wr.size W43).symm)) f47 (by simp [hn4_1, hn4_5, hn1_5])) f52 e74 (argsL := [(.ref w1)]) (stk := [(.ref w1), (.ref w4)]) (st := []) own_pd_0 rfl rfl rfl (W := 0) rfl (by decide) (by decide) (by decide) (by decide) at_110 rfl ?_
      intro T75 L75 v75 X75 q75
      obtain ⟨rfl, N75, e75⟩ := q75
      have M75 := Fr.app M74 N75
      show OG.Go _ _ _ _ _ _ _ (T75.setTop (mkF m 113 #[.val (.int p1), .val (.int p2), .val (.ref b1), .val (.int (1 : Int32)), .val (.int (4 : Int32)), .val (.int (0 : Int32)), .val (.int (0 : Int32)), .unset] [(.int (0 : Int32))]))
      refine OG.istore (Ls' := #[.val (.int p1), .val (.int p2), .val (.ref b1), .val (.int (1 : Int32)), .val (.int (4 : Int32)), .val (.int (0 : Int32)), .val (.int (0 : Int32)), .val (.int (0 : Int32))]) X75 hx hby at_113 rfl rfl ?_
      refine OG.iload X75 hx hby at_115 rfl rfl ?_
      refine OG.iload X75 hx hby at_117 rfl rfl ?_
      refine OG.icmpNo X75 hx hby at_119 (teq (by decide)).2 rfl ?_
      refine OG.iload X75 hx hby at_122 rfl rfl ?_
      refine OG.iload X75 hx hby at_124 rfl rfl ?_
      refine OG.icmpNo X75 hx hby at_126 (teq (by decide)).2 rfl ?_
      refine OG.iconst (v := (1 : Int32)) X75 hx hby at_129 (by decide) rfl ?_
      refine OG.goto (pc' := 134) X75 hx hby at_130 (by decide) (by decide) ?_
      refine OG.retZ X75 hx hby Bd.returns (by simp) at_134 Bd.notSynchronized (by decide) (by decide) ?_
      exact ⟨rfl, M75⟩
    · rw [hi57]
      refine OG.istore (Ls' := #[.val (.int p1), .val (.int p2), .val (.ref b1), .val (.int (1 : Int32)), .val (.int (5 : Int32)), .unset, .unset, .unset]) X43 hx hby at_57 rfl rfl ?_
      refine OG.iloadN X43 hx hby at_59 rfl rfl ?_
      refine OG.iload X43 hx hby at_60 rfl rfl ?_
      refine OG.icmpYes (pc' := 71) X43 hx hby at_62 (feq (by decide)).2 (by decide) (by decide) ?_
      refine OG.iloadN X43 hx hby at_71 rfl rfl ?_
      refine OG.iconst (v := (5 : Int32)) X43 hx hby at_72 (by decide) rfl ?_
      refine OG.icmpNo X43 hx hby at_73 (feq (by decide)).1 rfl ?_
      refine OG.iload X43 hx hby at_76 rfl rfl ?_
      refine OG.iconst (v := (5 : Int32)) X43 hx hby at_78 (by decide) rfl ?_
      refine OG.icmpNo X43 hx hby at_79 (teq (by decide)).2 rfl ?_
      refine OG.iconst (v := (1 : Int32)) X43 hx hby at_82 (by decide) rfl ?_
      refine OG.istore (Ls' := #[.val (.int p1), .val (.int p2), .val (.ref b1), .val (.int (1 : Int32)), .val (.int (5 : Int32)), .val (.int (1 : Int32)), .unset, .unset]) X43 hx hby at_83 rfl rfl ?_
      refine OG.goto (pc' := 91) X43 hx hby at_85 (by decide) (by decide) ?_
      refine OG.aloadN X43 hx hby at_91 rfl rfl rfl ?_
      refine OG.iloadN X43 hx hby at_92 rfl rfl ?_
      refine OG.lR X43 hx hZ hby rfl e43 f44 (by decide) rfl at_93 rfl ?_
      refine OG.aloadN X43 hx hby at_94 rfl rfl rfl ?_
      refine OG.iload X43 hx hby at_95 rfl rfl ?_
      refine OG.lR X43 hx hZ hby rfl e43 f44 (by decide) rfl at_97 rfl ?_
      refine OG.cV X43 hx hZ hby (by rw [hml]; rfl) hown (y := (⟨"com/example/stutter/stutter/values/Value$Kind", "comparableWith", "(Lcom/example/stutter/stutter/values/Value$Kind;)Z"⟩ : MethodName)) (z := (⟨"com/example/stutter/stutter/values/Value$Kind", "comparableWith", "(Lcom/example/stutter/stutter/values/Value$Kind;)Z"⟩ : MethodName)) (hw _ (List.mem_of_getElem? (i := 17) rfl)) (hw _ (List.mem_of_getElem? (i := 18) rfl)) (notFace_of_selects (args := #[]) (mvT hZ (hw _ (List.mem_of_getElem? (i := 20) rfl)))) (hw _ (List.mem_of_getElem? (i := 20) rfl)) (hw _ (List.mem_of_getElem? (i := 19) rfl)) (hw _ (List.mem_of_getElem? (i := 21) rfl)) (hw _ (List.mem_of_getElem? (i := 3) rfl)) (by decide) (own_rm_cmp l Z a0 hw [] w1 w5 w5 (1 : Int32) h43 n0 (Nat.le_trans (Nat.le_trans (Nat.le_trans (Nat.le_trans (Nat.le_trans (Nat.le_trans (Nat.le_trans Z0 E1.1) (Nat.le_of_eq (Wr.size W13).symm)) (Nat.le_of_eq (Wr.size W19).symm)) (Nat.le_of_eq (Wr.size W25).symm)) (Nat.le_of_eq (Wr.size W31).symm)) (Nat.le_of_eq (Wr.size W37).symm)) (Nat.le_of_eq (Wr.size W43).symm)) f47 (by simp [hn1_5])) f49 e43 (argsL := [(.ref w5)]) (stk := [(.ref w5), (.ref w1)]) (st := []) own_pd_0 rfl rfl rfl (W := 0) rfl (by decide) (by decide) (by decide) (by decide) at_98 rfl ?_
      intro T76 L76 v76 X76 q76
      obtain ⟨rfl, N76, e76⟩ := q76
      have M76 := Fr.app N46 N76
      show OG.Go _ _ _ _ _ _ _ (T76.setTop (mkF m 101 #[.val (.int p1), .val (.int p2), .val (.ref b1), .val (.int (1 : Int32)), .val (.int (5 : Int32)), .val (.int (1 : Int32)), .unset, .unset] [(.int (1 : Int32))]))
      refine OG.istore (Ls' := #[.val (.int p1), .val (.int p2), .val (.ref b1), .val (.int (1 : Int32)), .val (.int (5 : Int32)), .val (.int (1 : Int32)), .val (.int (1 : Int32)), .unset]) X76 hx hby at_101 rfl rfl ?_
      refine OG.aloadN X76 hx hby at_103 rfl rfl rfl ?_
      refine OG.iload X76 hx hby at_104 rfl rfl ?_
      refine OG.lR X76 hx hZ hby rfl e76 f44 (by decide) rfl at_106 rfl ?_
      refine OG.aloadN X76 hx hby at_107 rfl rfl rfl ?_
      refine OG.iloadN X76 hx hby at_108 rfl rfl ?_
      refine OG.lR X76 hx hZ hby rfl e76 f44 (by decide) rfl at_109 rfl ?_
      refine OG.cV X76 hx hZ hby (by rw [hml]; rfl) hown (y := (⟨"com/example/stutter/stutter/values/Value$Kind", "comparableWith", "(Lcom/example/stutter/stutter/values/Value$Kind;)Z"⟩ : MethodName)) (z := (⟨"com/example/stutter/stutter/values/Value$Kind", "comparableWith", "(Lcom/example/stutter/stutter/values/Value$Kind;)Z"⟩ : MethodName)) (hw _ (List.mem_of_getElem? (i := 17) rfl)) (hw _ (List.mem_of_getElem? (i := 18) rfl)) (notFace_of_selects (args := #[]) (mvT hZ (hw _ (List.mem_of_getElem? (i := 20) rfl)))) (hw _ (List.mem_of_getElem? (i := 20) rfl)) (hw _ (List.mem_of_getElem? (i := 19) rfl)) (hw _ (List.mem_of_getElem? (i := 21) rfl)) (hw _ (List.mem_of_getElem? (i := 3) rfl)) (by decide) (own_rm_cmp l Z a0 hw [] w5 w1 w5 (1 : Int32) h43 n0 (Nat.le_trans (Nat.le_trans (Nat.le_trans (Nat.le_trans (Nat.le_trans (Nat.le_trans (Nat.le_trans Z0 E1.1) (Nat.le_of_eq (Wr.size W13).symm)) (Nat.le_of_eq (Wr.size W19).symm)) (Nat.le_of_eq (Wr.size W25).symm)) (Nat.le_of_eq (Wr.size W31).symm)) (Nat.le_of_eq (Wr.size W37).symm)) (Nat.le_of_eq (Wr.size W43).symm)) f47 (by simp [hn5_1, hn1_5])) f53 e76 (argsL := [(.ref w1)]) (stk := [(.ref w1), (.ref w5)]) (st := []) own_pd_0 rfl rfl rfl (W := 0) rfl (by decide) (by decide) (by decide) (by decide) at_110 rfl ?_
      intro T77 L77 v77 X77 q77
      obtain ⟨rfl, N77, e77⟩ := q77
      have M77 := Fr.app M76 N77
      show OG.Go _ _ _ _ _ _ _ (T77.setTop (mkF m 113 #[.val (.int p1), .val (.int p2), .val (.ref b1), .val (.int (1 : Int32)), .val (.int (5 : Int32)), .val (.int (1 : Int32)), .val (.int (1 : Int32)), .unset] [(.int (1 : Int32))]))
      refine OG.istore (Ls' := #[.val (.int p1), .val (.int p2), .val (.ref b1), .val (.int (1 : Int32)), .val (.int (5 : Int32)), .val (.int (1 : Int32)), .val (.int (1 : Int32)), .val (.int (1 : Int32))]) X77 hx hby at_113 rfl rfl ?_
      refine OG.iload X77 hx hby at_115 rfl rfl ?_
      refine OG.iload X77 hx hby at_117 rfl rfl ?_
      refine OG.icmpNo X77 hx hby at_119 (teq (by decide)).2 rfl ?_
      refine OG.iload X77 hx hby at_122 rfl rfl ?_
      refine OG.iload X77 hx hby at_124 rfl rfl ?_
      refine OG.icmpNo X77 hx hby at_126 (teq (by decide)).2 rfl ?_
      refine OG.iconst (v := (1 : Int32)) X77 hx hby at_129 (by decide) rfl ?_
      refine OG.goto (pc' := 134) X77 hx hby at_130 (by decide) (by decide) ?_
      refine OG.retZ X77 hx hby Bd.returns (by simp) at_134 Bd.notSynchronized (by decide) (by decide) ?_
      exact ⟨rfl, M77⟩
  · rw [hi49]
    refine OG.istoreN (Ls' := #[.val (.int p1), .val (.int p2), .val (.ref b1), .val (.int (2 : Int32)), .unset, .unset, .unset, .unset]) X43 hx hby at_49 rfl rfl ?_
    refine OG.iloadN X43 hx hby at_50 rfl rfl ?_
    refine OG.ldcI (v := (2147483647 : Int32)) X43 hx hZ hby hown (hw _ (List.mem_of_getElem? (i := 16) rfl)) at_51 rfl ?_
    refine OG.iand X43 hx hby at_53 rfl ?_
    refine OG.bipush (v := (6 : Int32)) X43 hx hby at_54 (by decide) rfl ?_
    refine OG.irem X43 hx hby at_56 (by decide) rfl ?_
    rcases own_mod6 p2 with hi57 | hi57 | hi57 | hi57 | hi57 | hi57
    · rw [hi57]
      refine OG.istore (Ls' := #[.val (.int p1), .val (.int p2), .val (.ref b1), .val (.int (2 : Int32)), .val (.int (0 : Int32)), .unset, .unset, .unset]) X43 hx hby at_57 rfl rfl ?_
      refine OG.iloadN X43 hx hby at_59 rfl rfl ?_
      refine OG.iload X43 hx hby at_60 rfl rfl ?_
      refine OG.icmpYes (pc' := 71) X43 hx hby at_62 (feq (by decide)).2 (by decide) (by decide) ?_
      refine OG.iloadN X43 hx hby at_71 rfl rfl ?_
      refine OG.iconst (v := (5 : Int32)) X43 hx hby at_72 (by decide) rfl ?_
      refine OG.icmpNo X43 hx hby at_73 (feq (by decide)).1 rfl ?_
      refine OG.iload X43 hx hby at_76 rfl rfl ?_
      refine OG.iconst (v := (5 : Int32)) X43 hx hby at_78 (by decide) rfl ?_
      refine OG.icmpYes (pc' := 88) X43 hx hby at_79 (feq (by decide)).2 (by decide) (by decide) ?_
      refine OG.iconst (v := (0 : Int32)) X43 hx hby at_88 (by decide) rfl ?_
      refine OG.istore (Ls' := #[.val (.int p1), .val (.int p2), .val (.ref b1), .val (.int (2 : Int32)), .val (.int (0 : Int32)), .val (.int (0 : Int32)), .unset, .unset]) X43 hx hby at_89 rfl rfl ?_
      refine OG.aloadN X43 hx hby at_91 rfl rfl rfl ?_
      refine OG.iloadN X43 hx hby at_92 rfl rfl ?_
      refine OG.lR X43 hx hZ hby rfl e43 f44 (by decide) rfl at_93 rfl ?_
      refine OG.aloadN X43 hx hby at_94 rfl rfl rfl ?_
      refine OG.iload X43 hx hby at_95 rfl rfl ?_
      refine OG.lR X43 hx hZ hby rfl e43 f44 (by decide) rfl at_97 rfl ?_
      refine OG.cV X43 hx hZ hby (by rw [hml]; rfl) hown (y := (⟨"com/example/stutter/stutter/values/Value$Kind", "comparableWith", "(Lcom/example/stutter/stutter/values/Value$Kind;)Z"⟩ : MethodName)) (z := (⟨"com/example/stutter/stutter/values/Value$Kind", "comparableWith", "(Lcom/example/stutter/stutter/values/Value$Kind;)Z"⟩ : MethodName)) (hw _ (List.mem_of_getElem? (i := 17) rfl)) (hw _ (List.mem_of_getElem? (i := 18) rfl)) (notFace_of_selects (args := #[]) (mvT hZ (hw _ (List.mem_of_getElem? (i := 20) rfl)))) (hw _ (List.mem_of_getElem? (i := 20) rfl)) (hw _ (List.mem_of_getElem? (i := 19) rfl)) (hw _ (List.mem_of_getElem? (i := 21) rfl)) (hw _ (List.mem_of_getElem? (i := 3) rfl)) (by decide) (own_rm_cmp l Z a0 hw [] w2 w0 w5 (0 : Int32) h43 n0 (Nat.le_trans (Nat.le_trans (Nat.le_trans (Nat.le_trans (Nat.le_trans (Nat.le_trans (Nat.le_trans Z0 E1.1) (Nat.le_of_eq (Wr.size W13).symm)) (Nat.le_of_eq (Wr.size W19).symm)) (Nat.le_of_eq (Wr.size W25).symm)) (Nat.le_of_eq (Wr.size W31).symm)) (Nat.le_of_eq (Wr.size W37).symm)) (Nat.le_of_eq (Wr.size W43).symm)) f47 (by simp [hn2_0, hn2_5, hn0_5])) f50 e43 (argsL := [(.ref w0)]) (stk := [(.ref w0), (.ref w2)]) (st := []) own_pd_0 rfl rfl rfl (W := 0) rfl (by decide) (by decide) (by decide) (by decide) at_98 rfl ?_
      intro T78 L78 v78 X78 q78
      obtain ⟨rfl, N78, e78⟩ := q78
      have M78 := Fr.app N46 N78
      show OG.Go _ _ _ _ _ _ _ (T78.setTop (mkF m 101 #[.val (.int p1), .val (.int p2), .val (.ref b1), .val (.int (2 : Int32)), .val (.int (0 : Int32)), .val (.int (0 : Int32)), .unset, .unset] [(.int (0 : Int32))]))
      refine OG.istore (Ls' := #[.val (.int p1), .val (.int p2), .val (.ref b1), .val (.int (2 : Int32)), .val (.int (0 : Int32)), .val (.int (0 : Int32)), .val (.int (0 : Int32)), .unset]) X78 hx hby at_101 rfl rfl ?_
      refine OG.aloadN X78 hx hby at_103 rfl rfl rfl ?_
      refine OG.iload X78 hx hby at_104 rfl rfl ?_
      refine OG.lR X78 hx hZ hby rfl e78 f44 (by decide) rfl at_106 rfl ?_
      refine OG.aloadN X78 hx hby at_107 rfl rfl rfl ?_
      refine OG.iloadN X78 hx hby at_108 rfl rfl ?_
      refine OG.lR X78 hx hZ hby rfl e78 f44 (by decide) rfl at_109 rfl ?_
      refine OG.cV X78 hx hZ hby (by rw [hml]; rfl) hown (y := (⟨"com/example/stutter/stutter/values/Value$Kind", "comparableWith", "(Lcom/example/stutter/stutter/values/Value$Kind;)Z"⟩ : MethodName)) (z := (⟨"com/example/stutter/stutter/values/Value$Kind", "comparableWith", "(Lcom/example/stutter/stutter/values/Value$Kind;)Z"⟩ : MethodName)) (hw _ (List.mem_of_getElem? (i := 17) rfl)) (hw _ (List.mem_of_getElem? (i := 18) rfl)) (notFace_of_selects (args := #[]) (mvT hZ (hw _ (List.mem_of_getElem? (i := 20) rfl)))) (hw _ (List.mem_of_getElem? (i := 20) rfl)) (hw _ (List.mem_of_getElem? (i := 19) rfl)) (hw _ (List.mem_of_getElem? (i := 21) rfl)) (hw _ (List.mem_of_getElem? (i := 3) rfl)) (by decide) (own_rm_cmp l Z a0 hw [] w0 w2 w5 (0 : Int32) h43 n0 (Nat.le_trans (Nat.le_trans (Nat.le_trans (Nat.le_trans (Nat.le_trans (Nat.le_trans (Nat.le_trans Z0 E1.1) (Nat.le_of_eq (Wr.size W13).symm)) (Nat.le_of_eq (Wr.size W19).symm)) (Nat.le_of_eq (Wr.size W25).symm)) (Nat.le_of_eq (Wr.size W31).symm)) (Nat.le_of_eq (Wr.size W37).symm)) (Nat.le_of_eq (Wr.size W43).symm)) f47 (by simp [hn0_2, hn0_5, hn2_5])) f48 e78 (argsL := [(.ref w2)]) (stk := [(.ref w2), (.ref w0)]) (st := []) own_pd_0 rfl rfl rfl (W := 0) rfl (by decide) (by decide) (by decide) (by decide) at_110 rfl ?_
      intro T79 L79 v79 X79 q79
      obtain ⟨rfl, N79, e79⟩ := q79
      have M79 := Fr.app M78 N79
      show OG.Go _ _ _ _ _ _ _ (T79.setTop (mkF m 113 #[.val (.int p1), .val (.int p2), .val (.ref b1), .val (.int (2 : Int32)), .val (.int (0 : Int32)), .val (.int (0 : Int32)), .val (.int (0 : Int32)), .unset] [(.int (0 : Int32))]))
      refine OG.istore (Ls' := #[.val (.int p1), .val (.int p2), .val (.ref b1), .val (.int (2 : Int32)), .val (.int (0 : Int32)), .val (.int (0 : Int32)), .val (.int (0 : Int32)), .val (.int (0 : Int32))]) X79 hx hby at_113 rfl rfl ?_
      refine OG.iload X79 hx hby at_115 rfl rfl ?_
      refine OG.iload X79 hx hby at_117 rfl rfl ?_
      refine OG.icmpNo X79 hx hby at_119 (teq (by decide)).2 rfl ?_
      refine OG.iload X79 hx hby at_122 rfl rfl ?_
      refine OG.iload X79 hx hby at_124 rfl rfl ?_
      refine OG.icmpNo X79 hx hby at_126 (teq (by decide)).2 rfl ?_
      refine OG.iconst (v := (1 : Int32)) X79 hx hby at_129 (by decide) rfl ?_
      refine OG.goto (pc' := 134) X79 hx hby at_130 (by decide) (by decide) ?_
      refine OG.retZ X79 hx hby Bd.returns (by simp) at_134 Bd.notSynchronized (by decide) (by decide) ?_
      exact ⟨rfl, M79⟩
    · rw [hi57]
      refine OG.istore (Ls' := #[.val (.int p1), .val (.int p2), .val (.ref b1), .val (.int (2 : Int32)), .val (.int (1 : Int32)), .unset, .unset, .unset]) X43 hx hby at_57 rfl rfl ?_
      refine OG.iloadN X43 hx hby at_59 rfl rfl ?_
      refine OG.iload X43 hx hby at_60 rfl rfl ?_
      refine OG.icmpYes (pc' := 71) X43 hx hby at_62 (feq (by decide)).2 (by decide) (by decide) ?_
      refine OG.iloadN X43 hx hby at_71 rfl rfl ?_
      refine OG.iconst (v := (5 : Int32)) X43 hx hby at_72 (by decide) rfl ?_
      refine OG.icmpNo X43 hx hby at_73 (feq (by decide)).1 rfl ?_
      refine OG.iload X43 hx hby at_76 rfl rfl ?_
      refine OG.iconst (v := (5 : Int32)) X43 hx hby at_78 (by decide) rfl ?_
      refine OG.icmpYes (pc' := 88) X43 hx hby at_79 (feq (by decide)).2 (by decide) (by decide) ?_
      refine OG.iconst (v := (0 : Int32)) X43 hx hby at_88 (by decide) rfl ?_
      refine OG.istore (Ls' := #[.val (.int p1), .val (.int p2), .val (.ref b1), .val (.int (2 : Int32)), .val (.int (1 : Int32)), .val (.int (0 : Int32)), .unset, .unset]) X43 hx hby at_89 rfl rfl ?_
      refine OG.aloadN X43 hx hby at_91 rfl rfl rfl ?_
      refine OG.iloadN X43 hx hby at_92 rfl rfl ?_
      refine OG.lR X43 hx hZ hby rfl e43 f44 (by decide) rfl at_93 rfl ?_
      refine OG.aloadN X43 hx hby at_94 rfl rfl rfl ?_
      refine OG.iload X43 hx hby at_95 rfl rfl ?_
      refine OG.lR X43 hx hZ hby rfl e43 f44 (by decide) rfl at_97 rfl ?_
      refine OG.cV X43 hx hZ hby (by rw [hml]; rfl) hown (y := (⟨"com/example/stutter/stutter/values/Value$Kind", "comparableWith", "(Lcom/example/stutter/stutter/values/Value$Kind;)Z"⟩ : MethodName)) (z := (⟨"com/example/stutter/stutter/values/Value$Kind", "comparableWith", "(Lcom/example/stutter/stutter/values/Value$Kind;)Z"⟩ : MethodName)) (hw _ (List.mem_of_getElem? (i := 17) rfl)) (hw _ (List.mem_of_getElem? (i := 18) rfl)) (notFace_of_selects (args := #[]) (mvT hZ (hw _ (List.mem_of_getElem? (i := 20) rfl)))) (hw _ (List.mem_of_getElem? (i := 20) rfl)) (hw _ (List.mem_of_getElem? (i := 19) rfl)) (hw _ (List.mem_of_getElem? (i := 21) rfl)) (hw _ (List.mem_of_getElem? (i := 3) rfl)) (by decide) (own_rm_cmp l Z a0 hw [] w2 w1 w5 (0 : Int32) h43 n0 (Nat.le_trans (Nat.le_trans (Nat.le_trans (Nat.le_trans (Nat.le_trans (Nat.le_trans (Nat.le_trans Z0 E1.1) (Nat.le_of_eq (Wr.size W13).symm)) (Nat.le_of_eq (Wr.size W19).symm)) (Nat.le_of_eq (Wr.size W25).symm)) (Nat.le_of_eq (Wr.size W31).symm)) (Nat.le_of_eq (Wr.size W37).symm)) (Nat.le_of_eq (Wr.size W43).symm)) f47 (by simp [hn2_1, hn2_5, hn1_5])) f50 e43 (argsL := [(.ref w1)]) (stk := [(.ref w1), (.ref w2)]) (st := []) own_pd_0 rfl rfl rfl (W := 0) rfl (by decide) (by decide) (by decide) (by decide) at_98 rfl ?_
      intro T80 L80 v80 X80 q80
      obtain ⟨rfl, N80, e80⟩ := q80
      have M80 := Fr.app N46 N80
      show OG.Go _ _ _ _ _ _ _ (T80.setTop (mkF m 101 #[.val (.int p1), .val (.int p2), .val (.ref b1), .val (.int (2 : Int32)), .val (.int (1 : Int32)), .val (.int (0 : Int32)), .unset, .unset] [(.int (0 : Int32))]))
      refine OG.istore (Ls' := #[.val (.int p1), .val (.int p2), .val (.ref b1), .val (.int (2 : Int32)), .val (.int (1 : Int32)), .val (.int (0 : Int32)), .val (.int (0 : Int32)), .unset]) X80 hx hby at_101 rfl rfl ?_
      refine OG.aloadN X80 hx hby at_103 rfl rfl rfl ?_
      refine OG.iload X80 hx hby at_104 rfl rfl ?_
      refine OG.lR X80 hx hZ hby rfl e80 f44 (by decide) rfl at_106 rfl ?_
      refine OG.aloadN X80 hx hby at_107 rfl rfl rfl ?_
      refine OG.iloadN X80 hx hby at_108 rfl rfl ?_
      refine OG.lR X80 hx hZ hby rfl e80 f44 (by decide) rfl at_109 rfl ?_
      refine OG.cV X80 hx hZ hby (by rw [hml]; rfl) hown (y := (⟨"com/example/stutter/stutter/values/Value$Kind", "comparableWith", "(Lcom/example/stutter/stutter/values/Value$Kind;)Z"⟩ : MethodName)) (z := (⟨"com/example/stutter/stutter/values/Value$Kind", "comparableWith", "(Lcom/example/stutter/stutter/values/Value$Kind;)Z"⟩ : MethodName)) (hw _ (List.mem_of_getElem? (i := 17) rfl)) (hw _ (List.mem_of_getElem? (i := 18) rfl)) (notFace_of_selects (args := #[]) (mvT hZ (hw _ (List.mem_of_getElem? (i := 20) rfl)))) (hw _ (List.mem_of_getElem? (i := 20) rfl)) (hw _ (List.mem_of_getElem? (i := 19) rfl)) (hw _ (List.mem_of_getElem? (i := 21) rfl)) (hw _ (List.mem_of_getElem? (i := 3) rfl)) (by decide) (own_rm_cmp l Z a0 hw [] w1 w2 w5 (0 : Int32) h43 n0 (Nat.le_trans (Nat.le_trans (Nat.le_trans (Nat.le_trans (Nat.le_trans (Nat.le_trans (Nat.le_trans Z0 E1.1) (Nat.le_of_eq (Wr.size W13).symm)) (Nat.le_of_eq (Wr.size W19).symm)) (Nat.le_of_eq (Wr.size W25).symm)) (Nat.le_of_eq (Wr.size W31).symm)) (Nat.le_of_eq (Wr.size W37).symm)) (Nat.le_of_eq (Wr.size W43).symm)) f47 (by simp [hn1_2, hn1_5, hn2_5])) f49 e80 (argsL := [(.ref w2)]) (stk := [(.ref w2), (.ref w1)]) (st := []) own_pd_0 rfl rfl rfl (W := 0) rfl (by decide) (by decide) (by decide) (by decide) at_110 rfl ?_
      intro T81 L81 v81 X81 q81
      obtain ⟨rfl, N81, e81⟩ := q81
      have M81 := Fr.app M80 N81
      show OG.Go _ _ _ _ _ _ _ (T81.setTop (mkF m 113 #[.val (.int p1), .val (.int p2), .val (.ref b1), .val (.int (2 : Int32)), .val (.int (1 : Int32)), .val (.int (0 : Int32)), .val (.int (0 : Int32)), .unset] [(.int (0 : Int32))]))
      refine OG.istore (Ls' := #[.val (.int p1), .val (.int p2), .val (.ref b1), .val (.int (2 : Int32)), .val (.int (1 : Int32)), .val (.int (0 : Int32)), .val (.int (0 : Int32)), .val (.int (0 : Int32))]) X81 hx hby at_113 rfl rfl ?_
      refine OG.iload X81 hx hby at_115 rfl rfl ?_
      refine OG.iload X81 hx hby at_117 rfl rfl ?_
      refine OG.icmpNo X81 hx hby at_119 (teq (by decide)).2 rfl ?_
      refine OG.iload X81 hx hby at_122 rfl rfl ?_
      refine OG.iload X81 hx hby at_124 rfl rfl ?_
      refine OG.icmpNo X81 hx hby at_126 (teq (by decide)).2 rfl ?_
      refine OG.iconst (v := (1 : Int32)) X81 hx hby at_129 (by decide) rfl ?_
      refine OG.goto (pc' := 134) X81 hx hby at_130 (by decide) (by decide) ?_
      refine OG.retZ X81 hx hby Bd.returns (by simp) at_134 Bd.notSynchronized (by decide) (by decide) ?_
      exact ⟨rfl, M81⟩
    · rw [hi57]
      refine OG.istore (Ls' := #[.val (.int p1), .val (.int p2), .val (.ref b1), .val (.int (2 : Int32)), .val (.int (2 : Int32)), .unset, .unset, .unset]) X43 hx hby at_57 rfl rfl ?_
      refine OG.iloadN X43 hx hby at_59 rfl rfl ?_
      refine OG.iload X43 hx hby at_60 rfl rfl ?_
      refine OG.icmpNo X43 hx hby at_62 (teq (by decide)).2 rfl ?_
      refine OG.iconst (v := (1 : Int32)) X43 hx hby at_65 (by decide) rfl ?_
      refine OG.istore (Ls' := #[.val (.int p1), .val (.int p2), .val (.ref b1), .val (.int (2 : Int32)), .val (.int (2 : Int32)), .val (.int (1 : Int32)), .unset, .unset]) X43 hx hby at_66 rfl rfl ?_
      refine OG.goto (pc' := 91) X43 hx hby at_68 (by decide) (by decide) ?_
      refine OG.aloadN X43 hx hby at_91 rfl rfl rfl ?_
      refine OG.iloadN X43 hx hby at_92 rfl rfl ?_
      refine OG.lR X43 hx hZ hby rfl e43 f44 (by decide) rfl at_93 rfl ?_
      refine OG.aloadN X43 hx hby at_94 rfl rfl rfl ?_
      refine OG.iload X43 hx hby at_95 rfl rfl ?_
      refine OG.lR X43 hx hZ hby rfl e43 f44 (by decide) rfl at_97 rfl ?_
      refine OG.cV X43 hx hZ hby (by rw [hml]; rfl) hown (y := (⟨"com/example/stutter/stutter/values/Value$Kind", "comparableWith", "(Lcom/example/stutter/stutter/values/Value$Kind;)Z"⟩ : MethodName)) (z := (⟨"com/example/stutter/stutter/values/Value$Kind", "comparableWith", "(Lcom/example/stutter/stutter/values/Value$Kind;)Z"⟩ : MethodName)) (hw _ (List.mem_of_getElem? (i := 17) rfl)) (hw _ (List.mem_of_getElem? (i := 18) rfl)) (notFace_of_selects (args := #[]) (mvT hZ (hw _ (List.mem_of_getElem? (i := 20) rfl)))) (hw _ (List.mem_of_getElem? (i := 20) rfl)) (hw _ (List.mem_of_getElem? (i := 19) rfl)) (hw _ (List.mem_of_getElem? (i := 21) rfl)) (hw _ (List.mem_of_getElem? (i := 3) rfl)) (by decide) (own_rm_cmp l Z a0 hw [] w2 w2 w5 (1 : Int32) h43 n0 (Nat.le_trans (Nat.le_trans (Nat.le_trans (Nat.le_trans (Nat.le_trans (Nat.le_trans (Nat.le_trans Z0 E1.1) (Nat.le_of_eq (Wr.size W13).symm)) (Nat.le_of_eq (Wr.size W19).symm)) (Nat.le_of_eq (Wr.size W25).symm)) (Nat.le_of_eq (Wr.size W31).symm)) (Nat.le_of_eq (Wr.size W37).symm)) (Nat.le_of_eq (Wr.size W43).symm)) f47 (by simp)) f50 e43 (argsL := [(.ref w2)]) (stk := [(.ref w2), (.ref w2)]) (st := []) own_pd_0 rfl rfl rfl (W := 0) rfl (by decide) (by decide) (by decide) (by decide) at_98 rfl ?_
      intro T82 L82 v82 X82 q82
      obtain ⟨rfl, N82, e82⟩ := q82
      have M82 := Fr.app N46 N82
      show OG.Go _ _ _ _ _ _ _ (T82.setTop (mkF m 101 #[.val (.int p1), .val (.int p2), .val (.ref b1), .val (.int (2 : Int32)), .val (.int (2 : Int32)), .val (.int (1 : Int32)), .unset, .unset] [(.int (1 : Int32))]))
      refine OG.istore (Ls' := #[.val (.int p1), .val (.int p2), .val (.ref b1), .val (.int (2 : Int32)), .val (.int (2 : Int32)), .val (.int (1 : Int32)), .val (.int (1 : Int32)), .unset]) X82 hx hby at_101 rfl rfl ?_
      refine OG.aloadN X82 hx hby at_103 rfl rfl rfl ?_
      refine OG.iload X82 hx hby at_104 rfl rfl ?_
      refine OG.lR X82 hx hZ hby rfl e82 f44 (by decide) rfl at_106 rfl ?_
      refine OG.aloadN X82 hx hby at_107 rfl rfl rfl ?_
      refine OG.iloadN X82 hx hby at_108 rfl rfl ?_
      refine OG.lR X82 hx hZ hby rfl e82 f44 (by decide) rfl at_109 rfl ?_
      refine OG.cV X82 hx hZ hby (by rw [hml]; rfl) hown (y := (⟨"com/example/stutter/stutter/values/Value$Kind", "comparableWith", "(Lcom/example/stutter/stutter/values/Value$Kind;)Z"⟩ : MethodName)) (z := (⟨"com/example/stutter/stutter/values/Value$Kind", "comparableWith", "(Lcom/example/stutter/stutter/values/Value$Kind;)Z"⟩ : MethodName)) (hw _ (List.mem_of_getElem? (i := 17) rfl)) (hw _ (List.mem_of_getElem? (i := 18) rfl)) (notFace_of_selects (args := #[]) (mvT hZ (hw _ (List.mem_of_getElem? (i := 20) rfl)))) (hw _ (List.mem_of_getElem? (i := 20) rfl)) (hw _ (List.mem_of_getElem? (i := 19) rfl)) (hw _ (List.mem_of_getElem? (i := 21) rfl)) (hw _ (List.mem_of_getElem? (i := 3) rfl)) (by decide) (own_rm_cmp l Z a0 hw [] w2 w2 w5 (1 : Int32) h43 n0 (Nat.le_trans (Nat.le_trans (Nat.le_trans (Nat.le_trans (Nat.le_trans (Nat.le_trans (Nat.le_trans Z0 E1.1) (Nat.le_of_eq (Wr.size W13).symm)) (Nat.le_of_eq (Wr.size W19).symm)) (Nat.le_of_eq (Wr.size W25).symm)) (Nat.le_of_eq (Wr.size W31).symm)) (Nat.le_of_eq (Wr.size W37).symm)) (Nat.le_of_eq (Wr.size W43).symm)) f47 (by simp)) f50 e82 (argsL := [(.ref w2)]) (stk := [(.ref w2), (.ref w2)]) (st := []) own_pd_0 rfl rfl rfl (W := 0) rfl (by decide) (by decide) (by decide) (by decide) at_110 rfl ?_
      intro T83 L83 v83 X83 q83
      obtain ⟨rfl, N83, e83⟩ := q83
      have M83 := Fr.app M82 N83
      show OG.Go _ _ _ _ _ _ _ (T83.setTop (mkF m 113 #[.val (.int p1), .val (.int p2), .val (.ref b1), .val (.int (2 : Int32)), .val (.int (2 : Int32)), .val (.int (1 : Int32)), .val (.int (1 : Int32)), .unset] [(.int (1 : Int32))]))
      refine OG.istore (Ls' := #[.val (.int p1), .val (.int p2), .val (.ref b1), .val (.int (2 : Int32)), .val (.int (2 : Int32)), .val (.int (1 : Int32)), .val (.int (1 : Int32)), .val (.int (1 : Int32))]) X83 hx hby at_113 rfl rfl ?_
      refine OG.iload X83 hx hby at_115 rfl rfl ?_
      refine OG.iload X83 hx hby at_117 rfl rfl ?_
      refine OG.icmpNo X83 hx hby at_119 (teq (by decide)).2 rfl ?_
      refine OG.iload X83 hx hby at_122 rfl rfl ?_
      refine OG.iload X83 hx hby at_124 rfl rfl ?_
      refine OG.icmpNo X83 hx hby at_126 (teq (by decide)).2 rfl ?_
      refine OG.iconst (v := (1 : Int32)) X83 hx hby at_129 (by decide) rfl ?_
      refine OG.goto (pc' := 134) X83 hx hby at_130 (by decide) (by decide) ?_
      refine OG.retZ X83 hx hby Bd.returns (by simp) at_134 Bd.notSynchronized (by decide) (by decide) ?_
      exact ⟨rfl, M83⟩
    · rw [hi57]
      refine OG.istore (Ls' := #[.val (.int p1), .val (.int p2), .val (.ref b1), .val (.int (2 : Int32)), .val (.int (3 : Int32)), .unset, .unset, .unset]) X43 hx hby at_57 rfl rfl ?_
      refine OG.iloadN X43 hx hby at_59 rfl rfl ?_
      refine OG.iload X43 hx hby at_60 rfl rfl ?_
      refine OG.icmpYes (pc' := 71) X43 hx hby at_62 (feq (by decide)).2 (by decide) (by decide) ?_
      refine OG.iloadN X43 hx hby at_71 rfl rfl ?_
      refine OG.iconst (v := (5 : Int32)) X43 hx hby at_72 (by decide) rfl ?_
      refine OG.icmpNo X43 hx hby at_73 (feq (by decide)).1 rfl ?_
      refine OG.iload X43 hx hby at_76 rfl rfl ?_
      refine OG.iconst (v := (5 : Int32)) X43 hx hby at_78 (by decide) rfl ?_
      refine OG.icmpYes (pc' := 88) X43 hx hby at_79 (feq (by decide)).2 (by decide) (by decide) ?_
      refine OG.iconst (v := (0 : Int32)) X43 hx hby at_88 (by decide) rfl ?_
      refine OG.istore (Ls' := #[.val (.int p1), .val (.int p2), .val (.ref b1), .val (.int (2 : Int32)), .val (.int (3 : Int32)), .val (.int (0 : Int32)), .unset, .unset]) X43 hx hby at_89 rfl rfl ?_
      refine OG.aloadN X43 hx hby at_91 rfl rfl rfl ?_
      refine OG.iloadN X43 hx hby at_92 rfl rfl ?_
      refine OG.lR X43 hx hZ hby rfl e43 f44 (by decide) rfl at_93 rfl ?_
      refine OG.aloadN X43 hx hby at_94 rfl rfl rfl ?_
      refine OG.iload X43 hx hby at_95 rfl rfl ?_
      refine OG.lR X43 hx hZ hby rfl e43 f44 (by decide) rfl at_97 rfl ?_
      refine OG.cV X43 hx hZ hby (by rw [hml]; rfl) hown (y := (⟨"com/example/stutter/stutter/values/Value$Kind", "comparableWith", "(Lcom/example/stutter/stutter/values/Value$Kind;)Z"⟩ : MethodName)) (z := (⟨"com/example/stutter/stutter/values/Value$Kind", "comparableWith", "(Lcom/example/stutter/stutter/values/Value$Kind;)Z"⟩ : MethodName)) (hw _ (List.mem_of_getElem? (i := 17) rfl)) (hw _ (List.mem_of_getElem? (i := 18) rfl)) (notFace_of_selects (args := #[]) (mvT hZ (hw _ (List.mem_of_getElem? (i := 20) rfl)))) (hw _ (List.mem_of_getElem? (i := 20) rfl)) (hw _ (List.mem_of_getElem? (i := 19) rfl)) (hw _ (List.mem_of_getElem? (i := 21) rfl)) (hw _ (List.mem_of_getElem? (i := 3) rfl)) (by decide) (own_rm_cmp l Z a0 hw [] w2 w3 w5 (0 : Int32) h43 n0 (Nat.le_trans (Nat.le_trans (Nat.le_trans (Nat.le_trans (Nat.le_trans (Nat.le_trans (Nat.le_trans Z0 E1.1) (Nat.le_of_eq (Wr.size W13).symm)) (Nat.le_of_eq (Wr.size W19).symm)) (Nat.le_of_eq (Wr.size W25).symm)) (Nat.le_of_eq (Wr.size W31).symm)) (Nat.le_of_eq (Wr.size W37).symm)) (Nat.le_of_eq (Wr.size W43).symm)) f47 (by simp [hn2_3, hn2_5, hn3_5])) f50 e43 (argsL := [(.ref w3)]) (stk := [(.ref w3), (.ref w2)]) (st := []) own_pd_0 rfl rfl rfl (W := 0) rfl (by decide) (by decide) (by decide) (by decide) at_98 rfl ?_
      intro T84 L84 v84 X84 q84
      obtain ⟨rfl, N84, e84⟩ := q84
      have M84 := Fr.app N46 N84
      show OG.Go _ _ _ _ _ _ _ (T84.setTop (mkF m 101 #[.val (.int p1), .val (.int p2), .val (.ref b1), .val (.int (2 : Int32)), .val (.int (3 : Int32)), .val (.int (0 : Int32)), .unset, .unset] [(.int (0 : Int32))]))
      refine OG.istore (Ls' := #[.val (.int p1), .val (.int p2), .val (.ref b1), .val (.int (2 : Int32)), .val (.int (3 : Int32)), .val (.int (0 : Int32)), .val (.int (0 : Int32)), .unset]) X84 hx hby at_101 rfl rfl ?_
      refine OG.aloadN X84 hx hby at_103 rfl rfl rfl ?_
      refine OG.iload X84 hx hby at_104 rfl rfl ?_
      refine OG.lR X84 hx hZ hby rfl e84 f44 (by decide) rfl at_106 rfl ?_
      refine OG.aloadN X84 hx hby at_107 rfl rfl rfl ?_
      refine OG.iloadN X84 hx hby at_108 rfl rfl ?_
      refine OG.lR X84 hx hZ hby rfl e84 f44 (by decide) rfl at_109 rfl ?_
      refine OG.cV X84 hx hZ hby (by rw [hml]; rfl) hown (y := (⟨"com/example/stutter/stutter/values/Value$Kind", "comparableWith", "(Lcom/example/stutter/stutter/values/Value$Kind;)Z"⟩ : MethodName)) (z := (⟨"com/example/stutter/stutter/values/Value$Kind", "comparableWith", "(Lcom/example/stutter/stutter/values/Value$Kind;)Z"⟩ : MethodName)) (hw _ (List.mem_of_getElem? (i := 17) rfl)) (hw _ (List.mem_of_getElem? (i := 18) rfl)) (notFace_of_selects (args := #[]) (mvT hZ (hw _ (List.mem_of_getElem? (i := 20) rfl)))) (hw _ (List.mem_of_getElem? (i := 20) rfl)) (hw _ (List.mem_of_getElem? (i := 19) rfl)) (hw _ (List.mem_of_getElem? (i := 21) rfl)) (hw _ (List.mem_of_getElem? (i := 3) rfl)) (by decide) (own_rm_cmp l Z a0 hw [] w3 w2 w5 (0 : Int32) h43 n0 (Nat.le_trans (Nat.le_trans (Nat.le_trans (Nat.le_trans (Nat.le_trans (Nat.le_trans (Nat.le_trans Z0 E1.1) (Nat.le_of_eq (Wr.size W13).symm)) (Nat.le_of_eq (Wr.size W19).symm)) (Nat.le_of_eq (Wr.size W25).symm)) (Nat.le_of_eq (Wr.size W31).symm)) (Nat.le_of_eq (Wr.size W37).symm)) (Nat.le_of_eq (Wr.size W43).symm)) f47 (by simp [hn3_2, hn3_5, hn2_5])) f51 e84 (argsL := [(.ref w2)]) (stk := [(.ref w2), (.ref w3)]) (st := []) own_pd_0 rfl rfl rfl (W := 0) rfl (by decide) (by decide) (by decide) (by decide) at_110 rfl ?_
      intro T85 L85 v85 X85 q85
      obtain ⟨rfl, N85, e85⟩ := q85
      have M85 := Fr.app M84 N85
      show OG.Go _ _ _ _ _ _ _ (T85.setTop (mkF m 113 #[.val (.int p1), .val (.int p2), .val (.ref b1), .val (.int (2 : Int32)), .val (.int (3 : Int32)), .val (.int (0 : Int32)), .val (.int (0 : Int32)), .unset] [(.int (0 : Int32))]))
      refine OG.istore (Ls' := #[.val (.int p1), .val (.int p2), .val (.ref b1), .val (.int (2 : Int32)), .val (.int (3 : Int32)), .val (.int (0 : Int32)), .val (.int (0 : Int32)), .val (.int (0 : Int32))]) X85 hx hby at_113 rfl rfl ?_
      refine OG.iload X85 hx hby at_115 rfl rfl ?_
      refine OG.iload X85 hx hby at_117 rfl rfl ?_
      refine OG.icmpNo X85 hx hby at_119 (teq (by decide)).2 rfl ?_
      refine OG.iload X85 hx hby at_122 rfl rfl ?_
      refine OG.iload X85 hx hby at_124 rfl rfl ?_
      refine OG.icmpNo X85 hx hby at_126 (teq (by decide)).2 rfl ?_
      refine OG.iconst (v := (1 : Int32)) X85 hx hby at_129 (by decide) rfl ?_
      refine OG.goto (pc' := 134) X85 hx hby at_130 (by decide) (by decide) ?_
      refine OG.retZ X85 hx hby Bd.returns (by simp) at_134 Bd.notSynchronized (by decide) (by decide) ?_
      exact ⟨rfl, M85⟩
    · rw [hi57]
      refine OG.istore (Ls' := #[.val (.int p1), .val (.int p2), .val (.ref b1), .val (.int (2 : Int32)), .val (.int (4 : Int32)), .unset, .unset, .unset]) X43 hx hby at_57 rfl rfl ?_
      refine OG.iloadN X43 hx hby at_59 rfl rfl ?_
      refine OG.iload X43 hx hby at_60 rfl rfl ?_
      refine OG.icmpYes (pc' := 71) X43 hx hby at_62 (feq (by decide)).2 (by decide) (by decide) ?_
      refine OG.iloadN X43 hx hby at_71 rfl rfl ?_
      refine OG.iconst (v := (5 : Int32)) X43 hx hby at_72 (by decide) rfl ?_
      refine OG.icmpNo X43 hx hby at_73 (feq (by decide)).1 rfl ?_
      refine OG.iload X43 hx hby at_76 rfl rfl ?_
      refine OG.iconst (v := (5 : Int32)) X43 hx hby at_78 (by decide) rfl ?_
      refine OG.icmpYes (pc' := 88) X43 hx hby at_79 (feq (by decide)).2 (by decide) (by decide) ?_
      refine OG.iconst (v := (0 : Int32)) X43 hx hby at_88 (by decide) rfl ?_
      refine OG.istore (Ls' := #[.val (.int p1), .val (.int p2), .val (.ref b1), .val (.int (2 : Int32)), .val (.int (4 : Int32)), .val (.int (0 : Int32)), .unset, .unset]) X43 hx hby at_89 rfl rfl ?_
      refine OG.aloadN X43 hx hby at_91 rfl rfl rfl ?_
      refine OG.iloadN X43 hx hby at_92 rfl rfl ?_
      refine OG.lR X43 hx hZ hby rfl e43 f44 (by decide) rfl at_93 rfl ?_
      refine OG.aloadN X43 hx hby at_94 rfl rfl rfl ?_
      refine OG.iload X43 hx hby at_95 rfl rfl ?_
      refine OG.lR X43 hx hZ hby rfl e43 f44 (by decide) rfl at_97 rfl ?_
      refine OG.cV X43 hx hZ hby (by rw [hml]; rfl) hown (y := (⟨"com/example/stutter/stutter/values/Value$Kind", "comparableWith", "(Lcom/example/stutter/stutter/values/Value$Kind;)Z"⟩ : MethodName)) (z := (⟨"com/example/stutter/stutter/values/Value$Kind", "comparableWith", "(Lcom/example/stutter/stutter/values/Value$Kind;)Z"⟩ : MethodName)) (hw _ (List.mem_of_getElem? (i := 17) rfl)) (hw _ (List.mem_of_getElem? (i := 18) rfl)) (notFace_of_selects (args := #[]) (mvT hZ (hw _ (List.mem_of_getElem? (i := 20) rfl)))) (hw _ (List.mem_of_getElem? (i := 20) rfl)) (hw _ (List.mem_of_getElem? (i := 19) rfl)) (hw _ (List.mem_of_getElem? (i := 21) rfl)) (hw _ (List.mem_of_getElem? (i := 3) rfl)) (by decide) (own_rm_cmp l Z a0 hw [] w2 w4 w5 (0 : Int32) h43 n0 (Nat.le_trans (Nat.le_trans (Nat.le_trans (Nat.le_trans (Nat.le_trans (Nat.le_trans (Nat.le_trans Z0 E1.1) (Nat.le_of_eq (Wr.size W13).symm)) (Nat.le_of_eq (Wr.size W19).symm)) (Nat.le_of_eq (Wr.size W25).symm)) (Nat.le_of_eq (Wr.size W31).symm)) (Nat.le_of_eq (Wr.size W37).symm)) (Nat.le_of_eq (Wr.size W43).symm)) f47 (by simp [hn2_4, hn2_5, hn4_5])) f50 e43 (argsL := [(.ref w4)]) (stk := [(.ref w4), (.ref w2)]) (st := []) own_pd_0 rfl rfl rfl (W := 0) rfl (by decide) (by decide) (by decide) (by decide) at_98 rfl ?_
      intro T86 L86 v86 X86 q86
      obtain ⟨rfl, N86, e86⟩ := q86
      have M86 := Fr.app N46 N86
      show OG.Go _ _ _ _ _ _ _ (T86.setTop (mkF m 101 #[.val (.int p1), .val (.int p2), .val (.ref b1), .val (.int (2 : Int32)), .val (.int (4 : Int32)), .val (.int (0 : Int32)), .unset, .unset] [(.int (0 : Int32))]))
      refine OG.istore (Ls' := #[.val (.int p1), .val (.int p2), .val (.ref b1), .val (.int (2 : Int32)), .val (.int (4 : Int32)), .val (.int (0 : Int32)), .val (.int (0 : Int32)), .unset]) X86 hx hby at_101 rfl rfl ?_
      refine OG.aloadN X86 hx hby at_103 rfl rfl rfl ?_
      refine OG.iload X86 hx hby at_104 rfl rfl ?_
      refine OG.lR X86 hx hZ hby rfl e86 f44 (by decide) rfl at_106 rfl ?_
      refine OG.aloadN X86 hx hby at_107 rfl rfl rfl ?_
      refine OG.iloadN X86 hx hby at_108 rfl rfl ?_
      refine OG.lR X86 hx hZ hby rfl e86 f44 (by decide) rfl at_109 rfl ?_
      refine OG.cV X86 hx hZ hby (by rw [hml]; rfl) hown (y := (⟨"com/example/stutter/stutter/values/Value$Kind", "comparableWith", "(Lcom/example/stutter/stutter/values/Value$Kind;)Z"⟩ : MethodName)) (z := (⟨"com/example/stutter/stutter/values/Value$Kind", "comparableWith", "(Lcom/example/stutter/stutter/values/Value$Kind;)Z"⟩ : MethodName)) (hw _ (List.mem_of_getElem? (i := 17) rfl)) (hw _ (List.mem_of_getElem? (i := 18) rfl)) (notFace_of_selects (args := #[]) (mvT hZ (hw _ (List.mem_of_getElem? (i := 20) rfl)))) (hw _ (List.mem_of_getElem? (i := 20) rfl)) (hw _ (List.mem_of_getElem? (i := 19) rfl)) (hw _ (List.mem_of_getElem? (i := 21) rfl)) (hw _ (List.mem_of_getElem? (i := 3) rfl)) (by decide) (own_rm_cmp l Z a0 hw [] w4 w2 w5 (0 : Int32) h43 n0 (Nat.le_trans (Nat.le_trans (Nat.le_trans (Nat.le_trans (Nat.le_trans (Nat.le_trans (Nat.le_trans Z0 E1.1) (Nat.le_of_eq (Wr.size W13).symm)) (Nat.le_of_eq (Wr.size W19).symm)) (Nat.le_of_eq (Wr.size W25).symm)) (Nat.le_of_eq (Wr.size W31).symm)) (Nat.le_of_eq (Wr.size W37).symm)) (Nat.le_of_eq (Wr.size W43).symm)) f47 (by simp [hn4_2, hn4_5, hn2_5])) f52 e86 (argsL := [(.ref w2)]) (stk := [(.ref w2), (.ref w4)]) (st := []) own_pd_0 rfl rfl rfl (W := 0) rfl (by decide) (by decide) (by decide) (by decide) at_110 rfl ?_
      intro T87 L87 v87 X87 q87
      obtain ⟨rfl, N87, e87⟩ := q87
      have M87 := Fr.app M86 N87
      show OG.Go _ _ _ _ _ _ _ (T87.setTop (mkF m 113 #[.val (.int p1), .val (.int p2), .val (.ref b1), .val (.int (2 : Int32)), .val (.int (4 : Int32)), .val (.int (0 : Int32)), .val (.int (0 : Int32)), .unset] [(.int (0 : Int32))]))
      refine OG.istore (Ls' := #[.val (.int p1), .val (.int p2), .val (.ref b1), .val (.int (2 : Int32)), .val (.int (4 : Int32)), .val (.int (0 : Int32)), .val (.int (0 : Int32)), .val (.int (0 : Int32))]) X87 hx hby at_113 rfl rfl ?_
      refine OG.iload X87 hx hby at_115 rfl rfl ?_
      refine OG.iload X87 hx hby at_117 rfl rfl ?_
      refine OG.icmpNo X87 hx hby at_119 (teq (by decide)).2 rfl ?_
      refine OG.iload X87 hx hby at_122 rfl rfl ?_
      refine OG.iload X87 hx hby at_124 rfl rfl ?_
      refine OG.icmpNo X87 hx hby at_126 (teq (by decide)).2 rfl ?_
      refine OG.iconst (v := (1 : Int32)) X87 hx hby at_129 (by decide) rfl ?_
      refine OG.goto (pc' := 134) X87 hx hby at_130 (by decide) (by decide) ?_
      refine OG.retZ X87 hx hby Bd.returns (by simp) at_134 Bd.notSynchronized (by decide) (by decide) ?_
      exact ⟨rfl, M87⟩
    · rw [hi57]
      refine OG.istore (Ls' := #[.val (.int p1), .val (.int p2), .val (.ref b1), .val (.int (2 : Int32)), .val (.int (5 : Int32)), .unset, .unset, .unset]) X43 hx hby at_57 rfl rfl ?_
      refine OG.iloadN X43 hx hby at_59 rfl rfl ?_
      refine OG.iload X43 hx hby at_60 rfl rfl ?_
      refine OG.icmpYes (pc' := 71) X43 hx hby at_62 (feq (by decide)).2 (by decide) (by decide) ?_
      refine OG.iloadN X43 hx hby at_71 rfl rfl ?_
      refine OG.iconst (v := (5 : Int32)) X43 hx hby at_72 (by decide) rfl ?_
      refine OG.icmpNo X43 hx hby at_73 (feq (by decide)).1 rfl ?_
      refine OG.iload X43 hx hby at_76 rfl rfl ?_
      refine OG.iconst (v := (5 : Int32)) X43 hx hby at_78 (by decide) rfl ?_
      refine OG.icmpNo X43 hx hby at_79 (teq (by decide)).2 rfl ?_
      refine OG.iconst (v := (1 : Int32)) X43 hx hby at_82 (by decide) rfl ?_
      refine OG.istore (Ls' := #[.val (.int p1), .val (.int p2), .val (.ref b1), .val (.int (2 : Int32)), .val (.int (5 : Int32)), .val (.int (1 : Int32)), .unset, .unset]) X43 hx hby at_83 rfl rfl ?_
      refine OG.goto (pc' := 91) X43 hx hby at_85 (by decide) (by decide) ?_
      refine OG.aloadN X43 hx hby at_91 rfl rfl rfl ?_
      refine OG.iloadN X43 hx hby at_92 rfl rfl ?_
      refine OG.lR X43 hx hZ hby rfl e43 f44 (by decide) rfl at_93 rfl ?_
      refine OG.aloadN X43 hx hby at_94 rfl rfl rfl ?_
      refine OG.iload X43 hx hby at_95 rfl rfl ?_
      refine OG.lR X43 hx hZ hby rfl e43 f44 (by decide) rfl at_97 rfl ?_
      refine OG.cV X43 hx hZ hby (by rw [hml]; rfl) hown (y := (⟨"com/example/stutter/stutter/values/Value$Kind", "comparableWith", "(Lcom/example/stutter/stutter/values/Value$Kind;)Z"⟩ : MethodName)) (z := (⟨"com/example/stutter/stutter/values/Value$Kind", "comparableWith", "(Lcom/example/stutter/stutter/values/Value$Kind;)Z"⟩ : MethodName)) (hw _ (List.mem_of_getElem? (i := 17) rfl)) (hw _ (List.mem_of_getElem? (i := 18) rfl)) (notFace_of_selects (args := #[]) (mvT hZ (hw _ (List.mem_of_getElem? (i := 20) rfl)))) (hw _ (List.mem_of_getElem? (i := 20) rfl)) (hw _ (List.mem_of_getElem? (i := 19) rfl)) (hw _ (List.mem_of_getElem? (i := 21) rfl)) (hw _ (List.mem_of_getElem? (i := 3) rfl)) (by decide) (own_rm_cmp l Z a0 hw [] w2 w5 w5 (1 : Int32) h43 n0 (Nat.le_trans (Nat.le_trans (Nat.le_trans (Nat.le_trans (Nat.le_trans (Nat.le_trans (Nat.le_trans Z0 E1.1) (Nat.le_of_eq (Wr.size W13).symm)) (Nat.le_of_eq (Wr.size W19).symm)) (Nat.le_of_eq (Wr.size W25).symm)) (Nat.le_of_eq (Wr.size W31).symm)) (Nat.le_of_eq (Wr.size W37).symm)) (Nat.le_of_eq (Wr.size W43).symm)) f47 (by simp [hn2_5])) f50 e43 (argsL := [(.ref w5)]) (stk := [(.ref w5), (.ref w2)]) (st := []) own_pd_0 rfl rfl rfl (W := 0) rfl (by decide) (by decide) (by decide) (by decide) at_98 rfl ?_
      intro T88 L88 v88 X88 q88
      obtain ⟨rfl, N88, e88⟩ := q88
      have M88 := Fr.app N46 N88
      show OG.Go _ _ _ _ _ _ _ (T88.setTop (mkF m 101 #[.val (.int p1), .val (.int p2), .val (.ref b1), .val (.int (2 : Int32)), .val (.int (5 : Int32)), .val (.int (1 : Int32)), .unset, .unset] [(.int (1 : Int32))]))
      refine OG.istore (Ls' := #[.val (.int p1), .val (.int p2), .val (.ref b1), .val (.int (2 : Int32)), .val (.int (5 : Int32)), .val (.int (1 : Int32)), .val (.int (1 : Int32)), .unset]) X88 hx hby at_101 rfl rfl ?_
      refine OG.aloadN X88 hx hby at_103 rfl rfl rfl ?_
      refine OG.iload X88 hx hby at_104 rfl rfl ?_
      refine OG.lR X88 hx hZ hby rfl e88 f44 (by decide) rfl at_106 rfl ?_
      refine OG.aloadN X88 hx hby at_107 rfl rfl rfl ?_
      refine OG.iloadN X88 hx hby at_108 rfl rfl ?_
      refine OG.lR X88 hx hZ hby rfl e88 f44 (by decide) rfl at_109 rfl ?_
      refine OG.cV X88 hx hZ hby (by rw [hml]; rfl) hown (y := (⟨"com/example/stutter/stutter/values/Value$Kind", "comparableWith", "(Lcom/example/stutter/stutter/values/Value$Kind;)Z"⟩ : MethodName)) (z := (⟨"com/example/stutter/stutter/values/Value$Kind", "comparableWith", "(Lcom/example/stutter/stutter/values/Value$Kind;)Z"⟩ : MethodName)) (hw _ (List.mem_of_getElem? (i := 17) rfl)) (hw _ (List.mem_of_getElem? (i := 18) rfl)) (notFace_of_selects (args := #[]) (mvT hZ (hw _ (List.mem_of_getElem? (i := 20) rfl)))) (hw _ (List.mem_of_getElem? (i := 20) rfl)) (hw _ (List.mem_of_getElem? (i := 19) rfl)) (hw _ (List.mem_of_getElem? (i := 21) rfl)) (hw _ (List.mem_of_getElem? (i := 3) rfl)) (by decide) (own_rm_cmp l Z a0 hw [] w5 w2 w5 (1 : Int32) h43 n0 (Nat.le_trans (Nat.le_trans (Nat.le_trans (Nat.le_trans (Nat.le_trans (Nat.le_trans (Nat.le_trans Z0 E1.1) (Nat.le_of_eq (Wr.size W13).symm)) (Nat.le_of_eq (Wr.size W19).symm)) (Nat.le_of_eq (Wr.size W25).symm)) (Nat.le_of_eq (Wr.size W31).symm)) (Nat.le_of_eq (Wr.size W37).symm)) (Nat.le_of_eq (Wr.size W43).symm)) f47 (by simp [hn5_2, hn2_5])) f53 e88 (argsL := [(.ref w2)]) (stk := [(.ref w2), (.ref w5)]) (st := []) own_pd_0 rfl rfl rfl (W := 0) rfl (by decide) (by decide) (by decide) (by decide) at_110 rfl ?_
      intro T89 L89 v89 X89 q89
      obtain ⟨rfl, N89, e89⟩ := q89
      have M89 := Fr.app M88 N89
      show OG.Go _ _ _ _ _ _ _ (T89.setTop (mkF m 113 #[.val (.int p1), .val (.int p2), .val (.ref b1), .val (.int (2 : Int32)), .val (.int (5 : Int32)), .val (.int (1 : Int32)), .val (.int (1 : Int32)), .unset] [(.int (1 : Int32))]))
      refine OG.istore (Ls' := #[.val (.int p1), .val (.int p2), .val (.ref b1), .val (.int (2 : Int32)), .val (.int (5 : Int32)), .val (.int (1 : Int32)), .val (.int (1 : Int32)), .val (.int (1 : Int32))]) X89 hx hby at_113 rfl rfl ?_
      refine OG.iload X89 hx hby at_115 rfl rfl ?_
      refine OG.iload X89 hx hby at_117 rfl rfl ?_
      refine OG.icmpNo X89 hx hby at_119 (teq (by decide)).2 rfl ?_
      refine OG.iload X89 hx hby at_122 rfl rfl ?_
      refine OG.iload X89 hx hby at_124 rfl rfl ?_
      refine OG.icmpNo X89 hx hby at_126 (teq (by decide)).2 rfl ?_
      refine OG.iconst (v := (1 : Int32)) X89 hx hby at_129 (by decide) rfl ?_
      refine OG.goto (pc' := 134) X89 hx hby at_130 (by decide) (by decide) ?_
      refine OG.retZ X89 hx hby Bd.returns (by simp) at_134 Bd.notSynchronized (by decide) (by decide) ?_
      exact ⟨rfl, M89⟩
  · rw [hi49]
    refine OG.istoreN (Ls' := #[.val (.int p1), .val (.int p2), .val (.ref b1), .val (.int (3 : Int32)), .unset, .unset, .unset, .unset]) X43 hx hby at_49 rfl rfl ?_
    refine OG.iloadN X43 hx hby at_50 rfl rfl ?_
    refine OG.ldcI (v := (2147483647 : Int32)) X43 hx hZ hby hown (hw _ (List.mem_of_getElem? (i := 16) rfl)) at_51 rfl ?_
    refine OG.iand X43 hx hby at_53 rfl ?_
    refine OG.bipush (v := (6 : Int32)) X43 hx hby at_54 (by decide) rfl ?_
    refine OG.irem X43 hx hby at_56 (by decide) rfl ?_
    rcases own_mod6 p2 with hi57 | hi57 | hi57 | hi57 | hi57 | hi57
    · rw [hi57]
      refine OG.istore (Ls' := #[.val (.int p1), .val (.int p2), .val (.ref b1), .val (.int (3 : Int32)), .val (.int (0 : Int32)), .unset, .unset, .unset]) X43 hx hby at_57 rfl rfl ?_
      refine OG.iloadN X43 hx hby at_59 rfl rfl ?_
      refine OG.iload X43 hx hby at_60 rfl rfl ?_
      refine OG.icmpYes (pc' := 71) X43 hx hby at_62 (feq (by decide)).2 (by decide) (by decide) ?_
      refine OG.iloadN X43 hx hby at_71 rfl rfl ?_
      refine OG.iconst (v := (5 : Int32)) X43 hx hby at_72 (by decide) rfl ?_
      refine OG.icmpNo X43 hx hby at_73 (feq (by decide)).1 rfl ?_
      refine OG.iload X43 hx hby at_76 rfl rfl ?_
      refine OG.iconst (v := (5 : Int32)) X43 hx hby at_78 (by decide) rfl ?_
      refine OG.icmpYes (pc' := 88) X43 hx hby at_79 (feq (by decide)).2 (by decide) (by decide) ?_
      refine OG.iconst (v := (0 : Int32)) X43 hx hby at_88 (by decide) rfl ?_
      refine OG.istore (Ls' := #[.val (.int p1), .val (.int p2), .val (.ref b1), .val (.int (3 : Int32)), .val (.int (0 : Int32)), .val (.int (0 : Int32)), .unset, .unset]) X43 hx hby at_89 rfl rfl ?_
      refine OG.aloadN X43 hx hby at_91 rfl rfl rfl ?_
      refine OG.iloadN X43 hx hby at_92 rfl rfl ?_
      refine OG.lR X43 hx hZ hby rfl e43 f44 (by decide) rfl at_93 rfl ?_
      refine OG.aloadN X43 hx hby at_94 rfl rfl rfl ?_
      refine OG.iload X43 hx hby at_95 rfl rfl ?_
      refine OG.lR X43 hx hZ hby rfl e43 f44 (by decide) rfl at_97 rfl ?_
      refine OG.cV X43 hx hZ hby (by rw [hml]; rfl) hown (y := (⟨"com/example/stutter/stutter/values/Value$Kind", "comparableWith", "(Lcom/example/stutter/stutter/values/Value$Kind;)Z"⟩ : MethodName)) (z := (⟨"com/example/stutter/stutter/values/Value$Kind", "comparableWith", "(Lcom/example/stutter/stutter/values/Value$Kind;)Z"⟩ : MethodName)) (hw _ (List.mem_of_getElem? (i := 17) rfl)) (hw _ (List.mem_of_getElem? (i := 18) rfl)) (notFace_of_selects (args := #[]) (mvT hZ (hw _ (List.mem_of_getElem? (i := 20) rfl)))) (hw _ (List.mem_of_getElem? (i := 20) rfl)) (hw _ (List.mem_of_getElem? (i := 19) rfl)) (hw _ (List.mem_of_getElem? (i := 21) rfl)) (hw _ (List.mem_of_getElem? (i := 3) rfl)) (by decide) (own_rm_cmp l Z a0 hw [] w3 w0 w5 (0 : Int32) h43 n0 (Nat.le_trans (Nat.le_trans (Nat.le_trans (Nat.le_trans (Nat.le_trans (Nat.le_trans (Nat.le_trans Z0 E1.1) (Nat.le_of_eq (Wr.size W13).symm)) (Nat.le_of_eq (Wr.size W19).symm)) (Nat.le_of_eq (Wr.size W25).symm)) (Nat.le_of_eq (Wr.size W31).symm)) (Nat.le_of_eq (Wr.size W37).symm)) (Nat.le_of_eq (Wr.size W43).symm)) f47 (by simp [hn3_0, hn3_5, hn0_5])) f51 e43 (argsL := [(.ref w0)]) (stk := [(.ref w0), (.ref w3)]) (st := []) own_pd_0 rfl rfl rfl (W := 0) rfl (by decide) (by decide) (by decide) (by decide) at_98 rfl ?_
      intro T90 L90 v90 X90 q90
      obtain ⟨rfl, N90, e90⟩ := q90
      have M90 := Fr.app N46 N90
      show OG.Go _ _ _ _ _ _ _ (T90.setTop (mkF m 101 #[.val (.int p1), .val (.int p2), .val (.ref b1), .val (.int (3 : Int32)), .val (.int (0 : Int32)), .val (.int (0 : Int32)), .unset, .unset] [(.int (0 : Int32))]))
      refine OG.istore (Ls' := #[.val (.int p1), .val (.int p2), .val (.ref b1), .val (.int (3 : Int32)), .val (.int (0 : Int32)), .val (.int (0 : Int32)), .val (.int (0 : Int32)), .unset]) X90 hx hby at_101 rfl rfl ?_
      refine OG.aloadN X90 hx hby at_103 rfl rfl rfl ?_
      refine OG.iload X90 hx hby at_104 rfl rfl ?_
      refine OG.lR X90 hx hZ hby rfl e90 f44 (by decide) rfl at_106 rfl ?_
      refine OG.aloadN X90 hx hby at_107 rfl rfl rfl ?_
      refine OG.iloadN X90 hx hby at_108 rfl rfl ?_
      refine OG.lR X90 hx hZ hby rfl e90 f44 (by decide) rfl at_109 rfl ?_
      refine OG.cV X90 hx hZ hby (by rw [hml]; rfl) hown (y := (⟨"com/example/stutter/stutter/values/Value$Kind", "comparableWith", "(Lcom/example/stutter/stutter/values/Value$Kind;)Z"⟩ : MethodName)) (z := (⟨"com/example/stutter/stutter/values/Value$Kind", "comparableWith", "(Lcom/example/stutter/stutter/values/Value$Kind;)Z"⟩ : MethodName)) (hw _ (List.mem_of_getElem? (i := 17) rfl)) (hw _ (List.mem_of_getElem? (i := 18) rfl)) (notFace_of_selects (args := #[]) (mvT hZ (hw _ (List.mem_of_getElem? (i := 20) rfl)))) (hw _ (List.mem_of_getElem? (i := 20) rfl)) (hw _ (List.mem_of_getElem? (i := 19) rfl)) (hw _ (List.mem_of_getElem? (i := 21) rfl)) (hw _ (List.mem_of_getElem? (i := 3) rfl)) (by decide) (own_rm_cmp l Z a0 hw [] w0 w3 w5 (0 : Int32) h43 n0 (Nat.le_trans (Nat.le_trans (Nat.le_trans (Nat.le_trans (Nat.le_trans (Nat.le_trans (Nat.le_trans Z0 E1.1) (Nat.le_of_eq (Wr.size W13).symm)) (Nat.le_of_eq (Wr.size W19).symm)) (Nat.le_of_eq (Wr.size W25).symm)) (Nat.le_of_eq (Wr.size W31).symm)) (Nat.le_of_eq (Wr.size W37).symm)) (Nat.le_of_eq (Wr.size W43).symm)) f47 (by simp [hn0_3, hn0_5, hn3_5])) f48 e90 (argsL := [(.ref w3)]) (stk := [(.ref w3), (.ref w0)]) (st := []) own_pd_0 rfl rfl rfl (W := 0) rfl (by decide) (by decide) (by decide) (by decide) at_110 rfl ?_
      intro T91 L91 v91 X91 q91
      obtain ⟨rfl, N91, e91⟩ := q91
      have M91 := Fr.app M90 N91
      show OG.Go _ _ _ _ _ _ _ (T91.setTop (mkF m 113 #[.val (.int p1), .val (.int p2), .val (.ref b1), .val (.int (3 : Int32)), .val (.int (0 : Int32)), .val (.int (0 : Int32)), .val (.int (0 : Int32)), .unset] [(.int (0 : Int32))]))
      refine OG.istore (Ls' := #[.val (.int p1), .val (.int p2), .val (.ref b1), .val (.int (3 : Int32)), .val (.int (0 : Int32)), .val (.int (0 : Int32)), .val (.int (0 : Int32)), .val (.int (0 : Int32))]) X91 hx hby at_113 rfl rfl ?_
      refine OG.iload X91 hx hby at_115 rfl rfl ?_
      refine OG.iload X91 hx hby at_117 rfl rfl ?_
      refine OG.icmpNo X91 hx hby at_119 (teq (by decide)).2 rfl ?_
      refine OG.iload X91 hx hby at_122 rfl rfl ?_
      refine OG.iload X91 hx hby at_124 rfl rfl ?_
      refine OG.icmpNo X91 hx hby at_126 (teq (by decide)).2 rfl ?_
      refine OG.iconst (v := (1 : Int32)) X91 hx hby at_129 (by decide) rfl ?_
      refine OG.goto (pc' := 134) X91 hx hby at_130 (by decide) (by decide) ?_
      refine OG.retZ X91 hx hby Bd.returns (by simp) at_134 Bd.notSynchronized (by decide) (by decide) ?_
      exact ⟨rfl, M91⟩
    · rw [hi57]
      refine OG.istore (Ls' := #[.val (.int p1), .val (.int p2), .val (.ref b1), .val (.int (3 : Int32)), .val (.int (1 : Int32)), .unset, .unset, .unset]) X43 hx hby at_57 rfl rfl ?_
      refine OG.iloadN X43 hx hby at_59 rfl rfl ?_
      refine OG.iload X43 hx hby at_60 rfl rfl ?_
      refine OG.icmpYes (pc' := 71) X43 hx hby at_62 (feq (by decide)).2 (by decide) (by decide) ?_
      refine OG.iloadN X43 hx hby at_71 rfl rfl ?_
      refine OG.iconst (v := (5 : Int32)) X43 hx hby at_72 (by decide) rfl ?_
      refine OG.icmpNo X43 hx hby at_73 (feq (by decide)).1 rfl ?_
      refine OG.iload X43 hx hby at_76 rfl rfl ?_
      refine OG.iconst (v := (5 : Int32)) X43 hx hby at_78 (by decide) rfl ?_
      refine OG.icmpYes (pc' := 88) X43 hx hby at_79 (feq (by decide)).2 (by decide) (by decide) ?_
      refine OG.iconst (v := (0 : Int32)) X43 hx hby at_88 (by decide) rfl ?_
      refine OG.istore (Ls' := #[.val (.int p1), .val (.int p2), .val (.ref b1), .val (.int (3 : Int32)), .val (.int (1 : Int32)), .val (.int (0 : Int32)), .unset, .unset]) X43 hx hby at_89 rfl rfl ?_
      refine OG.aloadN X43 hx hby at_91 rfl rfl rfl ?_
      refine OG.iloadN X43 hx hby at_92 rfl rfl ?_
      refine OG.lR X43 hx hZ hby rfl e43 f44 (by decide) rfl at_93 rfl ?_
      refine OG.aloadN X43 hx hby at_94 rfl rfl rfl ?_
      refine OG.iload X43 hx hby at_95 rfl rfl ?_
      refine OG.lR X43 hx hZ hby rfl e43 f44 (by decide) rfl at_97 rfl ?_
      refine OG.cV X43 hx hZ hby (by rw [hml]; rfl) hown (y := (⟨"com/example/stutter/stutter/values/Value$Kind", "comparableWith", "(Lcom/example/stutter/stutter/values/Value$Kind;)Z"⟩ : MethodName)) (z := (⟨"com/example/stutter/stutter/values/Value$Kind", "comparableWith", "(Lcom/example/stutter/stutter/values/Value$Kind;)Z"⟩ : MethodName)) (hw _ (List.mem_of_getElem? (i := 17) rfl)) (hw _ (List.mem_of_getElem? (i := 18) rfl)) (notFace_of_selects (args := #[]) (mvT hZ (hw _ (List.mem_of_getElem? (i := 20) rfl)))) (hw _ (List.mem_of_getElem? (i := 20) rfl)) (hw _ (List.mem_of_getElem? (i := 19) rfl)) (hw _ (List.mem_of_getElem? (i := 21) rfl)) (hw _ (List.mem_of_getElem? (i := 3) rfl)) (by decide) (own_rm_cmp l Z a0 hw [] w3 w1 w5 (0 : Int32) h43 n0 (Nat.le_trans (Nat.le_trans (Nat.le_trans (Nat.le_trans (Nat.le_trans (Nat.le_trans (Nat.le_trans Z0 E1.1) (Nat.le_of_eq (Wr.size W13).symm)) (Nat.le_of_eq (Wr.size W19).symm)) (Nat.le_of_eq (Wr.size W25).symm)) (Nat.le_of_eq (Wr.size W31).symm)) (Nat.le_of_eq (Wr.size W37).symm)) (Nat.le_of_eq (Wr.size W43).symm)) f47 (by simp [hn3_1, hn3_5, hn1_5])) f51 e43 (argsL := [(.ref w1)]) (stk := [(.ref w1), (.ref w3)]) (st := []) own_pd_0 rfl rfl rfl (W := 0) rfl (by decide) (by decide) (by decide) (by decide) at_98 rfl ?_
      intro T92 L92 v92 X92 q92
      obtain ⟨rfl, N92, e92⟩ := q92
      have M92 := Fr.app N46 N92
      show OG.Go _ _ _ _ _ _ _ (T92.setTop (mkF m 101 #[.val (.int p1), .val (.int p2), .val (.ref b1), .val (.int (3 : Int32)), .val (.int (1 : Int32)), .val (.int (0 : Int32)), .unset, .unset] [(.int (0 : Int32))]))
      refine OG.istore (Ls' := #[.val (.int p1), .val (.int p2), .val (.ref b1), .val (.int (3 : Int32)), .val (.int (1 : Int32)), .val (.int (0 : Int32)), .val (.int (0 : Int32)), .unset]) X92 hx hby at_101 rfl rfl ?_
      refine OG.aloadN X92 hx hby at_103 rfl rfl rfl ?_
      refine OG.iload X92 hx hby at_104 rfl rfl ?_
      refine OG.lR X92 hx hZ hby rfl e92 f44 (by decide) rfl at_106 rfl ?_
      refine OG.aloadN X92 hx hby at_107 rfl rfl rfl ?_
      refine OG.iloadN X92 hx hby at_108 rfl rfl ?_
      refine OG.lR X92 hx hZ hby rfl e92 f44 (by decide) rfl at_109 rfl ?_
      refine OG.cV X92 hx hZ hby (by rw [hml]; rfl) hown (y := (⟨"com/example/stutter/stutter/values/Value$Kind", "comparableWith", "(Lcom/example/stutter/stutter/values/Value$Kind;)Z"⟩ : MethodName)) (z := (⟨"com/example/stutter/stutter/values/Value$Kind", "comparableWith", "(Lcom/example/stutter/stutter/values/Value$Kind;)Z"⟩ : MethodName)) (hw _ (List.mem_of_getElem? (i := 17) rfl)) (hw _ (List.mem_of_getElem? (i := 18) rfl)) (notFace_of_selects (args := #[]) (mvT hZ (hw _ (List.mem_of_getElem? (i := 20) rfl)))) (hw _ (List.mem_of_getElem? (i := 20) rfl)) (hw _ (List.mem_of_getElem? (i := 19) rfl)) (hw _ (List.mem_of_getElem? (i := 21) rfl)) (hw _ (List.mem_of_getElem? (i := 3) rfl)) (by decide) (own_rm_cmp l Z a0 hw [] w1 w3 w5 (0 : Int32) h43 n0 (Nat.le_trans (Nat.le_trans (Nat.le_trans (Nat.le_trans (Nat.le_trans (Nat.le_trans (Nat.le_trans Z0 E1.1) (Nat.le_of_eq (Wr.size W13).symm)) (Nat.le_of_eq (Wr.size W19).symm)) (Nat.le_of_eq (Wr.size W25).symm)) (Nat.le_of_eq (Wr.size W31).symm)) (Nat.le_of_eq (Wr.size W37).symm)) (Nat.le_of_eq (Wr.size W43).symm)) f47 (by simp [hn1_3, hn1_5, hn3_5])) f49 e92 (argsL := [(.ref w3)]) (stk := [(.ref w3), (.ref w1)]) (st := []) own_pd_0 rfl rfl rfl (W := 0) rfl (by decide) (by decide) (by decide) (by decide) at_110 rfl ?_
      intro T93 L93 v93 X93 q93
      obtain ⟨rfl, N93, e93⟩ := q93
      have M93 := Fr.app M92 N93
      show OG.Go _ _ _ _ _ _ _ (T93.setTop (mkF m 113 #[.val (.int p1), .val (.int p2), .val (.ref b1), .val (.int (3 : Int32)), .val (.int (1 : Int32)), .val (.int (0 : Int32)), .val (.int (0 : Int32)), .unset] [(.int (0 : Int32))]))
      refine OG.istore (Ls' := #[.val (.int p1), .val (.int p2), .val (.ref b1), .val (.int (3 : Int32)), .val (.int (1 : Int32)), .val (.int (0 : Int32)), .val (.int (0 : Int32)), .val (.int (0 : Int32))]) X93 hx hby at_113 rfl rfl ?_
      refine OG.iload X93 hx hby at_115 rfl rfl ?_
      refine OG.iload X93 hx hby at_117 rfl rfl ?_
      refine OG.icmpNo X93 hx hby at_119 (teq (by decide)).2 rfl ?_
      refine OG.iload X93 hx hby at_122 rfl rfl ?_
      refine OG.iload X93 hx hby at_124 rfl rfl ?_
      refine OG.icmpNo X93 hx hby at_126 (teq (by decide)).2 rfl ?_
      refine OG.iconst (v := (1 : Int32)) X93 hx hby at_129 (by decide) rfl ?_
      refine OG.goto (pc' := 134) X93 hx hby at_130 (by decide) (by decide) ?_
      refine OG.retZ X93 hx hby Bd.returns (by simp) at_134 Bd.notSynchronized (by decide) (by decide) ?_
      exact ⟨rfl, M93⟩
    · rw [hi57]
      refine OG.istore (Ls' := #[.val (.int p1), .val (.int p2), .val (.ref b1), .val (.int (3 : Int32)), .val (.int (2 : Int32)), .unset, .unset, .unset]) X43 hx hby at_57 rfl rfl ?_
      refine OG.iloadN X43 hx hby at_59 rfl rfl ?_
      refine OG.iload X43 hx hby at_60 rfl rfl ?_
      refine OG.icmpYes (pc' := 71) X43 hx hby at_62 (feq (by decide)).2 (by decide) (by decide) ?_
      refine OG.iloadN X43 hx hby at_71 rfl rfl ?_
      refine OG.iconst (v := (5 : Int32)) X43 hx hby at_72 (by decide) rfl ?_
      refine OG.icmpNo X43 hx hby at_73 (feq (by decide)).1 rfl ?_
      refine OG.iload X43 hx hby at_76 rfl rfl ?_
      refine OG.iconst (v := (5 : Int32)) X43 hx hby at_78 (by decide) rfl ?_
      refine OG.icmpYes (pc' := 88) X43 hx hby at_79 (feq (by decide)).2 (by decide) (by decide) ?_
      refine OG.iconst (v := (0 : Int32)) X43 hx hby at_88 (by decide) rfl ?_
      refine OG.istore (Ls' := #[.val (.int p1), .val (.int p2), .val (.ref b1), .val (.int (3 : Int32)), .val (.int (2 : Int32)), .val (.int (0 : Int32)), .unset, .unset]) X43 hx hby at_89 rfl rfl ?_
      refine OG.aloadN X43 hx hby at_91 rfl rfl rfl ?_
      refine OG.iloadN X43 hx hby at_92 rfl rfl ?_
      refine OG.lR X43 hx hZ hby rfl e43 f44 (by decide) rfl at_93 rfl ?_
      refine OG.aloadN X43 hx hby at_94 rfl rfl rfl ?_
      refine OG.iload X43 hx hby at_95 rfl rfl ?_
      refine OG.lR X43 hx hZ hby rfl e43 f44 (by decide) rfl at_97 rfl ?_
      refine OG.cV X43 hx hZ hby (by rw [hml]; rfl) hown (y := (⟨"com/example/stutter/stutter/values/Value$Kind", "comparableWith", "(Lcom/example/stutter/stutter/values/Value$Kind;)Z"⟩ : MethodName)) (z := (⟨"com/example/stutter/stutter/values/Value$Kind", "comparableWith", "(Lcom/example/stutter/stutter/values/Value$Kind;)Z"⟩ : MethodName)) (hw _ (List.mem_of_getElem? (i := 17) rfl)) (hw _ (List.mem_of_getElem? (i := 18) rfl)) (notFace_of_selects (args := #[]) (mvT hZ (hw _ (List.mem_of_getElem? (i := 20) rfl)))) (hw _ (List.mem_of_getElem? (i := 20) rfl)) (hw _ (List.mem_of_getElem? (i := 19) rfl)) (hw _ (List.mem_of_getElem? (i := 21) rfl)) (hw _ (List.mem_of_getElem? (i := 3) rfl)) (by decide) (own_rm_cmp l Z a0 hw [] w3 w2 w5 (0 : Int32) h43 n0 (Nat.le_trans (Nat.le_trans (Nat.le_trans (Nat.le_trans (Nat.le_trans (Nat.le_trans (Nat.le_trans Z0 E1.1) (Nat.le_of_eq (Wr.size W13).symm)) (Nat.le_of_eq (Wr.size W19).symm)) (Nat.le_of_eq (Wr.size W25).symm)) (Nat.le_of_eq (Wr.size W31).symm)) (Nat.le_of_eq (Wr.size W37).symm)) (Nat.le_of_eq (Wr.size W43).symm)) f47 (by simp [hn3_2, hn3_5, hn2_5])) f51 e43 (argsL := [(.ref w2)]) (stk := [(.ref w2), (.ref w3)]) (st := []) own_pd_0 rfl rfl rfl (W := 0) rfl (by decide) (by decide) (by decide) (by decide) at_98 rfl ?_
      intro T94 L94 v94 X94 q94
      obtain ⟨rfl, N94, e94⟩ := q94
      have M94 := Fr.app N46 N94
      show OG.Go _ _ _ _ _ _ _ (T94.setTop (mkF m 101 #[.val (.int p1), .val (.int p2), .val (.ref b1), .val (.int (3 : Int32)), .val (.int (2 : Int32)), .val (.int (0 : Int32)), .unset, .unset] [(.int (0 : Int32))]))
      refine OG.istore (Ls' := #[.val (.int p1), .val (.int p2), .val (.ref b1), .val (.int (3 : Int32)), .val (.int (2 : Int32)), .val (.int (0 : Int32)), .val (.int (0 : Int32)), .unset]) X94 hx hby at_101 rfl rfl ?_
      refine OG.aloadN X94 hx hby at_103 rfl rfl rfl ?_
      refine OG.iload X94 hx hby at_104 rfl rfl ?_
      refine OG.lR X94 hx hZ hby rfl e94 f44 (by decide) rfl at_106 rfl ?_
      refine OG.aloadN X94 hx hby at_107 rfl rfl rfl ?_
      refine OG.iloadN X94 hx hby at_108 rfl rfl ?_
      refine OG.lR X94 hx hZ hby rfl e94 f44 (by decide) rfl at_109 rfl ?_
      refine OG.cV X94 hx hZ hby (by rw [hml]; rfl) hown (y := (⟨"com/example/stutter/stutter/values/Value$Kind", "comparableWith", "(Lcom/example/stutter/stutter/values/Value$Kind;)Z"⟩ : MethodName)) (z := (⟨"com/example/stutter/stutter/values/Value$Kind", "comparableWith", "(Lcom/example/stutter/stutter/values/Value$Kind;)Z"⟩ : MethodName)) (hw _ (List.mem_of_getElem? (i := 17) rfl)) (hw _ (List.mem_of_getElem? (i := 18) rfl)) (notFace_of_selects (args := #[]) (mvT hZ (hw _ (List.mem_of_getElem? (i := 20) rfl)))) (hw _ (List.mem_of_getElem? (i := 20) rfl)) (hw _ (List.mem_of_getElem? (i := 19) rfl)) (hw _ (List.mem_of_getElem? (i := 21) rfl)) (hw _ (List.mem_of_getElem? (i := 3) rfl)) (by decide) (own_rm_cmp l Z a0 hw [] w2 w3 w5 (0 : Int32) h43 n0 (Nat.le_trans (Nat.le_trans (Nat.le_trans (Nat.le_trans (Nat.le_trans (Nat.le_trans (Nat.le_trans Z0 E1.1) (Nat.le_of_eq (Wr.size W13).symm)) (Nat.le_of_eq (Wr.size W19).symm)) (Nat.le_of_eq (Wr.size W25).symm)) (Nat.le_of_eq (Wr.size W31).symm)) (Nat.le_of_eq (Wr.size W37).symm)) (Nat.le_of_eq (Wr.size W43).symm)) f47 (by simp [hn2_3, hn2_5, hn3_5])) f50 e94 (argsL := [(.ref w3)]) (stk := [(.ref w3), (.ref w2)]) (st := []) own_pd_0 rfl rfl rfl (W := 0) rfl (by decide) (by decide) (by decide) (by decide) at_110 rfl ?_
      intro T95 L95 v95 X95 q95
      obtain ⟨rfl, N95, e95⟩ := q95
      have M95 := Fr.app M94 N95
      show OG.Go _ _ _ _ _ _ _ (T95.setTop (mkF m 113 #[.val (.int p1), .val (.int p2), .val (.ref b1), .val (.int (3 : Int32)), .val (.int (2 : Int32)), .val (.int (0 : Int32)), .val (.int (0 : Int32)), .unset] [(.int (0 : Int32))]))
      refine OG.istore (Ls' := #[.val (.int p1), .val (.int p2), .val (.ref b1), .val (.int (3 : Int32)), .val (.int (2 : Int32)), .val (.int (0 : Int32)), .val (.int (0 : Int32)), .val (.int (0 : Int32))]) X95 hx hby at_113 rfl rfl ?_
      refine OG.iload X95 hx hby at_115 rfl rfl ?_
      refine OG.iload X95 hx hby at_117 rfl rfl ?_
      refine OG.icmpNo X95 hx hby at_119 (teq (by decide)).2 rfl ?_
      refine OG.iload X95 hx hby at_122 rfl rfl ?_
      refine OG.iload X95 hx hby at_124 rfl rfl ?_
      refine OG.icmpNo X95 hx hby at_126 (teq (by decide)).2 rfl ?_
      refine OG.iconst (v := (1 : Int32)) X95 hx hby at_129 (by decide) rfl ?_
      refine OG.goto (pc' := 134) X95 hx hby at_130 (by decide) (by decide) ?_
      refine OG.retZ X95 hx hby Bd.returns (by simp) at_134 Bd.notSynchronized (by decide) (by decide) ?_
      exact ⟨rfl, M95⟩
    · rw [hi57]
      refine OG.istore (Ls' := #[.val (.int p1), .val (.int p2), .val (.ref b1), .val (.int (3 : Int32)), .val (.int (3 : Int32)), .unset, .unset, .unset]) X43 hx hby at_57 rfl rfl ?_
      refine OG.iloadN X43 hx hby at_59 rfl rfl ?_
      refine OG.iload X43 hx hby at_60 rfl rfl ?_
      refine OG.icmpNo X43 hx hby at_62 (teq (by decide)).2 rfl ?_
      refine OG.iconst (v := (1 : Int32)) X43 hx hby at_65 (by decide) rfl ?_
      refine OG.istore (Ls' := #[.val (.int p1), .val (.int p2), .val (.ref b1), .val (.int (3 : Int32)), .val (.int (3 : Int32)), .val (.int (1 : Int32)), .unset, .unset]) X43 hx hby at_66 rfl rfl ?_
      refine OG.goto (pc' := 91) X43 hx hby at_68 (by decide) (by decide) ?_
      refine OG.aloadN X43 hx hby at_91 rfl rfl rfl ?_
      refine OG.iloadN X43 hx hby at_92 rfl rfl ?_
      refine OG.lR X43 hx hZ hby rfl e43 f44 (by decide) rfl at_93 rfl ?_
      refine OG.aloadN X43 hx hby at_94 rfl rfl rfl ?_
      refine OG.iload X43 hx hby at_95 rfl rfl ?_
      refine OG.lR X43 hx hZ hby rfl e43 f44 (by decide) rfl at_97 rfl ?_
      refine OG.cV X43 hx hZ hby (by rw [hml]; rfl) hown (y := (⟨"com/example/stutter/stutter/values/Value$Kind", "comparableWith", "(Lcom/example/stutter/stutter/values/Value$Kind;)Z"⟩ : MethodName)) (z := (⟨"com/example/stutter/stutter/values/Value$Kind", "comparableWith", "(Lcom/example/stutter/stutter/values/Value$Kind;)Z"⟩ : MethodName)) (hw _ (List.mem_of_getElem? (i := 17) rfl)) (hw _ (List.mem_of_getElem? (i := 18) rfl)) (notFace_of_selects (args := #[]) (mvT hZ (hw _ (List.mem_of_getElem? (i := 20) rfl)))) (hw _ (List.mem_of_getElem? (i := 20) rfl)) (hw _ (List.mem_of_getElem? (i := 19) rfl)) (hw _ (List.mem_of_getElem? (i := 21) rfl)) (hw _ (List.mem_of_getElem? (i := 3) rfl)) (by decide) (own_rm_cmp l Z a0 hw [] w3 w3 w5 (1 : Int32) h43 n0 (Nat.le_trans (Nat.le_trans (Nat.le_trans (Nat.le_trans (Nat.le_trans (Nat.le_trans (Nat.le_trans Z0 E1.1) (Nat.le_of_eq (Wr.size W13).symm)) (Nat.le_of_eq (Wr.size W19).symm)) (Nat.le_of_eq (Wr.size W25).symm)) (Nat.le_of_eq (Wr.size W31).symm)) (Nat.le_of_eq (Wr.size W37).symm)) (Nat.le_of_eq (Wr.size W43).symm)) f47 (by simp)) f51 e43 (argsL := [(.ref w3)]) (stk := [(.ref w3), (.ref w3)]) (st := []) own_pd_0 rfl rfl rfl (W := 0) rfl (by decide) (by decide) (by decide) (by decide) at_98 rfl ?_
      intro T96 L96 v96 X96 q96
      obtain ⟨rfl, N96, e96⟩ := q96
      have M96 := Fr.app N46 N96
      show OG.Go _ _ _ _ _ _ _ (T96.setTop (mkF m 101 #[.val (.int p1), .val (.int p2), .val (.ref b1), .val (.int (3 : Int32)), .val (.int (3 : Int32)), .val (.int (1 : Int32)), .unset, .unset] [(.int (1 : Int32))]))
      refine OG.istore (Ls' := #[.val (.int p1), .val (.int p2), .val (.ref b1), .val (.int (3 : Int32)), .val (.int (3 : Int32)), .val (.int (1 : Int32)), .val (.int (1 : Int32)), .unset]) X96 hx hby at_101 rfl rfl ?_
      refine OG.aloadN X96 hx hby at_103 rfl rfl rfl ?_
      refine OG.iload X96 hx hby at_104 rfl rfl ?_
      refine OG.lR X96 hx hZ hby rfl e96 f44 (by decide) rfl at_106 rfl ?_
      refine OG.aloadN X96 hx hby at_107 rfl rfl rfl ?_
      refine OG.iloadN X96 hx hby at_108 rfl rfl ?_
      refine OG.lR X96 hx hZ hby rfl e96 f44 (by decide) rfl at_109 rfl ?_
      refine OG.cV X96 hx hZ hby (by rw [hml]; rfl) hown (y := (⟨"com/example/stutter/stutter/values/Value$Kind", "comparableWith", "(Lcom/example/stutter/stutter/values/Value$Kind;)Z"⟩ : MethodName)) (z := (⟨"com/example/stutter/stutter/values/Value$Kind", "comparableWith", "(Lcom/example/stutter/stutter/values/Value$Kind;)Z"⟩ : MethodName)) (hw _ (List.mem_of_getElem? (i := 17) rfl)) (hw _ (List.mem_of_getElem? (i := 18) rfl)) (notFace_of_selects (args := #[]) (mvT hZ (hw _ (List.mem_of_getElem? (i := 20) rfl)))) (hw _ (List.mem_of_getElem? (i := 20) rfl)) (hw _ (List.mem_of_getElem? (i := 19) rfl)) (hw _ (List.mem_of_getElem? (i := 21) rfl)) (hw _ (List.mem_of_getElem? (i := 3) rfl)) (by decide) (own_rm_cmp l Z a0 hw [] w3 w3 w5 (1 : Int32) h43 n0 (Nat.le_trans (Nat.le_trans (Nat.le_trans (Nat.le_trans (Nat.le_trans (Nat.le_trans (Nat.le_trans Z0 E1.1) (Nat.le_of_eq (Wr.size W13).symm)) (Nat.le_of_eq (Wr.size W19).symm)) (Nat.le_of_eq (Wr.size W25).symm)) (Nat.le_of_eq (Wr.size W31).symm)) (Nat.le_of_eq (Wr.size W37).symm)) (Nat.le_of_eq (Wr.size W43).symm)) f47 (by simp)) f51 e96 (argsL := [(.ref w3)]) (stk := [(.ref w3), (.ref w3)]) (st := []) own_pd_0 rfl rfl rfl (W := 0) rfl (by decide) (by decide) (by decide) (by decide) at_110 rfl ?_
      intro T97 L97 v97 X97 q97
      obtain ⟨rfl, N97, e97⟩ := q97
      have M97 := Fr.app M96 N97
      show OG.Go _ _ _ _ _ _ _ (T97.setTop (mkF m 113 #[.val (.int p1), .val (.int p2), .val (.ref b1), .val (.int (3 : Int32)), .val (.int (3 : Int32)), .val (.int (1 : Int32)), .val (.int (1 : Int32)), .unset] [(.int (1 : Int32))]))
      refine OG.istore (Ls' := #[.val (.int p1), .val (.int p2), .val (.ref b1), .val (.int (3 : Int32)), .val (.int (3 : Int32)), .val (.int (1 : Int32)), .val (.int (1 : Int32)), .val (.int (1 : Int32))]) X97 hx hby at_113 rfl rfl ?_
      refine OG.iload X97 hx hby at_115 rfl rfl ?_
      refine OG.iload X97 hx hby at_117 rfl rfl ?_
      refine OG.icmpNo X97 hx hby at_119 (teq (by decide)).2 rfl ?_
      refine OG.iload X97 hx hby at_122 rfl rfl ?_
      refine OG.iload X97 hx hby at_124 rfl rfl ?_
      refine OG.icmpNo X97 hx hby at_126 (teq (by decide)).2 rfl ?_
      refine OG.iconst (v := (1 : Int32)) X97 hx hby at_129 (by decide) rfl ?_
      refine OG.goto (pc' := 134) X97 hx hby at_130 (by decide) (by decide) ?_
      refine OG.retZ X97 hx hby Bd.returns (by simp) at_134 Bd.notSynchronized (by decide) (by decide) ?_
      exact ⟨rfl, M97⟩
    · rw [hi57]
      refine OG.istore (Ls' := #[.val (.int p1), .val (.int p2), .val (.ref b1), .val (.int (3 : Int32)), .val (.int (4 : Int32)), .unset, .unset, .unset]) X43 hx hby at_57 rfl rfl ?_
      refine OG.iloadN X43 hx hby at_59 rfl rfl ?_
      refine OG.iload X43 hx hby at_60 rfl rfl ?_
      refine OG.icmpYes (pc' := 71) X43 hx hby at_62 (feq (by decide)).2 (by decide) (by decide) ?_
      refine OG.iloadN X43 hx hby at_71 rfl rfl ?_
      refine OG.iconst (v := (5 : Int32)) X43 hx hby at_72 (by decide) rfl ?_
      refine OG.icmpNo X43 hx hby at_73 (feq (by decide)).1 rfl ?_
      refine OG.iload X43 hx hby at_76 rfl rfl ?_
      refine OG.iconst (v := (5 : Int32)) X43 hx hby at_78 (by decide) rfl ?_
      refine OG.icmpYes (pc' := 88) X43 hx hby at_79 (feq (by decide)).2 (by decide) (by decide) ?_
      refine OG.iconst (v := (0 : Int32)) X43 hx hby at_88 (by decide) rfl ?_
      refine OG.istore (Ls' := #[.val (.int p1), .val (.int p2), .val (.ref b1), .val (.int (3 : Int32)), .val (.int (4 : Int32)), .val (.int (0 : Int32)), .unset, .unset]) X43 hx hby at_89 rfl rfl ?_
      refine OG.aloadN X43 hx hby at_91 rfl rfl rfl ?_
      refine OG.iloadN X43 hx hby at_92 rfl rfl ?_
      refine OG.lR X43 hx hZ hby rfl e43 f44 (by decide) rfl at_93 rfl ?_
      refine OG.aloadN X43 hx hby at_94 rfl rfl rfl ?_
      refine OG.iload X43 hx hby at_95 rfl rfl ?_
      refine OG.lR X43 hx hZ hby rfl e43 f44 (by decide) rfl at_97 rfl ?_
      refine OG.cV X43 hx hZ hby (by rw [hml]; rfl) hown (y := (⟨"com/example/stutter/stutter/values/Value$Kind", "comparableWith", "(Lcom/example/stutter/stutter/values/Value$Kind;)Z"⟩ : MethodName)) (z := (⟨"com/example/stutter/stutter/values/Value$Kind", "comparableWith", "(Lcom/example/stutter/stutter/values/Value$Kind;)Z"⟩ : MethodName)) (hw _ (List.mem_of_getElem? (i := 17) rfl)) (hw _ (List.mem_of_getElem? (i := 18) rfl)) (notFace_of_selects (args := #[]) (mvT hZ (hw _ (List.mem_of_getElem? (i := 20) rfl)))) (hw _ (List.mem_of_getElem? (i := 20) rfl)) (hw _ (List.mem_of_getElem? (i := 19) rfl)) (hw _ (List.mem_of_getElem? (i := 21) rfl)) (hw _ (List.mem_of_getElem? (i := 3) rfl)) (by decide) (own_rm_cmp l Z a0 hw [] w3 w4 w5 (0 : Int32) h43 n0 (Nat.le_trans (Nat.le_trans (Nat.le_trans (Nat.le_trans (Nat.le_trans (Nat.le_trans (Nat.le_trans Z0 E1.1) (Nat.le_of_eq (Wr.size W13).symm)) (Nat.le_of_eq (Wr.size W19).symm)) (Nat.le_of_eq (Wr.size W25).symm)) (Nat.le_of_eq (Wr.size W31).symm)) (Nat.le_of_eq (Wr.size W37).symm)) (Nat.le_of_eq (Wr.size W43).symm)) f47 (by simp [hn3_4, hn3_5, hn4_5])) f51 e43 (argsL := [(.ref w4)]) (stk := [(.ref w4), (.ref w3)]) (st := []) own_pd_0 rfl rfl rfl (W := 0) rfl (by decide) (by decide) (by decide) (by decide) at_98 rfl ?_
      intro T98 L98 v98 X98 q98
      obtain ⟨rfl, N98, e98⟩ := q98
      have M98 := Fr.app N46 N98
      show OG.Go _ _ _ _ _ _ _ (T98.setTop (mkF m 101 #[.val (.int p1), .val (.int p2), .val (.ref b1), .val (.int (3 : Int32)), .val (.int (4 : Int32)), .val (.int (0 : Int32)), .unset, .unset] [(.int (0 : Int32))]))
      refine OG.istore (Ls' := #[.val (.int p1), .val (.int p2), .val (.ref b1), .val (.int (3 : Int32)), .val (.int (4 : Int32)), .val (.int (0 : Int32)), .val (.int (0 : Int32)), .unset]) X98 hx hby at_101 rfl rfl ?_
      refine OG.aloadN X98 hx hby at_103 rfl rfl rfl ?_
      refine OG.iload X98 hx hby at_104 rfl rfl ?_
      refine OG.lR X98 hx hZ hby rfl e98 f44 (by decide) rfl at_106 rfl ?_
      refine OG.aloadN X98 hx hby at_107 rfl rfl rfl ?_
      refine OG.iloadN X98 hx hby at_108 rfl rfl ?_
      refine OG.lR X98 hx hZ hby rfl e98 f44 (by decide) rfl at_109 rfl ?_
      refine OG.cV X98 hx hZ hby (by rw [hml]; rfl) hown (y := (⟨"com/example/stutter/stutter/values/Value$Kind", "comparableWith", "(Lcom/example/stutter/stutter/values/Value$Kind;)Z"⟩ : MethodName)) (z := (⟨"com/example/stutter/stutter/values/Value$Kind", "comparableWith", "(Lcom/example/stutter/stutter/values/Value$Kind;)Z"⟩ : MethodName)) (hw _ (List.mem_of_getElem? (i := 17) rfl)) (hw _ (List.mem_of_getElem? (i := 18) rfl)) (notFace_of_selects (args := #[]) (mvT hZ (hw _ (List.mem_of_getElem? (i := 20) rfl)))) (hw _ (List.mem_of_getElem? (i := 20) rfl)) (hw _ (List.mem_of_getElem? (i := 19) rfl)) (hw _ (List.mem_of_getElem? (i := 21) rfl)) (hw _ (List.mem_of_getElem? (i := 3) rfl)) (by decide) (own_rm_cmp l Z a0 hw [] w4 w3 w5 (0 : Int32) h43 n0 (Nat.le_trans (Nat.le_trans (Nat.le_trans (Nat.le_trans (Nat.le_trans (Nat.le_trans (Nat.le_trans Z0 E1.1) (Nat.le_of_eq (Wr.size W13).symm)) (Nat.le_of_eq (Wr.size W19).symm)) (Nat.le_of_eq (Wr.size W25).symm)) (Nat.le_of_eq (Wr.size W31).symm)) (Nat.le_of_eq (Wr.size W37).symm)) (Nat.le_of_eq (Wr.size W43).symm)) f47 (by simp [hn4_3, hn4_5, hn3_5])) f52 e98 (argsL := [(.ref w3)]) (stk := [(.ref w3), (.ref w4)]) (st := []) own_pd_0 rfl rfl rfl (W := 0) rfl (by decide) (by decide) (by decide) (by decide) at_110 rfl ?_
      intro T99 L99 v99 X99 q99
      obtain ⟨rfl, N99, e99⟩ := q99
      have M99 := Fr.app M98 N99
      show OG.Go _ _ _ _ _ _ _ (T99.setTop (mkF m 113 #[.val (.int p1), .val (.int p2), .val (.ref b1), .val (.int (3 : Int32)), .val (.int (4 : Int32)), .val (.int (0 : Int32)), .val (.int (0 : Int32)), .unset] [(.int (0 : Int32))]))
      refine OG.istore (Ls' := #[.val (.int p1), .val (.int p2), .val (.ref b1), .val (.int (3 : Int32)), .val (.int (4 : Int32)), .val (.int (0 : Int32)), .val (.int (0 : Int32)), .val (.int (0 : Int32))]) X99 hx hby at_113 rfl rfl ?_
      refine OG.iload X99 hx hby at_115 rfl rfl ?_
      refine OG.iload X99 hx hby at_117 rfl rfl ?_
      refine OG.icmpNo X99 hx hby at_119 (teq (by decide)).2 rfl ?_
      refine OG.iload X99 hx hby at_122 rfl rfl ?_
      refine OG.iload X99 hx hby at_124 rfl rfl ?_
      refine OG.icmpNo X99 hx hby at_126 (teq (by decide)).2 rfl ?_
      refine OG.iconst (v := (1 : Int32)) X99 hx hby at_129 (by decide) rfl ?_
      refine OG.goto (pc' := 134) X99 hx hby at_130 (by decide) (by decide) ?_
      refine OG.retZ X99 hx hby Bd.returns (by simp) at_134 Bd.notSynchronized (by decide) (by decide) ?_
      exact ⟨rfl, M99⟩
    · rw [hi57]
      refine OG.istore (Ls' := #[.val (.int p1), .val (.int p2), .val (.ref b1), .val (.int (3 : Int32)), .val (.int (5 : Int32)), .unset, .unset, .unset]) X43 hx hby at_57 rfl rfl ?_
      refine OG.iloadN X43 hx hby at_59 rfl rfl ?_
      refine OG.iload X43 hx hby at_60 rfl rfl ?_
      refine OG.icmpYes (pc' := 71) X43 hx hby at_62 (feq (by decide)).2 (by decide) (by decide) ?_
      refine OG.iloadN X43 hx hby at_71 rfl rfl ?_
      refine OG.iconst (v := (5 : Int32)) X43 hx hby at_72 (by decide) rfl ?_
      refine OG.icmpNo X43 hx hby at_73 (feq (by decide)).1 rfl ?_
      refine OG.iload X43 hx hby at_76 rfl rfl ?_
      refine OG.iconst (v := (5 : Int32)) X43 hx hby at_78 (by decide) rfl ?_
      refine OG.icmpNo X43 hx hby at_79 (teq (by decide)).2 rfl ?_
      refine OG.iconst (v := (1 : Int32)) X43 hx hby at_82 (by decide) rfl ?_
      refine OG.istore (Ls' := #[.val (.int p1), .val (.int p2), .val (.ref b1), .val (.int (3 : Int32)), .val (.int (5 : Int32)), .val (.int (1 : Int32)), .unset, .unset]) X43 hx hby at_83 rfl rfl ?_
      refine OG.goto (pc' := 91) X43 hx hby at_85 (by decide) (by decide) ?_
      refine OG.aloadN X43 hx hby at_91 rfl rfl rfl ?_
      refine OG.iloadN X43 hx hby at_92 rfl rfl ?_
      refine OG.lR X43 hx hZ hby rfl e43 f44 (by decide) rfl at_93 rfl ?_
      refine OG.aloadN X43 hx hby at_94 rfl rfl rfl ?_
      refine OG.iload X43 hx hby at_95 rfl rfl ?_
      refine OG.lR X43 hx hZ hby rfl e43 f44 (by decide) rfl at_97 rfl ?_
      refine OG.cV X43 hx hZ hby (by rw [hml]; rfl) hown (y := (⟨"com/example/stutter/stutter/values/Value$Kind", "comparableWith", "(Lcom/example/stutter/stutter/values/Value$Kind;)Z"⟩ : MethodName)) (z := (⟨"com/example/stutter/stutter/values/Value$Kind", "comparableWith", "(Lcom/example/stutter/stutter/values/Value$Kind;)Z"⟩ : MethodName)) (hw _ (List.mem_of_getElem? (i := 17) rfl)) (hw _ (List.mem_of_getElem? (i := 18) rfl)) (notFace_of_selects (args := #[]) (mvT hZ (hw _ (List.mem_of_getElem? (i := 20) rfl)))) (hw _ (List.mem_of_getElem? (i := 20) rfl)) (hw _ (List.mem_of_getElem? (i := 19) rfl)) (hw _ (List.mem_of_getElem? (i := 21) rfl)) (hw _ (List.mem_of_getElem? (i := 3) rfl)) (by decide) (own_rm_cmp l Z a0 hw [] w3 w5 w5 (1 : Int32) h43 n0 (Nat.le_trans (Nat.le_trans (Nat.le_trans (Nat.le_trans (Nat.le_trans (Nat.le_trans (Nat.le_trans Z0 E1.1) (Nat.le_of_eq (Wr.size W13).symm)) (Nat.le_of_eq (Wr.size W19).symm)) (Nat.le_of_eq (Wr.size W25).symm)) (Nat.le_of_eq (Wr.size W31).symm)) (Nat.le_of_eq (Wr.size W37).symm)) (Nat.le_of_eq (Wr.size W43).symm)) f47 (by simp [hn3_5])) f51 e43 (argsL := [(.ref w5)]) (stk := [(.ref w5), (.ref w3)]) (st := []) own_pd_0 rfl rfl rfl (W := 0) rfl (by decide) (by decide) (by decide) (by decide) at_98 rfl ?_
      intro T100 L100 v100 X100 q100
      obtain ⟨rfl, N100, e100⟩ := q100
      have M100 := Fr.app N46 N100
      show OG.Go _ _ _ _ _ _ _ (T100.setTop (mkF m 101 #[.val (.int p1), .val (.int p2), .val (.ref b1), .val (.int (3 : Int32)), .val (.int (5 : Int32)), .val (.int (1 : Int32)), .unset, .unset] [(.int (1 : Int32))]))
      refine OG.istore (Ls' := #[.val (.int p1), .val (.int p2), .val (.ref b1), .val (.int (3 : Int32)), .val (.int (5 : Int32)), .val (.int (1 : Int32)), .val (.int (1 : Int32)), .unset]) X100 hx hby at_101 rfl rfl ?_
      refine OG.aloadN X100 hx hby at_103 rfl rfl rfl ?_
      refine OG.iload X100 hx hby at_104 rfl rfl ?_
      refine OG.lR X100 hx hZ hby rfl e100 f44 (by decide) rfl at_106 rfl ?_
      refine OG.aloadN X100 hx hby at_107 rfl rfl rfl ?_
      refine OG.iloadN X100 hx hby at_108 rfl rfl ?_
      refine OG.lR X100 hx hZ hby rfl e100 f44 (by decide) rfl at_109 rfl ?_
      refine OG.cV X100 hx hZ hby (by rw [hml]; rfl) hown (y := (⟨"com/example/stutter/stutter/values/Value$Kind", "comparableWith", "(Lcom/example/stutter/stutter/values/Value$Kind;)Z"⟩ : MethodName)) (z := (⟨"com/example/stutter/stutter/values/Value$Kind", "comparableWith", "(Lcom/example/stutter/stutter/values/Value$Kind;)Z"⟩ : MethodName)) (hw _ (List.mem_of_getElem? (i := 17) rfl)) (hw _ (List.mem_of_getElem? (i := 18) rfl)) (notFace_of_selects (args := #[]) (mvT hZ (hw _ (List.mem_of_getElem? (i := 20) rfl)))) (hw _ (List.mem_of_getElem? (i := 20) rfl)) (hw _ (List.mem_of_getElem? (i := 19) rfl)) (hw _ (List.mem_of_getElem? (i := 21) rfl)) (hw _ (List.mem_of_getElem? (i := 3) rfl)) (by decide) (own_rm_cmp l Z a0 hw [] w5 w3 w5 (1 : Int32) h43 n0 (Nat.le_trans (Nat.le_trans (Nat.le_trans (Nat.le_trans (Nat.le_trans (Nat.le_trans (Nat.le_trans Z0 E1.1) (Nat.le_of_eq (Wr.size W13).symm)) (Nat.le_of_eq (Wr.size W19).symm)) (Nat.le_of_eq (Wr.size W25).symm)) (Nat.le_of_eq (Wr.size W31).symm)) (Nat.le_of_eq (Wr.size W37).symm)) (Nat.le_of_eq (Wr.size W43).symm)) f47 (by simp [hn5_3, hn3_5])) f53 e100 (argsL := [(.ref w3)]) (stk := [(.ref w3), (.ref w5)]) (st := []) own_pd_0 rfl rfl rfl (W := 0) rfl (by decide) (by decide) (by decide) (by decide) at_110 rfl ?_
      intro T101 L101 v101 X101 q101
      obtain ⟨rfl, N101, e101⟩ := q101
      have M101 := Fr.app M100 N101
      show OG.Go _ _ _ _ _ _ _ (T101.setTop (mkF m 113 #[.val (.int p1), .val (.int p2), .val (.ref b1), .val (.int (3 : Int32)), .val (.int (5 : Int32)), .val (.int (1 : Int32)), .val (.int (1 : Int32)), .unset] [(.int (1 : Int32))]))
      refine OG.istore (Ls' := #[.val (.int p1), .val (.int p2), .val (.ref b1), .val (.int (3 : Int32)), .val (.int (5 : Int32)), .val (.int (1 : Int32)), .val (.int (1 : Int32)), .val (.int (1 : Int32))]) X101 hx hby at_113 rfl rfl ?_
      refine OG.iload X101 hx hby at_115 rfl rfl ?_
      refine OG.iload X101 hx hby at_117 rfl rfl ?_
      refine OG.icmpNo X101 hx hby at_119 (teq (by decide)).2 rfl ?_
      refine OG.iload X101 hx hby at_122 rfl rfl ?_
      refine OG.iload X101 hx hby at_124 rfl rfl ?_
      refine OG.icmpNo X101 hx hby at_126 (teq (by decide)).2 rfl ?_
      refine OG.iconst (v := (1 : Int32)) X101 hx hby at_129 (by decide) rfl ?_
      refine OG.goto (pc' := 134) X101 hx hby at_130 (by decide) (by decide) ?_
      refine OG.retZ X101 hx hby Bd.returns (by simp) at_134 Bd.notSynchronized (by decide) (by decide) ?_
      exact ⟨rfl, M101⟩
  · rw [hi49]
    refine OG.istoreN (Ls' := #[.val (.int p1), .val (.int p2), .val (.ref b1), .val (.int (4 : Int32)), .unset, .unset, .unset, .unset]) X43 hx hby at_49 rfl rfl ?_
    refine OG.iloadN X43 hx hby at_50 rfl rfl ?_
    refine OG.ldcI (v := (2147483647 : Int32)) X43 hx hZ hby hown (hw _ (List.mem_of_getElem? (i := 16) rfl)) at_51 rfl ?_
    refine OG.iand X43 hx hby at_53 rfl ?_
    refine OG.bipush (v := (6 : Int32)) X43 hx hby at_54 (by decide) rfl ?_
    refine OG.irem X43 hx hby at_56 (by decide) rfl ?_
    rcases own_mod6 p2 with hi57 | hi57 | hi57 | hi57 | hi57 | hi57
    · rw [hi57]
      refine OG.istore (Ls' := #[.val (.int p1), .val (.int p2), .val (.ref b1), .val (.int (4 : Int32)), .val (.int (0 : Int32)), .unset, .unset, .unset]) X43 hx hby at_57 rfl rfl ?_
      refine OG.iloadN X43 hx hby at_59 rfl rfl ?_
      refine OG.iload X43 hx hby at_60 rfl rfl ?_
      refine OG.icmpYes (pc' := 71) X43 hx hby at_62 (feq (by decide)).2 (by decide) (by decide) ?_
      refine OG.iloadN X43 hx hby at_71 rfl rfl ?_
      refine OG.iconst (v := (5 : Int32)) X43 hx hby at_72 (by decide) rfl ?_
      refine OG.icmpNo X43 hx hby at_73 (feq (by decide)).1 rfl ?_
      refine OG.iload X43 hx hby at_76 rfl rfl ?_
      refine OG.iconst (v := (5 : Int32)) X43 hx hby at_78 (by decide) rfl ?_
      refine OG.icmpYes (pc' := 88) X43 hx hby at_79 (feq (by decide)).2 (by decide) (by decide) ?_
      refine OG.iconst (v := (0 : Int32)) X43 hx hby at_88 (by decide) rfl ?_
      refine OG.istore (Ls' := #[.val (.int p1), .val (.int p2), .val (.ref b1), .val (.int (4 : Int32)), .val (.int (0 : Int32)), .val (.int (0 : Int32)), .unset, .unset]) X43 hx hby at_89 rfl rfl ?_
      refine OG.aloadN X43 hx hby at_91 rfl rfl rfl ?_
      refine OG.iloadN X43 hx hby at_92 rfl rfl ?_
      refine OG.lR X43 hx hZ hby rfl e43 f44 (by decide) rfl at_93 rfl ?_
      refine OG.aloadN X43 hx hby at_94 rfl rfl rfl ?_
      refine OG.iload X43 hx hby at_95 rfl rfl ?_
      refine OG.lR X43 hx hZ hby rfl e43 f44 (by decide) rfl at_97 rfl ?_
      refine OG.cV X43 hx hZ hby (by rw [hml]; rfl) hown (y := (⟨"com/example/stutter/stutter/values/Value$Kind", "comparableWith", "(Lcom/example/stutter/stutter/values/Value$Kind;)Z"⟩ : MethodName)) (z := (⟨"com/example/stutter/stutter/values/Value$Kind", "comparableWith", "(Lcom/example/stutter/stutter/values/Value$Kind;)Z"⟩ : MethodName)) (hw _ (List.mem_of_getElem? (i := 17) rfl)) (hw _ (List.mem_of_getElem? (i := 18) rfl)) (notFace_of_selects (args := #[]) (mvT hZ (hw _ (List.mem_of_getElem? (i := 20) rfl)))) (hw _ (List.mem_of_getElem? (i := 20) rfl)) (hw _ (List.mem_of_getElem? (i := 19) rfl)) (hw _ (List.mem_of_getElem? (i := 21) rfl)) (hw _ (List.mem_of_getElem? (i := 3) rfl)) (by decide) (own_rm_cmp l Z a0 hw [] w4 w0 w5 (0 : Int32) h43 n0 (Nat.le_trans (Nat.le_trans (Nat.le_trans (Nat.le_trans (Nat.le_trans (Nat.le_trans (Nat.le_trans Z0 E1.1) (Nat.le_of_eq (Wr.size W13).symm)) (Nat.le_of_eq (Wr.size W19).symm)) (Nat.le_of_eq (Wr.size W25).symm)) (Nat.le_of_eq (Wr.size W31).symm)) (Nat.le_of_eq (Wr.size W37).symm)) (Nat.le_of_eq (Wr.size W43).symm)) f47 (by simp [hn4_0, hn4_5, hn0_5])) f52 e43 (argsL := [(.ref w0)]) (stk := [(.ref w0), (.ref w4)]) (st := []) own_pd_0 rfl rfl rfl (W := 0) rfl (by decide) (by decide) (by decide) (by decide) at_98 rfl ?_
      intro T102 L102 v102 X102 q102
      obtain ⟨rfl, N102, e102⟩ := q102
      have M102 := Fr.app N46 N102
      show OG.Go _ _ _ _ _ _ _ (T102.setTop (mkF m 101 #[.val (.int p1), .val (.int p2), .val (.ref b1), .val (.int (4 : Int32)), .val (.int (0 : Int32)), .val (.int (0 : Int32)), .unset, .unset] [(.int (0 : Int32))]))
      refine OG.istore (Ls' := #[.val (.int p1), .val (.int p2), .val (.ref b1), .val (.int (4 : Int32)), .val (.int (0 : Int32)), .val (.int (0 : Int32)), .val (.int (0 : Int32)), .unset]) X102 hx hby at_101 rfl rfl ?_
      refine OG.aloadN X102 hx hby at_103 rfl rfl rfl ?_
      refine OG.iload X102 hx hby at_104 rfl rfl ?_
      refine OG.lR X102 hx hZ hby rfl e102 f44 (by decide) rfl at_106 rfl ?_
      refine OG.aloadN X102 hx hby at_107 rfl rfl rfl ?_
      refine OG.iloadN X102 hx hby at_108 rfl rfl ?_
      refine OG.lR X102 hx hZ hby rfl e102 f44 (by decide) rfl at_109 rfl ?_
      refine OG.cV X102 hx hZ hby (by rw [hml]; rfl) hown (y := (⟨"com/example/stutter/stutter/values/Value$Kind", "comparableWith", "(Lcom/example/stutter/stutter/values/Value$Kind;)Z"⟩ : MethodName)) (z := (⟨"com/example/stutter/stutter/values/Value$Kind", "comparableWith", "(Lcom/example/stutter/stutter/values/Value$Kind;)Z"⟩ : MethodName)) (hw _ (List.mem_of_getElem? (i := 17) rfl)) (hw _ (List.mem_of_getElem? (i := 18) rfl)) (notFace_of_selects (args := #[]) (mvT hZ (hw _ (List.mem_of_getElem? (i := 20) rfl)))) (hw _ (List.mem_of_getElem? (i := 20) rfl)) (hw _ (List.mem_of_getElem? (i := 19) rfl)) (hw _ (List.mem_of_getElem? (i := 21) rfl)) (hw _ (List.mem_of_getElem? (i := 3) rfl)) (by decide) (own_rm_cmp l Z a0 hw [] w0 w4 w5 (0 : Int32) h43 n0 (Nat.le_trans (Nat.le_trans (Nat.le_trans (Nat.le_trans (Nat.le_trans (Nat.le_trans (Nat.le_trans Z0 E1.1) (Nat.le_of_eq (Wr.size W13).symm)) (Nat.le_of_eq (Wr.size W19).symm)) (Nat.le_of_eq (Wr.size W25).symm)) (Nat.le_of_eq (Wr.size W31).symm)) (Nat.le_of_eq (Wr.size W37).symm)) (Nat.le_of_eq (Wr.size W43).symm)) f47 (by simp [hn0_4, hn0_5, hn4_5])) f48 e102 (argsL := [(.ref w4)]) (stk := [(.ref w4), (.ref w0)]) (st := []) own_pd_0 rfl rfl rfl (W := 0) rfl (by decide) (by decide) (by decide) (by decide) at_110 rfl ?_
      intro T103 L103 v103 X103 q103
      obtain ⟨rfl, N103, e103⟩ := q103
      have M103 := Fr.app M102 N103
      show OG.Go _ _ _ _ _ _ _ (T103.setTop (mkF m 113 #[.val (.int p1), .val (.int p2), .val (.ref b1), .val (.int (4 : Int32)), .val (.int (0 : Int32)), .val (.int (0 : Int32)), .val (.int (0 : Int32)), .unset] [(.int (0 : Int32))]))
      refine OG.istore (Ls' := #[.val (.int p1), .val (.int p2), .val (.ref b1), .val (.int (4 : Int32)), .val (.int (0 : Int32)), .val (.int (0 : Int32)), .val (.int (0 : Int32)), .val (.int (0 : Int32))]) X103 hx hby at_113 rfl rfl ?_
      refine OG.iload X103 hx hby at_115 rfl rfl ?_
      refine OG.iload X103 hx hby at_117 rfl rfl ?_
      refine OG.icmpNo X103 hx hby at_119 (teq (by decide)).2 rfl ?_
      refine OG.iload X103 hx hby at_122 rfl rfl ?_
      refine OG.iload X103 hx hby at_124 rfl rfl ?_
      refine OG.icmpNo X103 hx hby at_126 (teq (by decide)).2 rfl ?_
      refine OG.iconst (v := (1 : Int32)) X103 hx hby at_129 (by decide) rfl ?_
      refine OG.goto (pc' := 134) X103 hx hby at_130 (by decide) (by decide) ?_
      refine OG.retZ X103 hx hby Bd.returns (by simp) at_134 Bd.notSynchronized (by decide) (by decide) ?_
      exact ⟨rfl, M103⟩
    · rw [hi57]
      refine OG.istore (Ls' := #[.val (.int p1), .val (.int p2), .val (.ref b1), .val (.int (4 : Int32)), .val (.int (1 : Int32)), .unset, .unset, .unset]) X43 hx hby at_57 rfl rfl ?_
      refine OG.iloadN X43 hx hby at_59 rfl rfl ?_
      refine OG.iload X43 hx hby at_60 rfl rfl ?_
      refine OG.icmpYes (pc' := 71) X43 hx hby at_62 (feq (by decide)).2 (by decide) (by decide) ?_
      refine OG.iloadN X43 hx hby at_71 rfl rfl ?_
      refine OG.iconst (v := (5 : Int32)) X43 hx hby at_72 (by decide) rfl ?_
      refine OG.icmpNo X43 hx hby at_73 (feq (by decide)).1 rfl ?_
      refine OG.iload X43 hx hby at_76 rfl rfl ?_
      refine OG.iconst (v := (5 : Int32)) X43 hx hby at_78 (by decide) rfl ?_
      refine OG.icmpYes (pc' := 88) X43 hx hby at_79 (feq (by decide)).2 (by decide) (by decide) ?_
      refine OG.iconst (v := (0 : Int32)) X43 hx hby at_88 (by decide) rfl ?_
      refine OG.istore (Ls' := #[.val (.int p1), .val (.int p2), .val (.ref b1), .val (.int (4 : Int32)), .val (.int (1 : Int32)), .val (.int (0 : Int32)), .unset, .unset]) X43 hx hby at_89 rfl rfl ?_
      refine OG.aloadN X43 hx hby at_91 rfl rfl rfl ?_
      refine OG.iloadN X43 hx hby at_92 rfl rfl ?_
      refine OG.lR X43 hx hZ hby rfl e43 f44 (by decide) rfl at_93 rfl ?_
      refine OG.aloadN X43 hx hby at_94 rfl rfl rfl ?_
      refine OG.iload X43 hx hby at_95 rfl rfl ?_
      refine OG.lR X43 hx hZ hby rfl e43 f44 (by decide) rfl at_97 rfl ?_
      refine OG.cV X43 hx hZ hby (by rw [hml]; rfl) hown (y := (⟨"com/example/stutter/stutter/values/Value$Kind", "comparableWith", "(Lcom/example/stutter/stutter/values/Value$Kind;)Z"⟩ : MethodName)) (z := (⟨"com/example/stutter/stutter/values/Value$Kind", "comparableWith", "(Lcom/example/stutter/stutter/values/Value$Kind;)Z"⟩ : MethodName)) (hw _ (List.mem_of_getElem? (i := 17) rfl)) (hw _ (List.mem_of_getElem? (i := 18) rfl)) (notFace_of_selects (args := #[]) (mvT hZ (hw _ (List.mem_of_getElem? (i := 20) rfl)))) (hw _ (List.mem_of_getElem? (i := 20) rfl)) (hw _ (List.mem_of_getElem? (i := 19) rfl)) (hw _ (List.mem_of_getElem? (i := 21) rfl)) (hw _ (List.mem_of_getElem? (i := 3) rfl)) (by decide) (own_rm_cmp l Z a0 hw [] w4 w1 w5 (0 : Int32) h43 n0 (Nat.le_trans (Nat.le_trans (Nat.le_trans (Nat.le_trans (Nat.le_trans (Nat.le_trans (Nat.le_trans Z0 E1.1) (Nat.le_of_eq (Wr.size W13).symm)) (Nat.le_of_eq (Wr.size W19).symm)) (Nat.le_of_eq (Wr.size W25).symm)) (Nat.le_of_eq (Wr.size W31).symm)) (Nat.le_of_eq (Wr.size W37).symm)) (Nat.le_of_eq (Wr.size W43).symm)) f47 (by simp [hn4_1, hn4_5, hn1_5])) f52 e43 (argsL := [(.ref w1)]) (stk := [(.ref w1), (.ref w4)]) (st := []) own_pd_0 rfl rfl rfl (W := 0) rfl (by decide) (by decide) (by decide) (by decide) at_98 rfl ?_
      intro T104 L104 v104 X104 q104
      obtain ⟨rfl, N104, e104⟩ := q104
      have M104 := Fr.app N46 N104
      show OG.Go _ _ _ _ _ _ _ (T104.setTop (mkF m 101 #[.val (.int p1), .val (.int p2), .val (.ref b1), .val (.int (4 : Int32)), .val (.int (1 : Int32)), .val (.int (0 : Int32)), .unset, .unset] [(.int (0 : Int32))]))
      refine OG.istore (Ls' := #[.val (.int p1), .val (.int p2), .val (.ref b1), .val (.int (4 : Int32)), .val (.int (1 : Int32)), .val (.int (0 : Int32)), .val (.int (0 : Int32)), .unset]) X104 hx hby at_101 rfl rfl ?_
      refine OG.aloadN X104 hx hby at_103 rfl rfl rfl ?_
      refine OG.iload X104 hx hby at_104 rfl rfl ?_
      refine OG.lR X104 hx hZ hby rfl e104 f44 (by decide) rfl at_106 rfl ?_
      refine OG.aloadN X104 hx hby at_107 rfl rfl rfl ?_
      refine OG.iloadN X104 hx hby at_108 rfl rfl ?_
      refine OG.lR X104 hx hZ hby rfl e104 f44 (by decide) rfl at_109 rfl ?_
      refine OG.cV X104 hx hZ hby (by rw [hml]; rfl) hown (y := (⟨"com/example/stutter/stutter/values/Value$Kind", "comparableWith", "(Lcom/example/stutter/stutter/values/Value$Kind;)Z"⟩ : MethodName)) (z := (⟨"com/example/stutter/stutter/values/Value$Kind", "comparableWith", "(Lcom/example/stutter/stutter/values/Value$Kind;)Z"⟩ : MethodName)) (hw _ (List.mem_of_getElem? (i := 17) rfl)) (hw _ (List.mem_of_getElem? (i := 18) rfl)) (notFace_of_selects (args := #[]) (mvT hZ (hw _ (List.mem_of_getElem? (i := 20) rfl)))) (hw _ (List.mem_of_getElem? (i := 20) rfl)) (hw _ (List.mem_of_getElem? (i := 19) rfl)) (hw _ (List.mem_of_getElem? (i := 21) rfl)) (hw _ (List.mem_of_getElem? (i := 3) rfl)) (by decide) (own_rm_cmp l Z a0 hw [] w1 w4 w5 (0 : Int32) h43 n0 (Nat.le_trans (Nat.le_trans (Nat.le_trans (Nat.le_trans (Nat.le_trans (Nat.le_trans (Nat.le_trans Z0 E1.1) (Nat.le_of_eq (Wr.size W13).symm)) (Nat.le_of_eq (Wr.size W19).symm)) (Nat.le_of_eq (Wr.size W25).symm)) (Nat.le_of_eq (Wr.size W31).symm)) (Nat.le_of_eq (Wr.size W37).symm)) (Nat.le_of_eq (Wr.size W43).symm)) f47 (by simp [hn1_4, hn1_5, hn4_5])) f49 e104 (argsL := [(.ref w4)]) (stk := [(.ref w4), (.ref w1)]) (st := []) own_pd_0 rfl rfl rfl (W := 0) rfl (by decide) (by decide) (by decide) (by decide) at_110 rfl ?_
      intro T105 L105 v105 X105 q105
      obtain ⟨rfl, N105, e105⟩ := q105
      have M105 := Fr.app M104 N105
      show OG.Go _ _ _ _ _ _ _ (T105.setTop (mkF m 113 #[.val (.int p1), .val (.int p2), .val (.ref b1), .val (.int (4 : Int32)), .val (.int (1 : Int32)), .val (.int (0 : Int32)), .val (.int (0 : Int32)), .unset] [(.int (0 : Int32))]))
      refine OG.istore (Ls' := #[.val (.int p1), .val (.int p2), .val (.ref b1), .val (.int (4 : Int32)), .val (.int (1 : Int32)), .val (.int (0 : Int32)), .val (.int (0 : Int32)), .val (.int (0 : Int32))]) X105 hx hby at_113 rfl rfl ?_
      refine OG.iload X105 hx hby at_115 rfl rfl ?_
      refine OG.iload X105 hx hby at_117 rfl rfl ?_
      refine OG.icmpNo X105 hx hby at_119 (teq (by decide)).2 rfl ?_
      refine OG.iload X105 hx hby at_122 rfl rfl ?_
      refine OG.iload X105 hx hby at_124 rfl rfl ?_
      refine OG.icmpNo X105 hx hby at_126 (teq (by decide)).2 rfl ?_
      refine OG.iconst (v := (1 : Int32)) X105 hx hby at_129 (by decide) rfl ?_
      refine OG.goto (pc' := 134) X105 hx hby at_130 (by decide) (by decide) ?_
      refine OG.retZ X105 hx hby Bd.returns (by simp) at_134 Bd.notSynchronized (by decide) (by decide) ?_
      exact ⟨rfl, M105⟩
    · rw [hi57]
      refine OG.istore (Ls' := #[.val (.int p1), .val (.int p2), .val (.ref b1), .val (.int (4 : Int32)), .val (.int (2 : Int32)), .unset, .unset, .unset]) X43 hx hby at_57 rfl rfl ?_
      refine OG.iloadN X43 hx hby at_59 rfl rfl ?_
      refine OG.iload X43 hx hby at_60 rfl rfl ?_
      refine OG.icmpYes (pc' := 71) X43 hx hby at_62 (feq (by decide)).2 (by decide) (by decide) ?_
      refine OG.iloadN X43 hx hby at_71 rfl rfl ?_
      refine OG.iconst (v := (5 : Int32)) X43 hx hby at_72 (by decide) rfl ?_
      refine OG.icmpNo X43 hx hby at_73 (feq (by decide)).1 rfl ?_
      refine OG.iload X43 hx hby at_76 rfl rfl ?_
      refine OG.iconst (v := (5 : Int32)) X43 hx hby at_78 (by decide) rfl ?_
      refine OG.icmpYes (pc' := 88) X43 hx hby at_79 (feq (by decide)).2 (by decide) (by decide) ?_
      refine OG.iconst (v := (0 : Int32)) X43 hx hby at_88 (by decide) rfl ?_
      refine OG.istore (Ls' := #[.val (.int p1), .val (.int p2), .val (.ref b1), .val (.int (4 : Int32)), .val (.int (2 : Int32)), .val (.int (0 : Int32)), .unset, .unset]) X43 hx hby at_89 rfl rfl ?_
      refine OG.aloadN X43 hx hby at_91 rfl rfl rfl ?_
      refine OG.iloadN X43 hx hby at_92 rfl rfl ?_
      refine OG.lR X43 hx hZ hby rfl e43 f44 (by decide) rfl at_93 rfl ?_
      refine OG.aloadN X43 hx hby at_94 rfl rfl rfl ?_
      refine OG.iload X43 hx hby at_95 rfl rfl ?_
      refine OG.lR X43 hx hZ hby rfl e43 f44 (by decide) rfl at_97 rfl ?_
      refine OG.cV X43 hx hZ hby (by rw [hml]; rfl) hown (y := (⟨"com/example/stutter/stutter/values/Value$Kind", "comparableWith", "(Lcom/example/stutter/stutter/values/Value$Kind;)Z"⟩ : MethodName)) (z := (⟨"com/example/stutter/stutter/values/Value$Kind", "comparableWith", "(Lcom/example/stutter/stutter/values/Value$Kind;)Z"⟩ : MethodName)) (hw _ (List.mem_of_getElem? (i := 17) rfl)) (hw _ (List.mem_of_getElem? (i := 18) rfl)) (notFace_of_selects (args := #[]) (mvT hZ (hw _ (List.mem_of_getElem? (i := 20) rfl)))) (hw _ (List.mem_of_getElem? (i := 20) rfl)) (hw _ (List.mem_of_getElem? (i := 19) rfl)) (hw _ (List.mem_of_getElem? (i := 21) rfl)) (hw _ (List.mem_of_getElem? (i := 3) rfl)) (by decide) (own_rm_cmp l Z a0 hw [] w4 w2 w5 (0 : Int32) h43 n0 (Nat.le_trans (Nat.le_trans (Nat.le_trans (Nat.le_trans (Nat.le_trans (Nat.le_trans (Nat.le_trans Z0 E1.1) (Nat.le_of_eq (Wr.size W13).symm)) (Nat.le_of_eq (Wr.size W19).symm)) (Nat.le_of_eq (Wr.size W25).symm)) (Nat.le_of_eq (Wr.size W31).symm)) (Nat.le_of_eq (Wr.size W37).symm)) (Nat.le_of_eq (Wr.size W43).symm)) f47 (by simp [hn4_2, hn4_5, hn2_5])) f52 e43 (argsL := [(.ref w2)]) (stk := [(.ref w2), (.ref w4)]) (st := []) own_pd_0 rfl rfl rfl (W := 0) rfl (by decide) (by decide) (by decide) (by decide) at_98 rfl ?_
      intro T106 L106 v106 X106 q106
      obtain ⟨rfl, N106, e106⟩ := q106
      have M106 := Fr.app N46 N106
      show OG.Go _ _ _ _ _ _ _ (T106.setTop (mkF m 101 #[.val (.int p1), .val (.int p2), .val (.ref b1), .val (.int (4 : Int32)), .val (.int (2 : Int32)), .val (.int (0 : Int32)), .unset, .unset] [(.int (0 : Int32))]))
      refine OG.istore (Ls' := #[.val (.int p1), .val (.int p2), .val (.ref b1), .val (.int (4 : Int32)), .val (.int (2 : Int32)), .val (.int (0 : Int32)), .val (.int (0 : Int32)), .unset]) X106 hx hby at_101 rfl rfl ?_
      refine OG.aloadN X106 hx hby at_103 rfl rfl rfl ?_
      refine OG.iload X106 hx hby at_104 rfl rfl ?_
      refine OG.lR X106 hx hZ hby rfl e106 f44 (by decide) rfl at_106 rfl ?_
      refine OG.aloadN X106 hx hby at_107 rfl rfl rfl ?_
      refine OG.iloadN X106 hx hby at_108 rfl rfl ?_
      refine OG.lR X106 hx hZ hby rfl e106 f44 (by decide) rfl at_109 rfl ?_
      refine OG.cV X106 hx hZ hby (by rw [hml]; rfl) hown (y := (⟨"com/example/stutter/stutter/values/Value$Kind", "comparableWith", "(Lcom/example/stutter/stutter/values/Value$Kind;)Z"⟩ : MethodName)) (z := (⟨"com/example/stutter/stutter/values/Value$Kind", "comparableWith", "(Lcom/example/stutter/stutter/values/Value$Kind;)Z"⟩ : MethodName)) (hw _ (List.mem_of_getElem? (i := 17) rfl)) (hw _ (List.mem_of_getElem? (i := 18) rfl)) (notFace_of_selects (args := #[]) (mvT hZ (hw _ (List.mem_of_getElem? (i := 20) rfl)))) (hw _ (List.mem_of_getElem? (i := 20) rfl)) (hw _ (List.mem_of_getElem? (i := 19) rfl)) (hw _ (List.mem_of_getElem? (i := 21) rfl)) (hw _ (List.mem_of_getElem? (i := 3) rfl)) (by decide) (own_rm_cmp l Z a0 hw [] w2 w4 w5 (0 : Int32) h43 n0 (Nat.le_trans (Nat.le_trans (Nat.le_trans (Nat.le_trans (Nat.le_trans (Nat.le_trans (Nat.le_trans Z0 E1.1) (Nat.le_of_eq (Wr.size W13).symm)) (Nat.le_of_eq (Wr.size W19).symm)) (Nat.le_of_eq (Wr.size W25).symm)) (Nat.le_of_eq (Wr.size W31).symm)) (Nat.le_of_eq (Wr.size W37).symm)) (Nat.le_of_eq (Wr.size W43).symm)) f47 (by simp [hn2_4, hn2_5, hn4_5])) f50 e106 (argsL := [(.ref w4)]) (stk := [(.ref w4), (.ref w2)]) (st := []) own_pd_0 rfl rfl rfl (W := 0) rfl (by decide) (by decide) (by decide) (by decide) at_110 rfl ?_
      intro T107 L107 v107 X107 q107
      obtain ⟨rfl, N107, e107⟩ := q107
      have M107 := Fr.app M106 N107
      show OG.Go _ _ _ _ _ _ _ (T107.setTop (mkF m 113 #[.val (.int p1), .val (.int p2), .val (.ref b1), .val (.int (4 : Int32)), .val (.int (2 : Int32)), .val (.int (0 : Int32)), .val (.int (0 : Int32)), .unset] [(.int (0 : Int32))]))
      refine OG.istore (Ls' := #[.val (.int p1), .val (.int p2), .val (.ref b1), .val (.int (4 : Int32)), .val (.int (2 : Int32)), .val (.int (0 : Int32)), .val (.int (0 : Int32)), .val (.int (0 : Int32))]) X107 hx hby at_113 rfl rfl ?_
      refine OG.iload X107 hx hby at_115 rfl rfl ?_
      refine OG.iload X107 hx hby at_117 rfl rfl ?_
      refine OG.icmpNo X107 hx hby at_119 (teq (by decide)).2 rfl ?_
      refine OG.iload X107 hx hby at_122 rfl rfl ?_
      refine OG.iload X107 hx hby at_124 rfl rfl ?_
      refine OG.icmpNo X107 hx hby at_126 (teq (by decide)).2 rfl ?_
      refine OG.iconst (v := (1 : Int32)) X107 hx hby at_129 (by decide) rfl ?_
      refine OG.goto (pc' := 134) X107 hx hby at_130 (by decide) (by decide) ?_
      refine OG.retZ X107 hx hby Bd.returns (by simp) at_134 Bd.notSynchronized (by decide) (by decide) ?_
      exact ⟨rfl, M107⟩
    · rw [hi57]
      refine OG.istore (Ls' := #[.val (.int p1), .val (.int p2), .val (.ref b1), .val (.int (4 : Int32)), .val (.int (3 : Int32)), .unset, .unset, .unset]) X43 hx hby at_57 rfl rfl ?_
      refine OG.iloadN X43 hx hby at_59 rfl rfl ?_
      refine OG.iload X43 hx hby at_60 rfl rfl ?_
      refine OG.icmpYes (pc' := 71) X43 hx hby at_62 (feq (by decide)).2 (by decide) (by decide) ?_
      refine OG.iloadN X43 hx hby at_71 rfl rfl ?_
      refine OG.iconst (v := (5 : Int32)) X43 hx hby at_72 (by decide) rfl ?_
      refine OG.icmpNo X43 hx hby at_73 (feq (by decide)).1 rfl ?_
      refine OG.iload X43 hx hby at_76 rfl rfl ?_
      refine OG.iconst (v := (5 : Int32)) X43 hx hby at_78 (by decide) rfl ?_
      refine OG.icmpYes (pc' := 88) X43 hx hby at_79 (feq (by decide)).2 (by decide) (by decide) ?_
      refine OG.iconst (v := (0 : Int32)) X43 hx hby at_88 (by decide) rfl ?_
      refine OG.istore (Ls' := #[.val (.int p1), .val (.int p2), .val (.ref b1), .val (.int (4 : Int32)), .val (.int (3 : Int32)), .val (.int (0 : Int32)), .unset, .unset]) X43 hx hby at_89 rfl rfl ?_
      refine OG.aloadN X43 hx hby at_91 rfl rfl rfl ?_
      refine OG.iloadN X43 hx hby at_92 rfl rfl ?_
      refine OG.lR X43 hx hZ hby rfl e43 f44 (by decide) rfl at_93 rfl ?_
      refine OG.aloadN X43 hx hby at_94 rfl rfl rfl ?_
      refine OG.iload X43 hx hby at_95 rfl rfl ?_
      refine OG.lR X43 hx hZ hby rfl e43 f44 (by decide) rfl at_97 rfl ?_
      refine OG.cV X43 hx hZ hby (by rw [hml]; rfl) hown (y := (⟨"com/example/stutter/stutter/values/Value$Kind", "comparableWith", "(Lcom/example/stutter/stutter/values/Value$Kind;)Z"⟩ : MethodName)) (z := (⟨"com/example/stutter/stutter/values/Value$Kind", "comparableWith", "(Lcom/example/stutter/stutter/values/Value$Kind;)Z"⟩ : MethodName)) (hw _ (List.mem_of_getElem? (i := 17) rfl)) (hw _ (List.mem_of_getElem? (i := 18) rfl)) (notFace_of_selects (args := #[]) (mvT hZ (hw _ (List.mem_of_getElem? (i := 20) rfl)))) (hw _ (List.mem_of_getElem? (i := 20) rfl)) (hw _ (List.mem_of_getElem? (i := 19) rfl)) (hw _ (List.mem_of_getElem? (i := 21) rfl)) (hw _ (List.mem_of_getElem? (i := 3) rfl)) (by decide) (own_rm_cmp l Z a0 hw [] w4 w3 w5 (0 : Int32) h43 n0 (Nat.le_trans (Nat.le_trans (Nat.le_trans (Nat.le_trans (Nat.le_trans (Nat.le_trans (Nat.le_trans Z0 E1.1) (Nat.le_of_eq (Wr.size W13).symm)) (Nat.le_of_eq (Wr.size W19).symm)) (Nat.le_of_eq (Wr.size W25).symm)) (Nat.le_of_eq (Wr.size W31).symm)) (Nat.le_of_eq (Wr.size W37).symm)) (Nat.le_of_eq (Wr.size W43).symm)) f47 (by simp [hn4_3, hn4_5, hn3_5])) f52 e43 (argsL := [(.ref w3)]) (stk := [(.ref w3), (.ref w4)]) (st := []) own_pd_0 rfl rfl rfl (W := 0) rfl (by decide) (by decide) (by decide) (by decide) at_98 rfl ?_
      intro T108 L108 v108 X108 q108
      obtain ⟨rfl, N108, e108⟩ := q108
      have M108 := Fr.app N46 N108
      show OG.Go _ _ _ _ _ _ _ (T108.setTop (mkF m 101 #[.val (.int p1), .val (.int p2), .val (.ref b1), .val (.int (4 : Int32)), .val (.int (3 : Int32)), .val (.int (0 : Int32)), .unset, .unset] [(.int (0 : Int32))]))
      refine OG.istore (Ls' := #[.val (.int p1), .val (.int p2), .val (.ref b1), .val (.int (4 : Int32)), .val (.int (3 : Int32)), .val (.int (0 : Int32)), .val (.int (0 : Int32)), .unset]) X108 hx hby at_101 rfl rfl ?_
      refine OG.aloadN X108 hx hby at_103 rfl rfl rfl ?_
      refine OG.iload X108 hx hby at_104 rfl rfl ?_
      refine OG.lR X108 hx hZ hby rfl e108 f44 (by decide) rfl at_106 rfl ?_
      refine OG.aloadN X108 hx hby at_107 rfl rfl rfl ?_
      refine OG.iloadN X108 hx hby at_108 rfl rfl ?_
      refine OG.lR X108 hx hZ hby rfl e108 f44 (by decide) rfl at_109 rfl ?_
      refine OG.cV X108 hx hZ hby (by rw [hml]; rfl) hown (y := (⟨"com/example/stutter/stutter/values/Value$Kind", "comparableWith", "(Lcom/example/stutter/stutter/values/Value$Kind;)Z"⟩ : MethodName)) (z := (⟨"com/example/stutter/stutter/values/Value$Kind", "comparableWith", "(Lcom/example/stutter/stutter/values/Value$Kind;)Z"⟩ : MethodName)) (hw _ (List.mem_of_getElem? (i := 17) rfl)) (hw _ (List.mem_of_getElem? (i := 18) rfl)) (notFace_of_selects (args := #[]) (mvT hZ (hw _ (List.mem_of_getElem? (i := 20) rfl)))) (hw _ (List.mem_of_getElem? (i := 20) rfl)) (hw _ (List.mem_of_getElem? (i := 19) rfl)) (hw _ (List.mem_of_getElem? (i := 21) rfl)) (hw _ (List.mem_of_getElem? (i := 3) rfl)) (by decide) (own_rm_cmp l Z a0 hw [] w3 w4 w5 (0 : Int32) h43 n0 (Nat.le_trans (Nat.le_trans (Nat.le_trans (Nat.le_trans (Nat.le_trans (Nat.le_trans (Nat.le_trans Z0 E1.1) (Nat.le_of_eq (Wr.size W13).symm)) (Nat.le_of_eq (Wr.size W19).symm)) (Nat.le_of_eq (Wr.size W25).symm)) (Nat.le_of_eq (Wr.size W31).symm)) (Nat.le_of_eq (Wr.size W37).symm)) (Nat.le_of_eq (Wr.size W43).symm)) f47 (by simp [hn3_4, hn3_5, hn4_5])) f51 e108 (argsL := [(.ref w4)]) (stk := [(.ref w4), (.ref w3)]) (st := []) own_pd_0 rfl rfl rfl (W := 0) rfl (by decide) (by decide) (by decide) (by decide) at_110 rfl ?_
      intro T109 L109 v109 X109 q109
      obtain ⟨rfl, N109, e109⟩ := q109
      have M109 := Fr.app M108 N109
      show OG.Go _ _ _ _ _ _ _ (T109.setTop (mkF m 113 #[.val (.int p1), .val (.int p2), .val (.ref b1), .val (.int (4 : Int32)), .val (.int (3 : Int32)), .val (.int (0 : Int32)), .val (.int (0 : Int32)), .unset] [(.int (0 : Int32))]))
      refine OG.istore (Ls' := #[.val (.int p1), .val (.int p2), .val (.ref b1), .val (.int (4 : Int32)), .val (.int (3 : Int32)), .val (.int (0 : Int32)), .val (.int (0 : Int32)), .val (.int (0 : Int32))]) X109 hx hby at_113 rfl rfl ?_
      refine OG.iload X109 hx hby at_115 rfl rfl ?_
      refine OG.iload X109 hx hby at_117 rfl rfl ?_
      refine OG.icmpNo X109 hx hby at_119 (teq (by decide)).2 rfl ?_
      refine OG.iload X109 hx hby at_122 rfl rfl ?_
      refine OG.iload X109 hx hby at_124 rfl rfl ?_
      refine OG.icmpNo X109 hx hby at_126 (teq (by decide)).2 rfl ?_
      refine OG.iconst (v := (1 : Int32)) X109 hx hby at_129 (by decide) rfl ?_
      refine OG.goto (pc' := 134) X109 hx hby at_130 (by decide) (by decide) ?_
      refine OG.retZ X109 hx hby Bd.returns (by simp) at_134 Bd.notSynchronized (by decide) (by decide) ?_
      exact ⟨rfl, M109⟩
    · rw [hi57]
      refine OG.istore (Ls' := #[.val (.int p1), .val (.int p2), .val (.ref b1), .val (.int (4 : Int32)), .val (.int (4 : Int32)), .unset, .unset, .unset]) X43 hx hby at_57 rfl rfl ?_
      refine OG.iloadN X43 hx hby at_59 rfl rfl ?_
      refine OG.iload X43 hx hby at_60 rfl rfl ?_
      refine OG.icmpNo X43 hx hby at_62 (teq (by decide)).2 rfl ?_
      refine OG.iconst (v := (1 : Int32)) X43 hx hby at_65 (by decide) rfl ?_
      refine OG.istore (Ls' := #[.val (.int p1), .val (.int p2), .val (.ref b1), .val (.int (4 : Int32)), .val (.int (4 : Int32)), .val (.int (1 : Int32)), .unset, .unset]) X43 hx hby at_66 rfl rfl ?_
      refine OG.goto (pc' := 91) X43 hx hby at_68 (by decide) (by decide) ?_
      refine OG.aloadN X43 hx hby at_91 rfl rfl rfl ?_
      refine OG.iloadN X43 hx hby at_92 rfl rfl ?_
      refine OG.lR X43 hx hZ hby rfl e43 f44 (by decide) rfl at_93 rfl ?_
      refine OG.aloadN X43 hx hby at_94 rfl rfl rfl ?_
      refine OG.iload X43 hx hby at_95 rfl rfl ?_
      refine OG.lR X43 hx hZ hby rfl e43 f44 (by decide) rfl at_97 rfl ?_
      refine OG.cV X43 hx hZ hby (by rw [hml]; rfl) hown (y := (⟨"com/example/stutter/stutter/values/Value$Kind", "comparableWith", "(Lcom/example/stutter/stutter/values/Value$Kind;)Z"⟩ : MethodName)) (z := (⟨"com/example/stutter/stutter/values/Value$Kind", "comparableWith", "(Lcom/example/stutter/stutter/values/Value$Kind;)Z"⟩ : MethodName)) (hw _ (List.mem_of_getElem? (i := 17) rfl)) (hw _ (List.mem_of_getElem? (i := 18) rfl)) (notFace_of_selects (args := #[]) (mvT hZ (hw _ (List.mem_of_getElem? (i := 20) rfl)))) (hw _ (List.mem_of_getElem? (i := 20) rfl)) (hw _ (List.mem_of_getElem? (i := 19) rfl)) (hw _ (List.mem_of_getElem? (i := 21) rfl)) (hw _ (List.mem_of_getElem? (i := 3) rfl)) (by decide) (own_rm_cmp l Z a0 hw [] w4 w4 w5 (1 : Int32) h43 n0 (Nat.le_trans (Nat.le_trans (Nat.le_trans (Nat.le_trans (Nat.le_trans (Nat.le_trans (Nat.le_trans Z0 E1.1) (Nat.le_of_eq (Wr.size W13).symm)) (Nat.le_of_eq (Wr.size W19).symm)) (Nat.le_of_eq (Wr.size W25).symm)) (Nat.le_of_eq (Wr.size W31).symm)) (Nat.le_of_eq (Wr.size W37).symm)) (Nat.le_of_eq (Wr.size W43).symm)) f47 (by simp)) f52 e43 (argsL := [(.ref w4)]) (stk := [(.ref w4), (.ref w4)]) (st := []) own_pd_0 rfl rfl rfl (W := 0) rfl (by decide) (by decide) (by decide) (by decide) at_98 rfl ?_
      intro T110 L110 v110 X110 q110
      obtain ⟨rfl, N110, e110⟩ := q110
      have M110 := Fr.app N46 N110
      show OG.Go _ _ _ _ _ _ _ (T110.setTop (mkF m 101 #[.val (.int p1), .val (.int p2), .val (.ref b1), .val (.int (4 : Int32)), .val (.int (4 : Int32)), .val (.int (1 : Int32)), .unset, .unset] [(.int (1 : Int32))]))
      refine OG.istore (Ls' := #[.val (.int p1), .val (.int p2), .val (.ref b1), .val (.int (4 : Int32)), .val (.int (4 : Int32)), .val (.int (1 : Int32)), .val (.int (1 : Int32)), .unset]) X110 hx hby at_101 rfl rfl ?_
      refine OG.aloadN X110 hx hby at_103 rfl rfl rfl ?_
      refine OG.iload X110 hx hby at_104 rfl rfl ?_
      refine OG.lR X110 hx hZ hby rfl e110 f44 (by decide) rfl at_106 rfl ?_
      refine OG.aloadN X110 hx hby at_107 rfl rfl rfl ?_
      refine OG.iloadN X110 hx hby at_108 rfl rfl ?_
      refine OG.lR X110 hx hZ hby rfl e110 f44 (by decide) rfl at_109 rfl ?_
      refine OG.cV X110 hx hZ hby (by rw [hml]; rfl) hown (y := (⟨"com/example/stutter/stutter/values/Value$Kind", "comparableWith", "(Lcom/example/stutter/stutter/values/Value$Kind;)Z"⟩ : MethodName)) (z := (⟨"com/example/stutter/stutter/values/Value$Kind", "comparableWith", "(Lcom/example/stutter/stutter/values/Value$Kind;)Z"⟩ : MethodName)) (hw _ (List.mem_of_getElem? (i := 17) rfl)) (hw _ (List.mem_of_getElem? (i := 18) rfl)) (notFace_of_selects (args := #[]) (mvT hZ (hw _ (List.mem_of_getElem? (i := 20) rfl)))) (hw _ (List.mem_of_getElem? (i := 20) rfl)) (hw _ (List.mem_of_getElem? (i := 19) rfl)) (hw _ (List.mem_of_getElem? (i := 21) rfl)) (hw _ (List.mem_of_getElem? (i := 3) rfl)) (by decide) (own_rm_cmp l Z a0 hw [] w4 w4 w5 (1 : Int32) h43 n0 (Nat.le_trans (Nat.le_trans (Nat.le_trans (Nat.le_trans (Nat.le_trans (Nat.le_trans (Nat.le_trans Z0 E1.1) (Nat.le_of_eq (Wr.size W13).symm)) (Nat.le_of_eq (Wr.size W19).symm)) (Nat.le_of_eq (Wr.size W25).symm)) (Nat.le_of_eq (Wr.size W31).symm)) (Nat.le_of_eq (Wr.size W37).symm)) (Nat.le_of_eq (Wr.size W43).symm)) f47 (by simp)) f52 e110 (argsL := [(.ref w4)]) (stk := [(.ref w4), (.ref w4)]) (st := []) own_pd_0 rfl rfl rfl (W := 0) rfl (by decide) (by decide) (by decide) (by decide) at_110 rfl ?_
      intro T111 L111 v111 X111 q111
      obtain ⟨rfl, N111, e111⟩ := q111
      have M111 := Fr.app M110 N111
      show OG.Go _ _ _ _ _ _ _ (T111.setTop (mkF m 113 #[.val (.int p1), .val (.int p2), .val (.ref b1), .val (.int (4 : Int32)), .val (.int (4 : Int32)), .val (.int (1 : Int32)), .val (.int (1 : Int32)), .unset] [(.int (1 : Int32))]))
      refine OG.istore (Ls' := #[.val (.int p1), .val (.int p2), .val (.ref b1), .val (.int (4 : Int32)), .val (.int (4 : Int32)), .val (.int (1 : Int32)), .val (.int (1 : Int32)), .val (.int (1 : Int32))]) X111 hx hby at_113 rfl rfl ?_
      refine OG.iload X111 hx hby at_115 rfl rfl ?_
      refine OG.iload X111 hx hby at_117 rfl rfl ?_
      refine OG.icmpNo X111 hx hby at_119 (teq (by decide)).2 rfl ?_
      refine OG.iload X111 hx hby at_122 rfl rfl ?_
      refine OG.iload X111 hx hby at_124 rfl rfl ?_
      refine OG.icmpNo X111 hx hby at_126 (teq (by decide)).2 rfl ?_
      refine OG.iconst (v := (1 : Int32)) X111 hx hby at_129 (by decide) rfl ?_
      refine OG.goto (pc' := 134) X111 hx hby at_130 (by decide) (by decide) ?_
      refine OG.retZ X111 hx hby Bd.returns (by simp) at_134 Bd.notSynchronized (by decide) (by decide) ?_
      exact ⟨rfl, M111⟩
    · rw [hi57]
      refine OG.istore (Ls' := #[.val (.int p1), .val (.int p2), .val (.ref b1), .val (.int (4 : Int32)), .val (.int (5 : Int32)), .unset, .unset, .unset]) X43 hx hby at_57 rfl rfl ?_
      refine OG.iloadN X43 hx hby at_59 rfl rfl ?_
      refine OG.iload X43 hx hby at_60 rfl rfl ?_
      refine OG.icmpYes (pc' := 71) X43 hx hby at_62 (feq (by decide)).2 (by decide) (by decide) ?_
      refine OG.iloadN X43 hx hby at_71 rfl rfl ?_
      refine OG.iconst (v := (5 : Int32)) X43 hx hby at_72 (by decide) rfl ?_
      refine OG.icmpNo X43 hx hby at_73 (feq (by decide)).1 rfl ?_
      refine OG.iload X43 hx hby at_76 rfl rfl ?_
      refine OG.iconst (v := (5 : Int32)) X43 hx hby at_78 (by decide) rfl ?_
      refine OG.icmpNo X43 hx hby at_79 (teq (by decide)).2 rfl ?_
      refine OG.iconst (v := (1 : Int32)) X43 hx hby at_82 (by decide) rfl ?_
      refine OG.istore (Ls' := #[.val (.int p1), .val (.int p2), .val (.ref b1), .val (.int (4 : Int32)), .val (.int (5 : Int32)), .val (.int (1 : Int32)), .unset, .unset]) X43 hx hby at_83 rfl rfl ?_
      refine OG.goto (pc' := 91) X43 hx hby at_85 (by decide) (by decide) ?_
      refine OG.aloadN X43 hx hby at_91 rfl rfl rfl ?_
      refine OG.iloadN X43 hx hby at_92 rfl rfl ?_
      refine OG.lR X43 hx hZ hby rfl e43 f44 (by decide) rfl at_93 rfl ?_
      refine OG.aloadN X43 hx hby at_94 rfl rfl rfl ?_
      refine OG.iload X43 hx hby at_95 rfl rfl ?_
      refine OG.lR X43 hx hZ hby rfl e43 f44 (by decide) rfl at_97 rfl ?_
      refine OG.cV X43 hx hZ hby (by rw [hml]; rfl) hown (y := (⟨"com/example/stutter/stutter/values/Value$Kind", "comparableWith", "(Lcom/example/stutter/stutter/values/Value$Kind;)Z"⟩ : MethodName)) (z := (⟨"com/example/stutter/stutter/values/Value$Kind", "comparableWith", "(Lcom/example/stutter/stutter/values/Value$Kind;)Z"⟩ : MethodName)) (hw _ (List.mem_of_getElem? (i := 17) rfl)) (hw _ (List.mem_of_getElem? (i := 18) rfl)) (notFace_of_selects (args := #[]) (mvT hZ (hw _ (List.mem_of_getElem? (i := 20) rfl)))) (hw _ (List.mem_of_getElem? (i := 20) rfl)) (hw _ (List.mem_of_getElem? (i := 19) rfl)) (hw _ (List.mem_of_getElem? (i := 21) rfl)) (hw _ (List.mem_of_getElem? (i := 3) rfl)) (by decide) (own_rm_cmp l Z a0 hw [] w4 w5 w5 (1 : Int32) h43 n0 (Nat.le_trans (Nat.le_trans (Nat.le_trans (Nat.le_trans (Nat.le_trans (Nat.le_trans (Nat.le_trans Z0 E1.1) (Nat.le_of_eq (Wr.size W13).symm)) (Nat.le_of_eq (Wr.size W19).symm)) (Nat.le_of_eq (Wr.size W25).symm)) (Nat.le_of_eq (Wr.size W31).symm)) (Nat.le_of_eq (Wr.size W37).symm)) (Nat.le_of_eq (Wr.size W43).symm)) f47 (by simp [hn4_5])) f52 e43 (argsL := [(.ref w5)]) (stk := [(.ref w5), (.ref w4)]) (st := []) own_pd_0 rfl rfl rfl (W := 0) rfl (by decide) (by decide) (by decide) (by decide) at_98 rfl ?_
      intro T112 L112 v112 X112 q112
      obtain ⟨rfl, N112, e112⟩ := q112
      have M112 := Fr.app N46 N112
      show OG.Go _ _ _ _ _ _ _ (T112.setTop (mkF m 101 #[.val (.int p1), .val (.int p2), .val (.ref b1), .val (.int (4 : Int32)), .val (.int (5 : Int32)), .val (.int (1 : Int32)), .unset, .unset] [(.int (1 : Int32))]))
      refine OG.istore (Ls' := #[.val (.int p1), .val (.int p2), .val (.ref b1), .val (.int (4 : Int32)), .val (.int (5 : Int32)), .val (.int (1 : Int32)), .val (.int (1 : Int32)), .unset]) X112 hx hby at_101 rfl rfl ?_
      refine OG.aloadN X112 hx hby at_103 rfl rfl rfl ?_
      refine OG.iload X112 hx hby at_104 rfl rfl ?_
      refine OG.lR X112 hx hZ hby rfl e112 f44 (by decide) rfl at_106 rfl ?_
      refine OG.aloadN X112 hx hby at_107 rfl rfl rfl ?_
      refine OG.iloadN X112 hx hby at_108 rfl rfl ?_
      refine OG.lR X112 hx hZ hby rfl e112 f44 (by decide) rfl at_109 rfl ?_
      refine OG.cV X112 hx hZ hby (by rw [hml]; rfl) hown (y := (⟨"com/example/stutter/stutter/values/Value$Kind", "comparableWith", "(Lcom/example/stutter/stutter/values/Value$Kind;)Z"⟩ : MethodName)) (z := (⟨"com/example/stutter/stutter/values/Value$Kind", "comparableWith", "(Lcom/example/stutter/stutter/values/Value$Kind;)Z"⟩ : MethodName)) (hw _ (List.mem_of_getElem? (i := 17) rfl)) (hw _ (List.mem_of_getElem? (i := 18) rfl)) (notFace_of_selects (args := #[]) (mvT hZ (hw _ (List.mem_of_getElem? (i := 20) rfl)))) (hw _ (List.mem_of_getElem? (i := 20) rfl)) (hw _ (List.mem_of_getElem? (i := 19) rfl)) (hw _ (List.mem_of_getElem? (i := 21) rfl)) (hw _ (List.mem_of_getElem? (i := 3) rfl)) (by decide) (own_rm_cmp l Z a0 hw [] w5 w4 w5 (1 : Int32) h43 n0 (Nat.le_trans (Nat.le_trans (Nat.le_trans (Nat.le_trans (Nat.le_trans (Nat.le_trans (Nat.le_trans Z0 E1.1) (Nat.le_of_eq (Wr.size W13).symm)) (Nat.le_of_eq (Wr.size W19).symm)) (Nat.le_of_eq (Wr.size W25).symm)) (Nat.le_of_eq (Wr.size W31).symm)) (Nat.le_of_eq (Wr.size W37).symm)) (Nat.le_of_eq (Wr.size W43).symm)) f47 (by simp [hn5_4, hn4_5])) f53 e112 (argsL := [(.ref w4)]) (stk := [(.ref w4), (.ref w5)]) (st := []) own_pd_0 rfl rfl rfl (W := 0) rfl (by decide) (by decide) (by decide) (by decide) at_110 rfl ?_
      intro T113 L113 v113 X113 q113
      obtain ⟨rfl, N113, e113⟩ := q113
      have M113 := Fr.app M112 N113
      show OG.Go _ _ _ _ _ _ _ (T113.setTop (mkF m 113 #[.val (.int p1), .val (.int p2), .val (.ref b1), .val (.int (4 : Int32)), .val (.int (5 : Int32)), .val (.int (1 : Int32)), .val (.int (1 : Int32)), .unset] [(.int (1 : Int32))]))
      refine OG.istore (Ls' := #[.val (.int p1), .val (.int p2), .val (.ref b1), .val (.int (4 : Int32)), .val (.int (5 : Int32)), .val (.int (1 : Int32)), .val (.int (1 : Int32)), .val (.int (1 : Int32))]) X113 hx hby at_113 rfl rfl ?_
      refine OG.iload X113 hx hby at_115 rfl rfl ?_
      refine OG.iload X113 hx hby at_117 rfl rfl ?_
      refine OG.icmpNo X113 hx hby at_119 (teq (by decide)).2 rfl ?_
      refine OG.iload X113 hx hby at_122 rfl rfl ?_
      refine OG.iload X113 hx hby at_124 rfl rfl ?_
      refine OG.icmpNo X113 hx hby at_126 (teq (by decide)).2 rfl ?_
      refine OG.iconst (v := (1 : Int32)) X113 hx hby at_129 (by decide) rfl ?_
      refine OG.goto (pc' := 134) X113 hx hby at_130 (by decide) (by decide) ?_
      refine OG.retZ X113 hx hby Bd.returns (by simp) at_134 Bd.notSynchronized (by decide) (by decide) ?_
      exact ⟨rfl, M113⟩
  · rw [hi49]
    refine OG.istoreN (Ls' := #[.val (.int p1), .val (.int p2), .val (.ref b1), .val (.int (5 : Int32)), .unset, .unset, .unset, .unset]) X43 hx hby at_49 rfl rfl ?_
    refine OG.iloadN X43 hx hby at_50 rfl rfl ?_
    refine OG.ldcI (v := (2147483647 : Int32)) X43 hx hZ hby hown (hw _ (List.mem_of_getElem? (i := 16) rfl)) at_51 rfl ?_
    refine OG.iand X43 hx hby at_53 rfl ?_
    refine OG.bipush (v := (6 : Int32)) X43 hx hby at_54 (by decide) rfl ?_
    refine OG.irem X43 hx hby at_56 (by decide) rfl ?_
    rcases own_mod6 p2 with hi57 | hi57 | hi57 | hi57 | hi57 | hi57
    · rw [hi57]
      refine OG.istore (Ls' := #[.val (.int p1), .val (.int p2), .val (.ref b1), .val (.int (5 : Int32)), .val (.int (0 : Int32)), .unset, .unset, .unset]) X43 hx hby at_57 rfl rfl ?_
      refine OG.iloadN X43 hx hby at_59 rfl rfl ?_
      refine OG.iload X43 hx hby at_60 rfl rfl ?_
      refine OG.icmpYes (pc' := 71) X43 hx hby at_62 (feq (by decide)).2 (by decide) (by decide) ?_
      refine OG.iloadN X43 hx hby at_71 rfl rfl ?_
      refine OG.iconst (v := (5 : Int32)) X43 hx hby at_72 (by decide) rfl ?_
      refine OG.icmpYes (pc' := 82) X43 hx hby at_73 (teq (by decide)).1 (by decide) (by decide) ?_
      refine OG.iconst (v := (1 : Int32)) X43 hx hby at_82 (by decide) rfl ?_
      refine OG.istore (Ls' := #[.val (.int p1), .val (.int p2), .val (.ref b1), .val (.int (5 : Int32)), .val (.int (0 : Int32)), .val (.int (1 : Int32)), .unset, .unset]) X43 hx hby at_83 rfl rfl ?_
      refine OG.goto (pc' := 91) X43 hx hby at_85 (by decide) (by decide) ?_
      refine OG.aloadN X43 hx hby at_91 rfl rfl rfl ?_
      refine OG.iloadN X43 hx hby at_92 rfl rfl ?_
      refine OG.lR X43 hx hZ hby rfl e43 f44 (by decide) rfl at_93 rfl ?_
      refine OG.aloadN X43 hx hby at_94 rfl rfl rfl ?_
      refine OG.iload X43 hx hby at_95 rfl rfl ?_
      refine OG.lR X43 hx hZ hby rfl e43 f44 (by decide) rfl at_97 rfl ?_
      refine OG.cV X43 hx hZ hby (by rw [hml]; rfl) hown (y := (⟨"com/example/stutter/stutter/values/Value$Kind", "comparableWith", "(Lcom/example/stutter/stutter/values/Value$Kind;)Z"⟩ : MethodName)) (z := (⟨"com/example/stutter/stutter/values/Value$Kind", "comparableWith", "(Lcom/example/stutter/stutter/values/Value$Kind;)Z"⟩ : MethodName)) (hw _ (List.mem_of_getElem? (i := 17) rfl)) (hw _ (List.mem_of_getElem? (i := 18) rfl)) (notFace_of_selects (args := #[]) (mvT hZ (hw _ (List.mem_of_getElem? (i := 20) rfl)))) (hw _ (List.mem_of_getElem? (i := 20) rfl)) (hw _ (List.mem_of_getElem? (i := 19) rfl)) (hw _ (List.mem_of_getElem? (i := 21) rfl)) (hw _ (List.mem_of_getElem? (i := 3) rfl)) (by decide) (own_rm_cmp l Z a0 hw [] w5 w0 w5 (1 : Int32) h43 n0 (Nat.le_trans (Nat.le_trans (Nat.le_trans (Nat.le_trans (Nat.le_trans (Nat.le_trans (Nat.le_trans Z0 E1.1) (Nat.le_of_eq (Wr.size W13).symm)) (Nat.le_of_eq (Wr.size W19).symm)) (Nat.le_of_eq (Wr.size W25).symm)) (Nat.le_of_eq (Wr.size W31).symm)) (Nat.le_of_eq (Wr.size W37).symm)) (Nat.le_of_eq (Wr.size W43).symm)) f47 (by simp [hn5_0, hn0_5])) f53 e43 (argsL := [(.ref w0)]) (stk := [(.ref w0), (.ref w5)]) (st := []) own_pd_0 rfl rfl rfl (W := 0) rfl (by decide) (by decide) (by decide) (by decide) at_98 rfl ?_
      intro T114 L114 v114 X114 q114
      obtain ⟨rfl, N114, e114⟩ := q114
      have M114 := Fr.app N46 N114
      show OG.Go _ _ _ _ _ _ _ (T114.setTop (mkF m 101 #[.val (.int p1), .val (.int p2), .val (.ref b1), .val (.int (5 : Int32)), .val (.int (0 : Int32)), .val (.int (1 : Int32)), .unset, .unset] [(.int (1 : Int32))]))
      refine OG.istore (Ls' := #[.val (.int p1), .val (.int p2), .val (.ref b1), .val (.int (5 : Int32)), .val (.int (0 : Int32)), .val (.int (1 : Int32)), .val (.int (1 : Int32)), .unset]) X114 hx hby at_101 rfl rfl ?_
      refine OG.aloadN X114 hx hby at_103 rfl rfl rfl ?_
      refine OG.iload X114 hx hby at_104 rfl rfl ?_
      refine OG.lR X114 hx hZ hby rfl e114 f44 (by decide) rfl at_106 rfl ?_
      refine OG.aloadN X114 hx hby at_107 rfl rfl rfl ?_
      refine OG.iloadN X114 hx hby at_108 rfl rfl ?_
      refine OG.lR X114 hx hZ hby rfl e114 f44 (by decide) rfl at_109 rfl ?_
      refine OG.cV X114 hx hZ hby (by rw [hml]; rfl) hown (y := (⟨"com/example/stutter/stutter/values/Value$Kind", "comparableWith", "(Lcom/example/stutter/stutter/values/Value$Kind;)Z"⟩ : MethodName)) (z := (⟨"com/example/stutter/stutter/values/Value$Kind", "comparableWith", "(Lcom/example/stutter/stutter/values/Value$Kind;)Z"⟩ : MethodName)) (hw _ (List.mem_of_getElem? (i := 17) rfl)) (hw _ (List.mem_of_getElem? (i := 18) rfl)) (notFace_of_selects (args := #[]) (mvT hZ (hw _ (List.mem_of_getElem? (i := 20) rfl)))) (hw _ (List.mem_of_getElem? (i := 20) rfl)) (hw _ (List.mem_of_getElem? (i := 19) rfl)) (hw _ (List.mem_of_getElem? (i := 21) rfl)) (hw _ (List.mem_of_getElem? (i := 3) rfl)) (by decide) (own_rm_cmp l Z a0 hw [] w0 w5 w5 (1 : Int32) h43 n0 (Nat.le_trans (Nat.le_trans (Nat.le_trans (Nat.le_trans (Nat.le_trans (Nat.le_trans (Nat.le_trans Z0 E1.1) (Nat.le_of_eq (Wr.size W13).symm)) (Nat.le_of_eq (Wr.size W19).symm)) (Nat.le_of_eq (Wr.size W25).symm)) (Nat.le_of_eq (Wr.size W31).symm)) (Nat.le_of_eq (Wr.size W37).symm)) (Nat.le_of_eq (Wr.size W43).symm)) f47 (by simp [hn0_5])) f48 e114 (argsL := [(.ref w5)]) (stk := [(.ref w5), (.ref w0)]) (st := []) own_pd_0 rfl rfl rfl (W := 0) rfl (by decide) (by decide) (by decide) (by decide) at_110 rfl ?_
      intro T115 L115 v115 X115 q115
      obtain ⟨rfl, N115, e115⟩ := q115
      have M115 := Fr.app M114 N115
      show OG.Go _ _ _ _ _ _ _ (T115.setTop (mkF m 113 #[.val (.int p1), .val (.int p2), .val (.ref b1), .val (.int (5 : Int32)), .val (.int (0 : Int32)), .val (.int (1 : Int32)), .val (.int (1 : Int32)), .unset] [(.int (1 : Int32))]))
      refine OG.istore (Ls' := #[.val (.int p1), .val (.int p2), .val (.ref b1), .val (.int (5 : Int32)), .val (.int (0 : Int32)), .val (.int (1 : Int32)), .val (.int (1 : Int32)), .val (.int (1 : Int32))]) X115 hx hby at_113 rfl rfl ?_
      refine OG.iload X115 hx hby at_115 rfl rfl ?_
      refine OG.iload X115 hx hby at_117 rfl rfl ?_
      refine OG.icmpNo X115 hx hby at_119 (teq (by decide)).2 rfl ?_
      refine OG.iload X115 hx hby at_122 rfl rfl ?_
      refine OG.iload X115 hx hby at_124 rfl rfl ?_
      refine OG.icmpNo X115 hx hby at_126 (teq (by decide)).2 rfl ?_
      refine OG.iconst (v := (1 : Int32)) X115 hx hby at_129 (by decide) rfl ?_
      refine OG.goto (pc' := 134) X115 hx hby at_130 (by decide) (by decide) ?_
      refine OG.retZ X115 hx hby Bd.returns (by simp) at_134 Bd.notSynchronized (by decide) (by decide) ?_
      exact ⟨rfl, M115⟩
    · rw [hi57]
      refine OG.istore (Ls' := #[.val (.int p1), .val (.int p2), .val (.ref b1), .val (.int (5 : Int32)), .val (.int (1 : Int32)), .unset, .unset, .unset]) X43 hx hby at_57 rfl rfl ?_
      refine OG.iloadN X43 hx hby at_59 rfl rfl ?_
      refine OG.iload X43 hx hby at_60 rfl rfl ?_
      refine OG.icmpYes (pc' := 71) X43 hx hby at_62 (feq (by decide)).2 (by decide) (by decide) ?_
      refine OG.iloadN X43 hx hby at_71 rfl rfl ?_
      refine OG.iconst (v := (5 : Int32)) X43 hx hby at_72 (by decide) rfl ?_
      refine OG.icmpYes (pc' := 82) X43 hx hby at_73 (teq (by decide)).1 (by decide) (by decide) ?_
      refine OG.iconst (v := (1 : Int32)) X43 hx hby at_82 (by decide) rfl ?_
      refine OG.istore (Ls' := #[.val (.int p1), .val (.int p2), .val (.ref b1), .val (.int (5 : Int32)), .val (.int (1 : Int32)), .val (.int (1 : Int32)), .unset, .unset]) X43 hx hby at_83 rfl rfl ?_
      refine OG.goto (pc' := 91) X43 hx hby at_85 (by decide) (by decide) ?_
      refine OG.aloadN X43 hx hby at_91 rfl rfl rfl ?_
      refine OG.iloadN X43 hx hby at_92 rfl rfl ?_
      refine OG.lR X43 hx hZ hby rfl e43 f44 (by decide) rfl at_93 rfl ?_
      refine OG.aloadN X43 hx hby at_94 rfl rfl rfl ?_
      refine OG.iload X43 hx hby at_95 rfl rfl ?_
      refine OG.lR X43 hx hZ hby rfl e43 f44 (by decide) rfl at_97 rfl ?_
      refine OG.cV X43 hx hZ hby (by rw [hml]; rfl) hown (y := (⟨"com/example/stutter/stutter/values/Value$Kind", "comparableWith", "(Lcom/example/stutter/stutter/values/Value$Kind;)Z"⟩ : MethodName)) (z := (⟨"com/example/stutter/stutter/values/Value$Kind", "comparableWith", "(Lcom/example/stutter/stutter/values/Value$Kind;)Z"⟩ : MethodName)) (hw _ (List.mem_of_getElem? (i := 17) rfl)) (hw _ (List.mem_of_getElem? (i := 18) rfl)) (notFace_of_selects (args := #[]) (mvT hZ (hw _ (List.mem_of_getElem? (i := 20) rfl)))) (hw _ (List.mem_of_getElem? (i := 20) rfl)) (hw _ (List.mem_of_getElem? (i := 19) rfl)) (hw _ (List.mem_of_getElem? (i := 21) rfl)) (hw _ (List.mem_of_getElem? (i := 3) rfl)) (by decide) (own_rm_cmp l Z a0 hw [] w5 w1 w5 (1 : Int32) h43 n0 (Nat.le_trans (Nat.le_trans (Nat.le_trans (Nat.le_trans (Nat.le_trans (Nat.le_trans (Nat.le_trans Z0 E1.1) (Nat.le_of_eq (Wr.size W13).symm)) (Nat.le_of_eq (Wr.size W19).symm)) (Nat.le_of_eq (Wr.size W25).symm)) (Nat.le_of_eq (Wr.size W31).symm)) (Nat.le_of_eq (Wr.size W37).symm)) (Nat.le_of_eq (Wr.size W43).symm)) f47 (by simp [hn5_1, hn1_5])) f53 e43 (argsL := [(.ref w1)]) (stk := [(.ref w1), (.ref w5)]) (st := []) own_pd_0 rfl rfl rfl (W := 0) rfl (by decide) (by decide) (by decide) (by decide) at_98 rfl ?_
      intro T116 L116 v116 X116 q116
      obtain ⟨rfl, N116, e116⟩ := q116
      have M116 := Fr.app N46 N116
      show OG.Go _ _ _ _ _ _ _ (T116.setTop (mkF m 101 #[.val (.int p1), .val (.int p2), .val (.ref b1), .val (.int (5 : Int32)), .val (.int (1 : Int32)), .val (.int (1 : Int32)), .unset, .unset] [(.int (1 : Int32))]))
      refine OG.istore (Ls' := #[.val (.int p1), .val (.int p2), .val (.ref b1), .val (.int (5 : Int32)), .val (.int (1 : Int32)), .val (.int (1 : Int32)), .val (.int (1 : Int32)), .unset]) X116 hx hby at_101 rfl rfl ?_
      refine OG.aloadN X116 hx hby at_103 rfl rfl rfl ?_
      refine OG.iload X116 hx hby at_104 rfl rfl ?_
      refine OG.lR X116 hx hZ hby rfl e116 f44 (by decide) rfl at_106 rfl ?_
      refine OG.aloadN X116 hx hby at_107 rfl rfl rfl ?_
      refine OG.iloadN X116 hx hby at_108 rfl rfl ?_
      refine OG.lR X116 hx hZ hby rfl e116 f44 (by decide) rfl at_109 rfl ?_
      refine OG.cV X116 hx hZ hby (by rw [hml]; rfl) hown (y := (⟨"com/example/stutter/stutter/values/Value$Kind", "comparableWith", "(Lcom/example/stutter/stutter/values/Value$Kind;)Z"⟩ : MethodName)) (z := (⟨"com/example/stutter/stutter/values/Value$Kind", "comparableWith", "(Lcom/example/stutter/stutter/values/Value$Kind;)Z"⟩ : MethodName)) (hw _ (List.mem_of_getElem? (i := 17) rfl)) (hw _ (List.mem_of_getElem? (i := 18) rfl)) (notFace_of_selects (args := #[]) (mvT hZ (hw _ (List.mem_of_getElem? (i := 20) rfl)))) (hw _ (List.mem_of_getElem? (i := 20) rfl)) (hw _ (List.mem_of_getElem? (i := 19) rfl)) (hw _ (List.mem_of_getElem? (i := 21) rfl)) (hw _ (List.mem_of_getElem? (i := 3) rfl)) (by decide) (own_rm_cmp l Z a0 hw [] w1 w5 w5 (1 : Int32) h43 n0 (Nat.le_trans (Nat.le_trans (Nat.le_trans (Nat.le_trans (Nat.le_trans (Nat.le_trans (Nat.le_trans Z0 E1.1) (Nat.le_of_eq (Wr.size W13).symm)) (Nat.le_of_eq (Wr.size W19).symm)) (Nat.le_of_eq (Wr.size W25).symm)) (Nat.le_of_eq (Wr.size W31).symm)) (Nat.le_of_eq (Wr.size W37).symm)) (Nat.le_of_eq (Wr.size W43).symm)) f47 (by simp [hn1_5])) f49 e116 (argsL := [(.ref w5)]) (stk := [(.ref w5), (.ref w1)]) (st := []) own_pd_0 rfl rfl rfl (W := 0) rfl (by decide) (by decide) (by decide) (by decide) at_110 rfl ?_
      intro T117 L117 v117 X117 q117
      obtain ⟨rfl, N117, e117⟩ := q117
      have M117 := Fr.app M116 N117
      show OG.Go _ _ _ _ _ _ _ (T117.setTop (mkF m 113 #[.val (.int p1), .val (.int p2), .val (.ref b1), .val (.int (5 : Int32)), .val (.int (1 : Int32)), .val (.int (1 : Int32)), .val (.int (1 : Int32)), .unset] [(.int (1 : Int32))]))
      refine OG.istore (Ls' := #[.val (.int p1), .val (.int p2), .val (.ref b1), .val (.int (5 : Int32)), .val (.int (1 : Int32)), .val (.int (1 : Int32)), .val (.int (1 : Int32)), .val (.int (1 : Int32))]) X117 hx hby at_113 rfl rfl ?_
      refine OG.iload X117 hx hby at_115 rfl rfl ?_
      refine OG.iload X117 hx hby at_117 rfl rfl ?_
      refine OG.icmpNo X117 hx hby at_119 (teq (by decide)).2 rfl ?_
      refine OG.iload X117 hx hby at_122 rfl rfl ?_
      refine OG.iload X117 hx hby at_124 rfl rfl ?_
      refine OG.icmpNo X117 hx hby at_126 (teq (by decide)).2 rfl ?_
      refine OG.iconst (v := (1 : Int32)) X117 hx hby at_129 (by decide) rfl ?_
      refine OG.goto (pc' := 134) X117 hx hby at_130 (by decide) (by decide) ?_
      refine OG.retZ X117 hx hby Bd.returns (by simp) at_134 Bd.notSynchronized (by decide) (by decide) ?_
      exact ⟨rfl, M117⟩
    · rw [hi57]
      refine OG.istore (Ls' := #[.val (.int p1), .val (.int p2), .val (.ref b1), .val (.int (5 : Int32)), .val (.int (2 : Int32)), .unset, .unset, .unset]) X43 hx hby at_57 rfl rfl ?_
      refine OG.iloadN X43 hx hby at_59 rfl rfl ?_
      refine OG.iload X43 hx hby at_60 rfl rfl ?_
      refine OG.icmpYes (pc' := 71) X43 hx hby at_62 (feq (by decide)).2 (by decide) (by decide) ?_
      refine OG.iloadN X43 hx hby at_71 rfl rfl ?_
      refine OG.iconst (v := (5 : Int32)) X43 hx hby at_72 (by decide) rfl ?_
      refine OG.icmpYes (pc' := 82) X43 hx hby at_73 (teq (by decide)).1 (by decide) (by decide) ?_
      refine OG.iconst (v := (1 : Int32)) X43 hx hby at_82 (by decide) rfl ?_
      refine OG.istore (Ls' := #[.val (.int p1), .val (.int p2), .val (.ref b1), .val (.int (5 : Int32)), .val (.int (2 : Int32)), .val (.int (1 : Int32)), .unset, .unset]) X43 hx hby at_83 rfl rfl ?_
      refine OG.goto (pc' := 91) X43 hx hby at_85 (by decide) (by decide) ?_
      refine OG.aloadN X43 hx hby at_91 rfl rfl rfl ?_
      refine OG.iloadN X43 hx hby at_92 rfl rfl ?_
      refine OG.lR X43 hx hZ hby rfl e43 f44 (by decide) rfl at_93 rfl ?_
      refine OG.aloadN X43 hx hby at_94 rfl rfl rfl ?_
      refine OG.iload X43 hx hby at_95 rfl rfl ?_
      refine OG.lR X43 hx hZ hby rfl e43 f44 (by decide) rfl at_97 rfl ?_
      refine OG.cV X43 hx hZ hby (by rw [hml]; rfl) hown (y := (⟨"com/example/stutter/stutter/values/Value$Kind", "comparableWith", "(Lcom/example/stutter/stutter/values/Value$Kind;)Z"⟩ : MethodName)) (z := (⟨"com/example/stutter/stutter/values/Value$Kind", "comparableWith", "(Lcom/example/stutter/stutter/values/Value$Kind;)Z"⟩ : MethodName)) (hw _ (List.mem_of_getElem? (i := 17) rfl)) (hw _ (List.mem_of_getElem? (i := 18) rfl)) (notFace_of_selects (args := #[]) (mvT hZ (hw _ (List.mem_of_getElem? (i := 20) rfl)))) (hw _ (List.mem_of_getElem? (i := 20) rfl)) (hw _ (List.mem_of_getElem? (i := 19) rfl)) (hw _ (List.mem_of_getElem? (i := 21) rfl)) (hw _ (List.mem_of_getElem? (i := 3) rfl)) (by decide) (own_rm_cmp l Z a0 hw [] w5 w2 w5 (1 : Int32) h43 n0 (Nat.le_trans (Nat.le_trans (Nat.le_trans (Nat.le_trans (Nat.le_trans (Nat.le_trans (Nat.le_trans Z0 E1.1) (Nat.le_of_eq (Wr.size W13).symm)) (Nat.le_of_eq (Wr.size W19).symm)) (Nat.le_of_eq (Wr.size W25).symm)) (Nat.le_of_eq (Wr.size W31).symm)) (Nat.le_of_eq (Wr.size W37).symm)) (Nat.le_of_eq (Wr.size W43).symm)) f47 (by simp [hn5_2, hn2_5])) f53 e43 (argsL := [(.ref w2)]) (stk := [(.ref w2), (.ref w5)]) (st := []) own_pd_0 rfl rfl rfl (W := 0) rfl (by decide) (by decide) (by decide) (by decide) at_98 rfl ?_
      intro T118 L118 v118 X118 q118
      obtain ⟨rfl, N118, e118⟩ := q118
      have M118 := Fr.app N46 N118
      show OG.Go _ _ _ _ _ _ _ (T118.setTop (mkF m 101 #[.val (.int p1), .val (.int p2), .val (.ref b1), .val (.int (5 : Int32)), .val (.int (2 : Int32)), .val (.int (1 : Int32)), .unset, .unset] [(.int (1 : Int32))]))
      refine OG.istore (Ls' := #[.val (.int p1), .val (.int p2), .val (.ref b1), .val (.int (5 : Int32)), .val (.int (2 : Int32)), .val (.int (1 : Int32)), .val (.int (1 : Int32)), .unset]) X118 hx hby at_101 rfl rfl ?_
      refine OG.aloadN X118 hx hby at_103 rfl rfl rfl ?_
      refine OG.iload X118 hx hby at_104 rfl rfl ?_
      refine OG.lR X118 hx hZ hby rfl e118 f44 (by decide) rfl at_106 rfl ?_
      refine OG.aloadN X118 hx hby at_107 rfl rfl rfl ?_
      refine OG.iloadN X118 hx hby at_108 rfl rfl ?_
      refine OG.lR X118 hx hZ hby rfl e118 f44 (by decide) rfl at_109 rfl ?_
      refine OG.cV X118 hx hZ hby (by rw [hml]; rfl) hown (y := (⟨"com/example/stutter/stutter/values/Value$Kind", "comparableWith", "(Lcom/example/stutter/stutter/values/Value$Kind;)Z"⟩ : MethodName)) (z := (⟨"com/example/stutter/stutter/values/Value$Kind", "comparableWith", "(Lcom/example/stutter/stutter/values/Value$Kind;)Z"⟩ : MethodName)) (hw _ (List.mem_of_getElem? (i := 17) rfl)) (hw _ (List.mem_of_getElem? (i := 18) rfl)) (notFace_of_selects (args := #[]) (mvT hZ (hw _ (List.mem_of_getElem? (i := 20) rfl)))) (hw _ (List.mem_of_getElem? (i := 20) rfl)) (hw _ (List.mem_of_getElem? (i := 19) rfl)) (hw _ (List.mem_of_getElem? (i := 21) rfl)) (hw _ (List.mem_of_getElem? (i := 3) rfl)) (by decide) (own_rm_cmp l Z a0 hw [] w2 w5 w5 (1 : Int32) h43 n0 (Nat.le_trans (Nat.le_trans (Nat.le_trans (Nat.le_trans (Nat.le_trans (Nat.le_trans (Nat.le_trans Z0 E1.1) (Nat.le_of_eq (Wr.size W13).symm)) (Nat.le_of_eq (Wr.size W19).symm)) (Nat.le_of_eq (Wr.size W25).symm)) (Nat.le_of_eq (Wr.size W31).symm)) (Nat.le_of_eq (Wr.size W37).symm)) (Nat.le_of_eq (Wr.size W43).symm)) f47 (by simp [hn2_5])) f50 e118 (argsL := [(.ref w5)]) (stk := [(.ref w5), (.ref w2)]) (st := []) own_pd_0 rfl rfl rfl (W := 0) rfl (by decide) (by decide) (by decide) (by decide) at_110 rfl ?_
      intro T119 L119 v119 X119 q119
      obtain ⟨rfl, N119, e119⟩ := q119
      have M119 := Fr.app M118 N119
      show OG.Go _ _ _ _ _ _ _ (T119.setTop (mkF m 113 #[.val (.int p1), .val (.int p2), .val (.ref b1), .val (.int (5 : Int32)), .val (.int (2 : Int32)), .val (.int (1 : Int32)), .val (.int (1 : Int32)), .unset] [(.int (1 : Int32))]))
      refine OG.istore (Ls' := #[.val (.int p1), .val (.int p2), .val (.ref b1), .val (.int (5 : Int32)), .val (.int (2 : Int32)), .val (.int (1 : Int32)), .val (.int (1 : Int32)), .val (.int (1 : Int32))]) X119 hx hby at_113 rfl rfl ?_
      refine OG.iload X119 hx hby at_115 rfl rfl ?_
      refine OG.iload X119 hx hby at_117 rfl rfl ?_
      refine OG.icmpNo X119 hx hby at_119 (teq (by decide)).2 rfl ?_
      refine OG.iload X119 hx hby at_122 rfl rfl ?_
      refine OG.iload X119 hx hby at_124 rfl rfl ?_
      refine OG.icmpNo X119 hx hby at_126 (teq (by decide)).2 rfl ?_
      refine OG.iconst (v := (1 : Int32)) X119 hx hby at_129 (by decide) rfl ?_
      refine OG.goto (pc' := 134) X119 hx hby at_130 (by decide) (by decide) ?_
      refine OG.retZ X119 hx hby Bd.returns (by simp) at_134 Bd.notSynchronized (by decide) (by decide) ?_
      exact ⟨rfl, M119⟩
    · rw [hi57]
      refine OG.istore (Ls' := #[.val (.int p1), .val (.int p2), .val (.ref b1), .val (.int (5 : Int32)), .val (.int (3 : Int32)), .unset, .unset, .unset]) X43 hx hby at_57 rfl rfl ?_
      refine OG.iloadN X43 hx hby at_59 rfl rfl ?_
      refine OG.iload X43 hx hby at_60 rfl rfl ?_
      refine OG.icmpYes (pc' := 71) X43 hx hby at_62 (feq (by decide)).2 (by decide) (by decide) ?_
      refine OG.iloadN X43 hx hby at_71 rfl rfl ?_
      refine OG.iconst (v := (5 : Int32)) X43 hx hby at_72 (by decide) rfl ?_
      refine OG.icmpYes (pc' := 82) X43 hx hby at_73 (teq (by decide)).1 (by decide) (by decide) ?_
      refine OG.iconst (v := (1 : Int32)) X43 hx hby at_82 (by decide) rfl ?_
      refine OG.istore (Ls' := #[.val (.int p1), .val (.int p2), .val (.ref b1), .val (.int (5 : Int32)), .val (.int (3 : Int32)), .val (.int (1 : Int32)), .unset, .unset]) X43 hx hby at_83 rfl rfl ?_
      refine OG.goto (pc' := 91) X43 hx hby at_85 (by decide) (by decide) ?_
      refine OG.aloadN X43 hx hby at_91 rfl rfl rfl ?_
      refine OG.iloadN X43 hx hby at_92 rfl rfl ?_
      refine OG.lR X43 hx hZ hby rfl e43 f44 (by decide) rfl at_93 rfl ?_
      refine OG.aloadN X43 hx hby at_94 rfl rfl rfl ?_
      refine OG.iload X43 hx hby at_95 rfl rfl ?_
      refine OG.lR X43 hx hZ hby rfl e43 f44 (by decide) rfl at_97 rfl ?_
      refine OG.cV X43 hx hZ hby (by rw [hml]; rfl) hown (y := (⟨"com/example/stutter/stutter/values/Value$Kind", "comparableWith", "(Lcom/example/stutter/stutter/values/Value$Kind;)Z"⟩ : MethodName)) (z := (⟨"com/example/stutter/stutter/values/Value$Kind", "comparableWith", "(Lcom/example/stutter/stutter/values/Value$Kind;)Z"⟩ : MethodName)) (hw _ (List.mem_of_getElem? (i := 17) rfl)) (hw _ (List.mem_of_getElem? (i := 18) rfl)) (notFace_of_selects (args := #[]) (mvT hZ (hw _ (List.mem_of_getElem? (i := 20) rfl)))) (hw _ (List.mem_of_getElem? (i := 20) rfl)) (hw _ (List.mem_of_getElem? (i := 19) rfl)) (hw _ (List.mem_of_getElem? (i := 21) rfl)) (hw _ (List.mem_of_getElem? (i := 3) rfl)) (by decide) (own_rm_cmp l Z a0 hw [] w5 w3 w5 (1 : Int32) h43 n0 (Nat.le_trans (Nat.le_trans (Nat.le_trans (Nat.le_trans (Nat.le_trans (Nat.le_trans (Nat.le_trans Z0 E1.1) (Nat.le_of_eq (Wr.size W13).symm)) (Nat.le_of_eq (Wr.size W19).symm)) (Nat.le_of_eq (Wr.size W25).symm)) (Nat.le_of_eq (Wr.size W31).symm)) (Nat.le_of_eq (Wr.size W37).symm)) (Nat.le_of_eq (Wr.size W43).symm)) f47 (by simp [hn5_3, hn3_5])) f53 e43 (argsL := [(.ref w3)]) (stk := [(.ref w3), (.ref w5)]) (st := []) own_pd_0 rfl rfl rfl (W := 0) rfl (by decide) (by decide) (by decide) (by decide) at_98 rfl ?_
      intro T120 L120 v120 X120 q120
      obtain ⟨rfl, N120, e120⟩ := q120
      have M120 := Fr.app N46 N120
      show OG.Go _ _ _ _ _ _ _ (T120.setTop (mkF m 101 #[.val (.int p1), .val (.int p2), .val (.ref b1), .val (.int (5 : Int32)), .val (.int (3 : Int32)), .val (.int (1 : Int32)), .unset, .unset] [(.int (1 : Int32))]))
      refine OG.istore (Ls' := #[.val (.int p1), .val (.int p2), .val (.ref b1), .val (.int (5 : Int32)), .val (.int (3 : Int32)), .val (.int (1 : Int32)), .val (.int (1 : Int32)), .unset]) X120 hx hby at_101 rfl rfl ?_
      refine OG.aloadN X120 hx hby at_103 rfl rfl rfl ?_
      refine OG.iload X120 hx hby at_104 rfl rfl ?_
      refine OG.lR X120 hx hZ hby rfl e120 f44 (by decide) rfl at_106 rfl ?_
      refine OG.aloadN X120 hx hby at_107 rfl rfl rfl ?_
      refine OG.iloadN X120 hx hby at_108 rfl rfl ?_
      refine OG.lR X120 hx hZ hby rfl e120 f44 (by decide) rfl at_109 rfl ?_
      refine OG.cV X120 hx hZ hby (by rw [hml]; rfl) hown (y := (⟨"com/example/stutter/stutter/values/Value$Kind", "comparableWith", "(Lcom/example/stutter/stutter/values/Value$Kind;)Z"⟩ : MethodName)) (z := (⟨"com/example/stutter/stutter/values/Value$Kind", "comparableWith", "(Lcom/example/stutter/stutter/values/Value$Kind;)Z"⟩ : MethodName)) (hw _ (List.mem_of_getElem? (i := 17) rfl)) (hw _ (List.mem_of_getElem? (i := 18) rfl)) (notFace_of_selects (args := #[]) (mvT hZ (hw _ (List.mem_of_getElem? (i := 20) rfl)))) (hw _ (List.mem_of_getElem? (i := 20) rfl)) (hw _ (List.mem_of_getElem? (i := 19) rfl)) (hw _ (List.mem_of_getElem? (i := 21) rfl)) (hw _ (List.mem_of_getElem? (i := 3) rfl)) (by decide) (own_rm_cmp l Z a0 hw [] w3 w5 w5 (1 : Int32) h43 n0 (Nat.le_trans (Nat.le_trans (Nat.le_trans (Nat.le_trans (Nat.le_trans (Nat.le_trans (Nat.le_trans Z0 E1.1) (Nat.le_of_eq (Wr.size W13).symm)) (Nat.le_of_eq (Wr.size W19).symm)) (Nat.le_of_eq (Wr.size W25).symm)) (Nat.le_of_eq (Wr.size W31).symm)) (Nat.le_of_eq (Wr.size W37).symm)) (Nat.le_of_eq (Wr.size W43).symm)) f47 (by simp [hn3_5])) f51 e120 (argsL := [(.ref w5)]) (stk := [(.ref w5), (.ref w3)]) (st := []) own_pd_0 rfl rfl rfl (W := 0) rfl (by decide) (by decide) (by decide) (by decide) at_110 rfl ?_
      intro T121 L121 v121 X121 q121
      obtain ⟨rfl, N121, e121⟩ := q121
      have M121 := Fr.app M120 N121
      show OG.Go _ _ _ _ _ _ _ (T121.setTop (mkF m 113 #[.val (.int p1), .val (.int p2), .val (.ref b1), .val (.int (5 : Int32)), .val (.int (3 : Int32)), .val (.int (1 : Int32)), .val (.int (1 : Int32)), .unset] [(.int (1 : Int32))]))
      refine OG.istore (Ls' := #[.val (.int p1), .val (.int p2), .val (.ref b1), .val (.int (5 : Int32)), .val (.int (3 : Int32)), .val (.int (1 : Int32)), .val (.int (1 : Int32)), .val (.int (1 : Int32))]) X121 hx hby at_113 rfl rfl ?_
      refine OG.iload X121 hx hby at_115 rfl rfl ?_
      refine OG.iload X121 hx hby at_117 rfl rfl ?_
      refine OG.icmpNo X121 hx hby at_119 (teq (by decide)).2 rfl ?_
      refine OG.iload X121 hx hby at_122 rfl rfl ?_
      refine OG.iload X121 hx hby at_124 rfl rfl ?_
      refine OG.icmpNo X121 hx hby at_126 (teq (by decide)).2 rfl ?_
      refine OG.iconst (v := (1 : Int32)) X121 hx hby at_129 (by decide) rfl ?_
      refine OG.goto (pc' := 134) X121 hx hby at_130 (by decide) (by decide) ?_
      refine OG.retZ X121 hx hby Bd.returns (by simp) at_134 Bd.notSynchronized (by decide) (by decide) ?_
      exact ⟨rfl, M121⟩
    · rw [hi57]
      refine OG.istore (Ls' := #[.val (.int p1), .val (.int p2), .val (.ref b1), .val (.int (5 : Int32)), .val (.int (4 : Int32)), .unset, .unset, .unset]) X43 hx hby at_57 rfl rfl ?_
      refine OG.iloadN X43 hx hby at_59 rfl rfl ?_
      refine OG.iload X43 hx hby at_60 rfl rfl ?_
      refine OG.icmpYes (pc' := 71) X43 hx hby at_62 (feq (by decide)).2 (by decide) (by decide) ?_
      refine OG.iloadN X43 hx hby at_71 rfl rfl ?_
      refine OG.iconst (v := (5 : Int32)) X43 hx hby at_72 (by decide) rfl ?_
      refine OG.icmpYes (pc' := 82) X43 hx hby at_73 (teq (by decide)).1 (by decide) (by decide) ?_
      refine OG.iconst (v := (1 : Int32)) X43 hx hby at_82 (by decide) rfl ?_
      refine OG.istore (Ls' := #[.val (.int p1), .val (.int p2), .val (.ref b1), .val (.int (5 : Int32)), .val (.int (4 : Int32)), .val (.int (1 : Int32)), .unset, .unset]) X43 hx hby at_83 rfl rfl ?_
      refine OG.goto (pc' := 91) X43 hx hby at_85 (by decide) (by decide) ?_
      refine OG.aloadN X43 hx hby at_91 rfl rfl rfl ?_
      refine OG.iloadN X43 hx hby at_92 rfl rfl ?_
      refine OG.lR X43 hx hZ hby rfl e43 f44 (by decide) rfl at_93 rfl ?_
      refine OG.aloadN X43 hx hby at_94 rfl rfl rfl ?_
      refine OG.iload X43 hx hby at_95 rfl rfl ?_
      refine OG.lR X43 hx hZ hby rfl e43 f44 (by decide) rfl at_97 rfl ?_
      refine OG.cV X43 hx hZ hby (by rw [hml]; rfl) hown (y := (⟨"com/example/stutter/stutter/values/Value$Kind", "comparableWith", "(Lcom/example/stutter/stutter/values/Value$Kind;)Z"⟩ : MethodName)) (z := (⟨"com/example/stutter/stutter/values/Value$Kind", "comparableWith", "(Lcom/example/stutter/stutter/values/Value$Kind;)Z"⟩ : MethodName)) (hw _ (List.mem_of_getElem? (i := 17) rfl)) (hw _ (List.mem_of_getElem? (i := 18) rfl)) (notFace_of_selects (args := #[]) (mvT hZ (hw _ (List.mem_of_getElem? (i := 20) rfl)))) (hw _ (List.mem_of_getElem? (i := 20) rfl)) (hw _ (List.mem_of_getElem? (i := 19) rfl)) (hw _ (List.mem_of_getElem? (i := 21) rfl)) (hw _ (List.mem_of_getElem? (i := 3) rfl)) (by decide) (own_rm_cmp l Z a0 hw [] w5 w4 w5 (1 : Int32) h43 n0 (Nat.le_trans (Nat.le_trans (Nat.le_trans (Nat.le_trans (Nat.le_trans (Nat.le_trans (Nat.le_trans Z0 E1.1) (Nat.le_of_eq (Wr.size W13).symm)) (Nat.le_of_eq (Wr.size W19).symm)) (Nat.le_of_eq (Wr.size W25).symm)) (Nat.le_of_eq (Wr.size W31).symm)) (Nat.le_of_eq (Wr.size W37).symm)) (Nat.le_of_eq (Wr.size W43).symm)) f47 (by simp [hn5_4, hn4_5])) f53 e43 (argsL := [(.ref w4)]) (stk := [(.ref w4), (.ref w5)]) (st := []) own_pd_0 rfl rfl rfl (W := 0) rfl (by decide) (by decide) (by decide) (by decide) at_98 rfl ?_
      intro T122 L122 v122 X122 q122
      obtain ⟨rfl, N122, e122⟩ := q122
      have M122 := Fr.app N46 N122
      show OG.Go _ _ _ _ _ _ _ (T122.setTop (mkF m 101 #[.val (.int p1), .val (.int p2), .val (.ref b1), .val (.int (5 : Int32)), .val (.int (4 : Int32)), .val (.int (1 : Int32)), .unset, .unset] [(.int (1 : Int32))]))
      refine OG.istore (Ls' := #[.val (.int p1), .val (.int p2), .val (.ref b1), .val (.int (5 : Int32)), .val (.int (4 : Int32)), .val (.int (1 : Int32)), .val (.int (1 : Int32)), .unset]) X122 hx hby at_101 rfl rfl ?_
      refine OG.aloadN X122 hx hby at_103 rfl rfl rfl ?_
      refine OG.iload X122 hx hby at_104 rfl rfl ?_
      refine OG.lR X122 hx hZ hby rfl e122 f44 (by decide) rfl at_106 rfl ?_
      refine OG.aloadN X122 hx hby at_107 rfl rfl rfl ?_
      refine OG.iloadN X122 hx hby at_108 rfl rfl ?_
      refine OG.lR X122 hx hZ hby rfl e122 f44 (by decide) rfl at_109 rfl ?_
      refine OG.cV X122 hx hZ hby (by rw [hml]; rfl) hown (y := (⟨"com/example/stutter/stutter/values/Value$Kind", "comparableWith", "(Lcom/example/stutter/stutter/values/Value$Kind;)Z"⟩ : MethodName)) (z := (⟨"com/example/stutter/stutter/values/Value$Kind", "comparableWith", "(Lcom/example/stutter/stutter/values/Value$Kind;)Z"⟩ : MethodName)) (hw _ (List.mem_of_getElem? (i := 17) rfl)) (hw _ (List.mem_of_getElem? (i := 18) rfl)) (notFace_of_selects (args := #[]) (mvT hZ (hw _ (List.mem_of_getElem? (i := 20) rfl)))) (hw _ (List.mem_of_getElem? (i := 20) rfl)) (hw _ (List.mem_of_getElem? (i := 19) rfl)) (hw _ (List.mem_of_getElem? (i := 21) rfl)) (hw _ (List.mem_of_getElem? (i := 3) rfl)) (by decide) (own_rm_cmp l Z a0 hw [] w4 w5 w5 (1 : Int32) h43 n0 (Nat.le_trans (Nat.le_trans (Nat.le_trans (Nat.le_trans (Nat.le_trans (Nat.le_trans (Nat.le_trans Z0 E1.1) (Nat.le_of_eq (Wr.size W13).symm)) (Nat.le_of_eq (Wr.size W19).symm)) (Nat.le_of_eq (Wr.size W25).symm)) (Nat.le_of_eq (Wr.size W31).symm)) (Nat.le_of_eq (Wr.size W37).symm)) (Nat.le_of_eq (Wr.size W43).symm)) f47 (by simp [hn4_5])) f52 e122 (argsL := [(.ref w5)]) (stk := [(.ref w5), (.ref w4)]) (st := []) own_pd_0 rfl rfl rfl (W := 0) rfl (by decide) (by decide) (by decide) (by decide) at_110 rfl ?_
      intro T123 L123 v123 X123 q123
      obtain ⟨rfl, N123, e123⟩ := q123
      have M123 := Fr.app M122 N123
      show OG.Go _ _ _ _ _ _ _ (T123.setTop (mkF m 113 #[.val (.int p1), .val (.int p2), .val (.ref b1), .val (.int (5 : Int32)), .val (.int (4 : Int32)), .val (.int (1 : Int32)), .val (.int (1 : Int32)), .unset] [(.int (1 : Int32))]))
      refine OG.istore (Ls' := #[.val (.int p1), .val (.int p2), .val (.ref b1), .val (.int (5 : Int32)), .val (.int (4 : Int32)), .val (.int (1 : Int32)), .val (.int (1 : Int32)), .val (.int (1 : Int32))]) X123 hx hby at_113 rfl rfl ?_
      refine OG.iload X123 hx hby at_115 rfl rfl ?_
      refine OG.iload X123 hx hby at_117 rfl rfl ?_
      refine OG.icmpNo X123 hx hby at_119 (teq (by decide)).2 rfl ?_
      refine OG.iload X123 hx hby at_122 rfl rfl ?_
      refine OG.iload X123 hx hby at_124 rfl rfl ?_
      refine OG.icmpNo X123 hx hby at_126 (teq (by decide)).2 rfl ?_
      refine OG.iconst (v := (1 : Int32)) X123 hx hby at_129 (by decide) rfl ?_
      refine OG.goto (pc' := 134) X123 hx hby at_130 (by decide) (by decide) ?_
      refine OG.retZ X123 hx hby Bd.returns (by simp) at_134 Bd.notSynchronized (by decide) (by decide) ?_
      exact ⟨rfl, M123⟩
    · rw [hi57]
      refine OG.istore (Ls' := #[.val (.int p1), .val (.int p2), .val (.ref b1), .val (.int (5 : Int32)), .val (.int (5 : Int32)), .unset, .unset, .unset]) X43 hx hby at_57 rfl rfl ?_
      refine OG.iloadN X43 hx hby at_59 rfl rfl ?_
      refine OG.iload X43 hx hby at_60 rfl rfl ?_
      refine OG.icmpNo X43 hx hby at_62 (teq (by decide)).2 rfl ?_
      refine OG.iconst (v := (1 : Int32)) X43 hx hby at_65 (by decide) rfl ?_
      refine OG.istore (Ls' := #[.val (.int p1), .val (.int p2), .val (.ref b1), .val (.int (5 : Int32)), .val (.int (5 : Int32)), .val (.int (1 : Int32)), .unset, .unset]) X43 hx hby at_66 rfl rfl ?_
      refine OG.goto (pc' := 91) X43 hx hby at_68 (by decide) (by decide) ?_
      refine OG.aloadN X43 hx hby at_91 rfl rfl rfl ?_
      refine OG.iloadN X43 hx hby at_92 rfl rfl ?_
      refine OG.lR X43 hx hZ hby rfl e43 f44 (by decide) rfl at_93 rfl ?_
      refine OG.aloadN X43 hx hby at_94 rfl rfl rfl ?_
      refine OG.iload X43 hx hby at_95 rfl rfl ?_
      refine OG.lR X43 hx hZ hby rfl e43 f44 (by decide) rfl at_97 rfl ?_
      refine OG.cV X43 hx hZ hby (by rw [hml]; rfl) hown (y := (⟨"com/example/stutter/stutter/values/Value$Kind", "comparableWith", "(Lcom/example/stutter/stutter/values/Value$Kind;)Z"⟩ : MethodName)) (z := (⟨"com/example/stutter/stutter/values/Value$Kind", "comparableWith", "(Lcom/example/stutter/stutter/values/Value$Kind;)Z"⟩ : MethodName)) (hw _ (List.mem_of_getElem? (i := 17) rfl)) (hw _ (List.mem_of_getElem? (i := 18) rfl)) (notFace_of_selects (args := #[]) (mvT hZ (hw _ (List.mem_of_getElem? (i := 20) rfl)))) (hw _ (List.mem_of_getElem? (i := 20) rfl)) (hw _ (List.mem_of_getElem? (i := 19) rfl)) (hw _ (List.mem_of_getElem? (i := 21) rfl)) (hw _ (List.mem_of_getElem? (i := 3) rfl)) (by decide) (own_rm_cmp l Z a0 hw [] w5 w5 w5 (1 : Int32) h43 n0 (Nat.le_trans (Nat.le_trans (Nat.le_trans (Nat.le_trans (Nat.le_trans (Nat.le_trans (Nat.le_trans Z0 E1.1) (Nat.le_of_eq (Wr.size W13).symm)) (Nat.le_of_eq (Wr.size W19).symm)) (Nat.le_of_eq (Wr.size W25).symm)) (Nat.le_of_eq (Wr.size W31).symm)) (Nat.le_of_eq (Wr.size W37).symm)) (Nat.le_of_eq (Wr.size W43).symm)) f47 (by simp)) f53 e43 (argsL := [(.ref w5)]) (stk := [(.ref w5), (.ref w5)]) (st := []) own_pd_0 rfl rfl rfl (W := 0) rfl (by decide) (by decide) (by decide) (by decide) at_98 rfl ?_
      intro T124 L124 v124 X124 q124
      obtain ⟨rfl, N124, e124⟩ := q124
      have M124 := Fr.app N46 N124
      show OG.Go _ _ _ _ _ _ _ (T124.setTop (mkF m 101 #[.val (.int p1), .val (.int p2), .val (.ref b1), .val (.int (5 : Int32)), .val (.int (5 : Int32)), .val (.int (1 : Int32)), .unset, .unset] [(.int (1 : Int32))]))
      refine OG.istore (Ls' := #[.val (.int p1), .val (.int p2), .val (.ref b1), .val (.int (5 : Int32)), .val (.int (5 : Int32)), .val (.int (1 : Int32)), .val (.int (1 : Int32)), .unset]) X124 hx hby at_101 rfl rfl ?_
      refine OG.aloadN X124 hx hby at_103 rfl rfl rfl ?_
      refine OG.iload X124 hx hby at_104 rfl rfl ?_
      refine OG.lR X124 hx hZ hby rfl e124 f44 (by decide) rfl at_106 rfl ?_
      refine OG.aloadN X124 hx hby at_107 rfl rfl rfl ?_
      refine OG.iloadN X124 hx hby at_108 rfl rfl ?_
      refine OG.lR X124 hx hZ hby rfl e124 f44 (by decide) rfl at_109 rfl ?_
      refine OG.cV X124 hx hZ hby (by rw [hml]; rfl) hown (y := (⟨"com/example/stutter/stutter/values/Value$Kind", "comparableWith", "(Lcom/example/stutter/stutter/values/Value$Kind;)Z"⟩ : MethodName)) (z := (⟨"com/example/stutter/stutter/values/Value$Kind", "comparableWith", "(Lcom/example/stutter/stutter/values/Value$Kind;)Z"⟩ : MethodName)) (hw _ (List.mem_of_getElem? (i := 17) rfl)) (hw _ (List.mem_of_getElem? (i := 18) rfl)) (notFace_of_selects (args := #[]) (mvT hZ (hw _ (List.mem_of_getElem? (i := 20) rfl)))) (hw _ (List.mem_of_getElem? (i := 20) rfl)) (hw _ (List.mem_of_getElem? (i := 19) rfl)) (hw _ (List.mem_of_getElem? (i := 21) rfl)) (hw _ (List.mem_of_getElem? (i := 3) rfl)) (by decide) (own_rm_cmp l Z a0 hw [] w5 w5 w5 (1 : Int32) h43 n0 (Nat.le_trans (Nat.le_trans (Nat.le_trans (Nat.le_trans (Nat.le_trans (Nat.le_trans (Nat.le_trans Z0 E1.1) (Nat.le_of_eq (Wr.size W13).symm)) (Nat.le_of_eq (Wr.size W19).symm)) (Nat.le_of_eq (Wr.size W25).symm)) (Nat.le_of_eq (Wr.size W31).symm)) (Nat.le_of_eq (Wr.size W37).symm)) (Nat.le_of_eq (Wr.size W43).symm)) f47 (by simp)) f53 e124 (argsL := [(.ref w5)]) (stk := [(.ref w5), (.ref w5)]) (st := []) own_pd_0 rfl rfl rfl (W := 0) rfl (by decide) (by decide) (by decide) (by decide) at_110 rfl ?_
      intro T125 L125 v125 X125 q125
      obtain ⟨rfl, N125, e125⟩ := q125
      have M125 := Fr.app M124 N125
      show OG.Go _ _ _ _ _ _ _ (T125.setTop (mkF m 113 #[.val (.int p1), .val (.int p2), .val (.ref b1), .val (.int (5 : Int32)), .val (.int (5 : Int32)), .val (.int (1 : Int32)), .val (.int (1 : Int32)), .unset] [(.int (1 : Int32))]))
      refine OG.istore (Ls' := #[.val (.int p1), .val (.int p2), .val (.ref b1), .val (.int (5 : Int32)), .val (.int (5 : Int32)), .val (.int (1 : Int32)), .val (.int (1 : Int32)), .val (.int (1 : Int32))]) X125 hx hby at_113 rfl rfl ?_
      refine OG.iload X125 hx hby at_115 rfl rfl ?_
      refine OG.iload X125 hx hby at_117 rfl rfl ?_
      refine OG.icmpNo X125 hx hby at_119 (teq (by decide)).2 rfl ?_
      refine OG.iload X125 hx hby at_122 rfl rfl ?_
      refine OG.iload X125 hx hby at_124 rfl rfl ?_
      refine OG.icmpNo X125 hx hby at_126 (teq (by decide)).2 rfl ?_
      refine OG.iconst (v := (1 : Int32)) X125 hx hby at_129 (by decide) rfl ?_
      refine OG.goto (pc' := 134) X125 hx hby at_130 (by decide) (by decide) ?_
      refine OG.retZ X125 hx hby Bd.returns (by simp) at_134 Bd.notSynchronized (by decide) (by decide) ?_
      exact ⟨rfl, M125⟩
set_option maxRecDepth 65536 in
set_option maxHeartbeats 40000000 in
theorem comes_1 {Post : Tables → Env → Array Value → State → Outcome → State → Prop} (hpost : ∀ tb e args s v u, (limb_1_1.after args s (.returned v) u = true ∧ limb_1_2.after args s (.returned v) u = true ∧ True) → FrameEnd s (.returned v) u (Jvm.fieldLocs frame_1_writes args s ++ Jvm.arrayLocs frame_1_arrays args s ++ Jvm.staticLocs frame_1_statics s) 16 128 → Post tb e args s (.returned v) u) :
    ArmFor flags0 classFile x code maxLocals ret World_1 tables_1 room_1 Calls_1 rest_1 Pre_1 Post := by
  intro l hfl _ _ p e ha hc hk s m args below hf hA hF happ hP
  obtain ⟨hcalls, hrest, hpre⟩ := hP
  obtain ⟨-, -, -, hnamed, -, -, -, hat⟩ := (Spec.applies_iff hf).mp happ
  obtain ⟨hg, hn⟩ := and_e (Cond.before_iff.mp (show (Jvm.Cond.and given_1 narrow_1).before args s = true from hpre))
  obtain ⟨gc, gr0⟩ := and_e hg
  obtain ⟨ga0, gr1⟩ := and_e gr0
  obtain ⟨w0, w1, rfl⟩ : ∃ w0 w1 : Value, args = #[w0, w1] := by
    have hs : args.size = 2 := by simpa [Cond.value, given_1] using gc
    obtain ⟨L⟩ := args
    match L, hs with
    | [w0, w1], _ => exact ⟨w0, w1, rfl⟩
  have hw := fun d (hd : d ∈ tables_1) => atoms_spec (ws := Jvm.Cond.code x code maxLocals ret :: tables_1) hat d (List.mem_cons_of_mem _ hd)
  have hfit : Fit s := fun {y c} hc i hi => by
    obtain ⟨ha, rfl⟩ := Array.getElem?_eq_some_iff.mp hc
    have q := List.all_eq_true.mp ((Array.all_eq_true_iff_forall_mem.mp hF) _ (Array.getElem_mem ha)) i (List.mem_range.mpr hi)
    simpa [Array.getElem?_eq_getElem hi] using q
  obtain ⟨i0, ei0⟩ := is_v ga0
  obtain rfl : w0 = (.int i0) := Option.some.inj ei0
  obtain ⟨i1, ei1⟩ := is_v gr1
  obtain rfl : w1 = (.int i1) := Option.some.inj ei1
  obtain ⟨cj0, cr0⟩ := and_e hn
  obtain ⟨cj1, cr1⟩ := and_e cr0
  obtain ⟨cj2, cr2⟩ := and_e cr1
  obtain ⟨cj3, cr3⟩ := and_e cr2
  obtain ⟨cj4, cr4⟩ := and_e cr3
  obtain ⟨cj5, cr5⟩ := and_e cr4
  obtain ⟨cj6, cr6⟩ := and_e cr5
  obtain ⟨cj7, cr7⟩ := and_e cr6
  obtain ⟨cj8, cr8⟩ := and_e cr7
  obtain ⟨cj9, cr9⟩ := and_e cr8
  obtain ⟨cj10, cr10⟩ := and_e cr9
  obtain ⟨w_BOOLEAN, ev_BOOLEAN⟩ := exa_v cj0
  have E_BOOLEAN := Exa.start ev_BOOLEAN cj0
  have S_BOOLEAN := Sta.start ev_BOOLEAN (Or.inr ⟨(hw _ (List.mem_of_getElem? (i := 3) rfl)), (hw _ (List.mem_of_getElem? (i := 4) rfl))⟩)
  obtain ⟨w_INTEGER, ev_INTEGER⟩ := exa_v cj1
  have E_INTEGER := Exa.start ev_INTEGER cj1
  have S_INTEGER := Sta.start ev_INTEGER (Or.inr ⟨(hw _ (List.mem_of_getElem? (i := 3) rfl)), (hw _ (List.mem_of_getElem? (i := 7) rfl))⟩)
  obtain ⟨w_STRING, ev_STRING⟩ := exa_v cj2
  have E_STRING := Exa.start ev_STRING cj2
  have S_STRING := Sta.start ev_STRING (Or.inr ⟨(hw _ (List.mem_of_getElem? (i := 3) rfl)), (hw _ (List.mem_of_getElem? (i := 9) rfl))⟩)
  obtain ⟨w_FUNCTION, ev_FUNCTION⟩ := exa_v cj3
  have E_FUNCTION := Exa.start ev_FUNCTION cj3
  have S_FUNCTION := Sta.start ev_FUNCTION (Or.inr ⟨(hw _ (List.mem_of_getElem? (i := 3) rfl)), (hw _ (List.mem_of_getElem? (i := 11) rfl))⟩)
  obtain ⟨w_SET, ev_SET⟩ := exa_v cj4
  have E_SET := Exa.start ev_SET cj4
  have S_SET := Sta.start ev_SET (Or.inr ⟨(hw _ (List.mem_of_getElem? (i := 3) rfl)), (hw _ (List.mem_of_getElem? (i := 13) rfl))⟩)
  obtain ⟨w_MODEL_VALUE, ev_MODEL_VALUE⟩ := exa_v cj5
  have E_MODEL_VALUE := Exa.start ev_MODEL_VALUE cj5
  have S_MODEL_VALUE := Sta.start ev_MODEL_VALUE (Or.inr ⟨(hw _ (List.mem_of_getElem? (i := 3) rfl)), (hw _ (List.mem_of_getElem? (i := 15) rfl))⟩)
  have F_BOOLEAN_ordinal := Fld.start ((fld_at ev_BOOLEAN).symm.trans (OG.eqI_v cj6))
  have F_FUNCTION_ordinal := Fld.start ((fld_at ev_FUNCTION).symm.trans (OG.eqI_v cj7))
  have F_MODEL_VALUE_ordinal := Fld.start ((fld_at ev_MODEL_VALUE).symm.trans (OG.eqI_v cj8))
  have F_STRING_ordinal := Fld.start ((fld_at ev_STRING).symm.trans (OG.eqI_v cj9))
  have F_INTEGER_ordinal := Fld.start ((fld_at ev_INTEGER).symm.trans (OG.eqI_v cj10))
  have F_SET_ordinal := Fld.start ((fld_at ev_SET).symm.trans (OG.eqI_v cr10))
  have hn0_1 : ¬ (w_BOOLEAN = w_INTEGER) := Fld.ne F_BOOLEAN_ordinal F_INTEGER_ordinal (by decide)
  have hn0_2 : ¬ (w_BOOLEAN = w_STRING) := Fld.ne F_BOOLEAN_ordinal F_STRING_ordinal (by decide)
  have hn0_3 : ¬ (w_BOOLEAN = w_FUNCTION) := Fld.ne F_BOOLEAN_ordinal F_FUNCTION_ordinal (by decide)
  have hn0_4 : ¬ (w_BOOLEAN = w_SET) := Fld.ne F_BOOLEAN_ordinal F_SET_ordinal (by decide)
  have hn0_5 : ¬ (w_BOOLEAN = w_MODEL_VALUE) := Fld.ne F_BOOLEAN_ordinal F_MODEL_VALUE_ordinal (by decide)
  have hn1_0 : ¬ (w_INTEGER = w_BOOLEAN) := Fld.ne F_INTEGER_ordinal F_BOOLEAN_ordinal (by decide)
  have hn1_2 : ¬ (w_INTEGER = w_STRING) := Fld.ne F_INTEGER_ordinal F_STRING_ordinal (by decide)
  have hn1_3 : ¬ (w_INTEGER = w_FUNCTION) := Fld.ne F_INTEGER_ordinal F_FUNCTION_ordinal (by decide)
  have hn1_4 : ¬ (w_INTEGER = w_SET) := Fld.ne F_INTEGER_ordinal F_SET_ordinal (by decide)
  have hn1_5 : ¬ (w_INTEGER = w_MODEL_VALUE) := Fld.ne F_INTEGER_ordinal F_MODEL_VALUE_ordinal (by decide)
  have hn2_0 : ¬ (w_STRING = w_BOOLEAN) := Fld.ne F_STRING_ordinal F_BOOLEAN_ordinal (by decide)
  have hn2_1 : ¬ (w_STRING = w_INTEGER) := Fld.ne F_STRING_ordinal F_INTEGER_ordinal (by decide)
  have hn2_3 : ¬ (w_STRING = w_FUNCTION) := Fld.ne F_STRING_ordinal F_FUNCTION_ordinal (by decide)
  have hn2_4 : ¬ (w_STRING = w_SET) := Fld.ne F_STRING_ordinal F_SET_ordinal (by decide)
  have hn2_5 : ¬ (w_STRING = w_MODEL_VALUE) := Fld.ne F_STRING_ordinal F_MODEL_VALUE_ordinal (by decide)
  have hn3_0 : ¬ (w_FUNCTION = w_BOOLEAN) := Fld.ne F_FUNCTION_ordinal F_BOOLEAN_ordinal (by decide)
  have hn3_1 : ¬ (w_FUNCTION = w_INTEGER) := Fld.ne F_FUNCTION_ordinal F_INTEGER_ordinal (by decide)
  have hn3_2 : ¬ (w_FUNCTION = w_STRING) := Fld.ne F_FUNCTION_ordinal F_STRING_ordinal (by decide)
  have hn3_4 : ¬ (w_FUNCTION = w_SET) := Fld.ne F_FUNCTION_ordinal F_SET_ordinal (by decide)
  have hn3_5 : ¬ (w_FUNCTION = w_MODEL_VALUE) := Fld.ne F_FUNCTION_ordinal F_MODEL_VALUE_ordinal (by decide)
  have hn4_0 : ¬ (w_SET = w_BOOLEAN) := Fld.ne F_SET_ordinal F_BOOLEAN_ordinal (by decide)
  have hn4_1 : ¬ (w_SET = w_INTEGER) := Fld.ne F_SET_ordinal F_INTEGER_ordinal (by decide)
  have hn4_2 : ¬ (w_SET = w_STRING) := Fld.ne F_SET_ordinal F_STRING_ordinal (by decide)
  have hn4_3 : ¬ (w_SET = w_FUNCTION) := Fld.ne F_SET_ordinal F_FUNCTION_ordinal (by decide)
  have hn4_5 : ¬ (w_SET = w_MODEL_VALUE) := Fld.ne F_SET_ordinal F_MODEL_VALUE_ordinal (by decide)
  have hn5_0 : ¬ (w_MODEL_VALUE = w_BOOLEAN) := Fld.ne F_MODEL_VALUE_ordinal F_BOOLEAN_ordinal (by decide)
  have hn5_1 : ¬ (w_MODEL_VALUE = w_INTEGER) := Fld.ne F_MODEL_VALUE_ordinal F_INTEGER_ordinal (by decide)
  have hn5_2 : ¬ (w_MODEL_VALUE = w_STRING) := Fld.ne F_MODEL_VALUE_ordinal F_STRING_ordinal (by decide)
  have hn5_3 : ¬ (w_MODEL_VALUE = w_FUNCTION) := Fld.ne F_MODEL_VALUE_ordinal F_FUNCTION_ordinal (by decide)
  have hn5_4 : ¬ (w_MODEL_VALUE = w_SET) := Fld.ne F_MODEL_VALUE_ordinal F_SET_ordinal (by decide)
  obtain ⟨n, o, h1, h2, h3, _, L, rfl, ⟨rfl, N⟩, hq⟩ := own_rm_law l s _ hw tables_1 i0 i1 w_BOOLEAN w_INTEGER w_STRING w_FUNCTION w_SET w_MODEL_VALUE s.heap s.heap.size (Nat.le_refl _) S_BOOLEAN S_INTEGER S_STRING S_FUNCTION S_SET S_MODEL_VALUE E_BOOLEAN E_INTEGER E_STRING E_FUNCTION E_SET E_MODEL_VALUE hn0_1 hn0_2 hn0_3 hn0_4 hn0_5 hn1_0 hn1_2 hn1_3 hn1_4 hn1_5 hn2_0 hn2_1 hn2_3 hn2_4 hn2_5 hn3_0 hn3_1 hn3_2 hn3_4 hn3_5 hn4_0 hn4_1 hn4_2 hn4_3 hn4_5 hn5_0 hn5_1 hn5_2 hn5_3 hn5_4 p e ha hc hk s m _ below hf ((Spec.applies_iff_loose hf).mp happ).1 ⟨rfl, State.Warmed39.refl s, rfl⟩ trivial
  refine ⟨n, _, h1, h2, h3, hpost _ _ _ _ _ _ ⟨Cond.after_iff.mpr rfl, Cond.after_iff.mpr (eq_i res_at (Term.int_eval (1)) rfl), trivial⟩ ⟨hq.1, hq.2.1, (hq.2.2.sift fun y hy => Or.inr (N y hy)).mono (by decide) (by decide)⟩⟩
theorem main_1_1 : Claimed_1_1 := comes_1 fun _ _ _ _ _ _ h hF => ⟨h.1, hF⟩
theorem main_1_2 : Claimed_1_2 := comes_1 fun _ _ _ _ _ _ h hF => ⟨h.2.1, hF⟩
end Jvm.Pilot.@@N@@
namespace Jvm.Pilot.@@N@@
open Jvm Jvm.ClassFile Sem Op Lib Jvm.Free Jvm.Stand Jvm.Pilot.@@N@@.Jvm.D
/-! MADE BY PROGRAM (witnessworld.py) out of the Statement's table words and the real class files: 13 classes; the members and pool entries that the words name. The judged class is class 1, her method 1. -/
namespace start1
open Jvm.ClassFile
def u (s : String) : CpInfo := .utf8 (stringToUtf16 s)
/-- a pool by its gaps: so many unusable entries, then the entry; so many at the end -/
def gap : Nat → List CpInfo → List CpInfo
  | 0, r => r
  | n + 1, r => .unusable :: gap n r
def poolList (es : List (Nat × CpInfo)) (last : Nat) : List CpInfo := es.foldr (fun e r => gap e.1 (e.2 :: r)) (gap last [])
def pool (es : List (Nat × CpInfo)) (last : Nat) : Array CpInfo := ⟨poolList es last⟩
def fileOf (pool : Array CpInfo) (this : Nat) (attrs : Array Attribute := #[]) (ms : Array MethodInfo := #[]) (fl : Nat := 33) (sup : Nat := 0) (ifs : Array Nat := #[]) (fds : Array FieldInfo := #[]) : ClassFile where
  minorVersion := 0
  majorVersion := 65
  constantPool := pool
  accessFlags := fl
  thisClass := this
  superClass := sup
  interfaces := ifs
  fields := fds
  methods := ms
  attributes := attrs
def plain (name : String) (sup : Option ClassId) : Class where
  name := name
  kind := .ordinary
  loader := none
  accessFlags := 33
  super := sup
  interfaces := #[]
  cf := none
  fields := #[]
  methods := #[]
  instanceTypes := #[]
  staticTypes := #[]
  resolved := #[]
  callSites := []
  init := .initialized
  statics := none
  mirror := none

def pool0 : Array CpInfo := pool [(5, u "<init>"), (0, u "()V"), (1, .class_ 10), (1, u "java/lang/Object")] 113

def k0m0 : Method := { name := "<init>", desc := "()V", sig := { parameters := [], returnType := none }, accessFlags := 1, code := none }
/-- java/lang/Object -/
def k0 : Class := { plain "java/lang/Object" none with
  accessFlags := 33
  interfaces := #[]
  cf := some (fileOf pool0 8 #[] #[{ accessFlags := 1, nameIndex := 5, descriptorIndex := 6, attributes := #[] }] 33 0 #[] #[])
  fields := #[]
  methods := #[k0m0]
  instanceTypes := #[]
  staticTypes := #[]
  resolved := Array.replicate 124 none
  statics := none }

def pool1 : Array CpInfo := pool [(2, .class_ 4), (1, u "java/lang/Object"), (0, u "<init>"), (0, u "()V"), (0, .class_ 8), (0, u "com/example/stutter/stutter/values/Value$Kind"), (0, .fieldref 7 10), (0, .nameAndType 11 12), (0, u "BOOLEAN"), (0, u "Lcom/example/stutter/stutter/values/Value$Kind;"), (0, .fieldref 7 14), (0, .nameAndType 15 12), (0, u "INTEGER"), (0, .fieldref 7 17), (0, .nameAndType 18 12), (0, u "STRING"), (0, .fieldref 7 20), (0, .nameAndType 21 12), (0, u "FUNCTION"), (0, .fieldref 7 23), (0, .nameAndType 24 12), (0, u "SET"), (0, .fieldref 7 26), (0, .nameAndType 27 12), (0, u "MODEL_VALUE"), (0, .integer 2147483647), (0, .methodref 7 30), (0, .nameAndType 31 32), (0, u "comparableWith"), (0, u "(Lcom/example/stutter/stutter/values/Value$Kind;)Z"), (0, .class_ 34), (0, u "com/example/stutter/stutter/values/KindComparableWithPinLaw"), (2, u "law"), (0, u "(II)Z")] 9

def k1m0 : Method := { name := "<init>", desc := "()V", sig := { parameters := [], returnType := none }, accessFlags := 1, code := none }
def k1c1 : Code := { maxStack := 4, maxLocals := 8, code := code, exceptionTable := #[], attributes := #[] }
def k1m1 : Method := { name := "law", desc := "(II)Z", sig := { parameters := [.int, .int], returnType := some .boolean }, accessFlags := 9, code := some k1c1 }
/-- com/example/stutter/stutter/values/KindComparableWithPinLaw -/
def k1 : Class := { plain "com/example/stutter/stutter/values/KindComparableWithPinLaw" (some 0) with
  accessFlags := 49
  interfaces := #[]
  cf := some (fileOf pool1 33 #[] #[{ accessFlags := 1, nameIndex := 5, descriptorIndex := 6, attributes := #[] }, { accessFlags := 9, nameIndex := 37, descriptorIndex := 38, attributes := #[] }] 49 2 #[] #[])
  fields := #[]
  methods := #[k1m0, k1m1]
  instanceTypes := #[]
  staticTypes := #[]
  resolved := Array.replicate 48 none
  statics := none }

def pool2 : Array CpInfo := pool [(1, .class_ 2), (0, u "java/lang/constant/Constable"), (0, .class_ 4), (0, u "java/lang/Object")] 6

/-- java/lang/constant/Constable -/
def k2 : Class := { plain "java/lang/constant/Constable" (some 0) with
  accessFlags := 1537
  interfaces := #[]
  cf := some (fileOf pool2 1 #[] #[] 1537 3 #[] #[])
  fields := #[]
  methods := #[]
  instanceTypes := #[]
  staticTypes := #[]
  resolved := Array.replicate 11 none
  statics := none }

def pool3 : Array CpInfo := pool [(1, .class_ 2), (0, u "java/lang/Comparable"), (0, .class_ 4), (0, u "java/lang/Object")] 7

/-- java/lang/Comparable -/
def k3 : Class := { plain "java/lang/Comparable" (some 0) with
  accessFlags := 1537
  interfaces := #[]
  cf := some (fileOf pool3 1 #[] #[] 1537 3 #[] #[])
  fields := #[]
  methods := #[]
  instanceTypes := #[]
  staticTypes := #[]
  resolved := Array.replicate 12 none
  statics := none }

def pool4 : Array CpInfo := pool [(1, .class_ 2), (0, u "java/io/Serializable"), (0, .class_ 4), (0, u "java/lang/Object")] 2

/-- java/io/Serializable -/
def k4 : Class := { plain "java/io/Serializable" (some 0) with
  accessFlags := 1537
  interfaces := #[]
  cf := some (fileOf pool4 1 #[] #[] 1537 3 #[] #[])
  fields := #[]
  methods := #[]
  instanceTypes := #[]
  staticTypes := #[]
  resolved := Array.replicate 7 none
  statics := none }

def pool5 : Array CpInfo := pool [(2, .class_ 4), (1, u "java/lang/Enum"), (0, u "name"), (0, u "Ljava/lang/String;"), (2, u "ordinal"), (0, u "I"), (1, .class_ 14), (1, u "java/lang/Object"), (4, u "hash"), (86, .class_ 108), (1, u "java/lang/Enum$EnumDesc"), (2, .class_ 112), (0, u "java/lang/constant/Constable"), (0, .class_ 114), (0, u "java/lang/Comparable"), (0, .class_ 116), (0, u "java/io/Serializable")] 87

/-- java/lang/Enum -/
def k5 : Class := { plain "java/lang/Enum" (some 0) with
  accessFlags := 1057
  interfaces := #[2, 3, 4]
  cf := some (fileOf pool5 2 #[.nestMembers #[106]] #[] 1057 12 #[111, 113, 115] #[{ accessFlags := 18, nameIndex := 5, descriptorIndex := 6, attributes := #[] }, { accessFlags := 18, nameIndex := 9, descriptorIndex := 10, attributes := #[] }, { accessFlags := 2, nameIndex := 19, descriptorIndex := 10, attributes := #[] }])
  fields := #[{ name := "name", type := (.object "java/lang/String"), accessFlags := 18, slot := 0, constantValue := 0 }, { name := "ordinal", type := .int, accessFlags := 18, slot := 1, constantValue := 0 }, { name := "hash", type := .int, accessFlags := 2, slot := 2, constantValue := 0 }]
  methods := #[]
  instanceTypes := #[(.object "java/lang/String"), .int, .int]
  staticTypes := #[]
  resolved := Array.replicate 204 none
  statics := none }

def pool6 : Array CpInfo := pool [(1, .class_ 2), (0, u "com/example/stutter/stutter/values/Value$Kind"), (2, u "BOOLEAN"), (0, u "Lcom/example/stutter/stutter/values/Value$Kind;"), (2, u "INTEGER"), (2, u "STRING"), (2, u "FUNCTION"), (2, u "SET"), (0, .fieldref 1 20), (0, .nameAndType 21 6), (0, u "MODEL_VALUE"), (2, u "$VALUES"), (0, u "[Lcom/example/stutter/stutter/values/Value$Kind;"), (6, .class_ 34), (1, u "java/lang/Enum"), (24, u "comparableWith"), (0, u "(Lcom/example/stutter/stutter/values/Value$Kind;)Z"), (6, .class_ 68), (0, u "com/example/stutter/stutter/values/Value")] 2

def k6c0 : Code := { maxStack := 2, maxLocals := 2, code := prog_331_method_4_code, exceptionTable := #[], attributes := #[] }
def k6m0 : Method := { name := "comparableWith", desc := "(Lcom/example/stutter/stutter/values/Value$Kind;)Z", sig := { parameters := [(.object "com/example/stutter/stutter/values/Value$Kind")], returnType := some .boolean }, accessFlags := 1, code := some k6c0 }
/-- com/example/stutter/stutter/values/Value$Kind -/
def k6 : Class := { plain "com/example/stutter/stutter/values/Value$Kind" (some 5) with
  accessFlags := 16433
  interfaces := #[]
  cf := some (fileOf pool6 1 #[.nestHost 67] #[{ accessFlags := 1, nameIndex := 59, descriptorIndex := 60, attributes := #[] }] 16433 32 #[] #[{ accessFlags := 16409, nameIndex := 5, descriptorIndex := 6, attributes := #[] }, { accessFlags := 16409, nameIndex := 9, descriptorIndex := 6, attributes := #[] }, { accessFlags := 16409, nameIndex := 12, descriptorIndex := 6, attributes := #[] }, { accessFlags := 16409, nameIndex := 15, descriptorIndex := 6, attributes := #[] }, { accessFlags := 16409, nameIndex := 18, descriptorIndex := 6, attributes := #[] }, { accessFlags := 16409, nameIndex := 21, descriptorIndex := 6, attributes := #[] }, { accessFlags := 4122, nameIndex := 24, descriptorIndex := 25, attributes := #[] }])
  fields := #[{ name := "BOOLEAN", type := (.object "com/example/stutter/stutter/values/Value$Kind"), accessFlags := 16409, slot := 0, constantValue := 0 }, { name := "INTEGER", type := (.object "com/example/stutter/stutter/values/Value$Kind"), accessFlags := 16409, slot := 1, constantValue := 0 }, { name := "STRING", type := (.object "com/example/stutter/stutter/values/Value$Kind"), accessFlags := 16409, slot := 2, constantValue := 0 }, { name := "FUNCTION", type := (.object "com/example/stutter/stutter/values/Value$Kind"), accessFlags := 16409, slot := 3, constantValue := 0 }, { name := "SET", type := (.object "com/example/stutter/stutter/values/Value$Kind"), accessFlags := 16409, slot := 4, constantValue := 0 }, { name := "MODEL_VALUE", type := (.object "com/example/stutter/stutter/values/Value$Kind"), accessFlags := 16409, slot := 5, constantValue := 0 }, { name := "$VALUES", type := (.array (.object "com/example/stutter/stutter/values/Value$Kind")), accessFlags := 4122, slot := 6, constantValue := 0 }]
  methods := #[k6m0]
  instanceTypes := #[(.object "java/lang/String"), .int, .int]
  staticTypes := #[(.object "com/example/stutter/stutter/values/Value$Kind"), (.object "com/example/stutter/stutter/values/Value$Kind"), (.object "com/example/stutter/stutter/values/Value$Kind"), (.object "com/example/stutter/stutter/values/Value$Kind"), (.object "com/example/stutter/stutter/values/Value$Kind"), (.object "com/example/stutter/stutter/values/Value$Kind"), (.array (.object "com/example/stutter/stutter/values/Value$Kind"))]
  resolved := Array.replicate 71 none
  statics := some 0 }

def pool7 : Array CpInfo := pool [(1, u "java/lang/Cloneable"), (0, .class_ 1), (0, u "java/lang/Object"), (0, .class_ 3)] 3

/-- java/lang/Cloneable -/
def k7 : Class := { plain "java/lang/Cloneable" (some 0) with
  accessFlags := 1537
  interfaces := #[]
  cf := some (fileOf pool7 2 #[] #[] 1537 4 #[] #[])
  fields := #[]
  methods := #[]
  instanceTypes := #[]
  staticTypes := #[]
  resolved := Array.replicate 8 none
  statics := none }

/-- the primitive byte -/
def k8 : Class := { plain "byte" none with kind := .primitive 'B', accessFlags := 0x411 }
/-- [B -/
def k9 : Class := { plain "[B" (some 0) with kind := .array 8 .byte, interfaces := #[7, 4], accessFlags := 1041 }

/-- the primitive int -/
def k10 : Class := { plain "int" none with kind := .primitive 'I', accessFlags := 0x411 }
/-- [I -/
def k11 : Class := { plain "[I" (some 0) with kind := .array 10 .int, interfaces := #[7, 4], accessFlags := 1041 }

/-- [Lcom/example/stutter/stutter/values/Value$Kind; -/
def k12 : Class := { plain "[Lcom/example/stutter/stutter/values/Value$Kind;" (some 0) with kind := .array 6 (.object "com/example/stutter/stutter/values/Value$Kind"), interfaces := #[7, 4], accessFlags := 1041 }

def heap : Heap := #[{ cls := 6, slots := #[.ref 1, .ref 2, .ref 3, .ref 4, .ref 5, .ref 6, .null], vm := .statics 6 },
  { cls := 6, slots := #[.null, .int 0, .int 0], vm := .none },
  { cls := 6, slots := #[.null, .int 1, .int 0], vm := .none },
  { cls := 6, slots := #[.null, .int 2, .int 0], vm := .none },
  { cls := 6, slots := #[.null, .int 3, .int 0], vm := .none },
  { cls := 6, slots := #[.null, .int 4, .int 0], vm := .none },
  { cls := 6, slots := #[.null, .int 5, .int 0], vm := .none }]
def classes : Array Class := #[k0, k1, k2, k3, k4, k5, k6, k7, k8, k9, k10, k11, k12]
def interned : List (Array UInt16 × Addr) := []
def slotsUsed : Nat := 25
def theMethod : MethodId := ⟨1, 1⟩
def args0 : Array Value := #[.int 5, .int 3]
def aboutOver (below : List Frame) : State where
  vm := { classes := classes, interned := interned.toArray }
  heap := heap
  slotsUsed := slotsUsed
  threads := #[{ frames := .invoking theMethod args0 :: below }]
def below0 : List Frame := [.native { method := ⟨0, 0⟩, args := #[] }]
def about1 : State := aboutOver below0
def p0 : Program := .bare "" "" ""
def e0 : Env := launch0.env 0 0 0
theorem w_frames : about1.frames = Frame.invoking theMethod args0 :: below0 := rfl
set_option maxRecDepth 65536 in
theorem w_args : argsFit about1.vm theMethod args0 = true := by decide +kernel
set_option maxRecDepth 65536 in
theorem w_heap : heapFits about1 = true := by decide +kernel
set_option maxRecDepth 65536 in
theorem w_runnable : about1.curStatus? = some .runnable := by decide +kernel
set_option maxRecDepth 65536 in
theorem w_alone : about1.alone = true := by decide +kernel
set_option maxRecDepth 65536 in
theorem w_named : about1.methodNamed? x = some theMethod := by decide +kernel
set_option maxRecDepth 65536 in
theorem w_hears : about1.hears theMethod below0 = true := by decide +kernel
set_option maxRecDepth 65536 in
theorem w_ripe : about1.ripe theMethod args0 below0 = true := by decide +kernel
theorem w_running : about1.status = .running := rfl
set_option maxRecDepth 65536 in
theorem w_room : about1.hasRoom e0.platform room_1 = true :=
  launch0.hasRoom_least _ room_1 (by decide +kernel) (by decide +kernel) (by decide +kernel) (by decide +kernel) (by decide +kernel) (by decide +kernel)
theorem allAtoms_all (ts : List Jvm.Cond) (a : Array Jvm.Value) (st : Jvm.State) : (allAtoms ts).before a st = ts.all (fun c => c.before a st) := by
  induction ts with
  | nil => rfl
  | cons c t ih =>
    show (Jvm.Cond.and c (allAtoms t)).before a st = _
    rw [Jvm.Cond.before_and, ih, List.all_cons]
def words1 : List Jvm.Cond := Jvm.Cond.code x code maxLocals ret :: tables_1
/-- a 'code' word, met by the world's own term for the bytes: nothing is compared byte by byte -/
theorem code_word {y : MethodName} {bytes : ByteArray} {mx : Nat} {rt : Option FieldType} {a : Array Value} {s : State} {m : MethodId} {meth : Method} {c : Code} (h1 : s.methodNamed? y = some m) (h2 : s.vm.method? m = some meth) (h3 : meth.code = some c) (h4 : c.code = bytes)
    (h5 : (c.maxLocals == mx && c.exceptionTable.isEmpty && decide (c.maxStack ≤ mostOperands) && decide (meth.sig.returnType = rt) && !meth.locks && decide (parseMethodDescriptor y.desc = some meth.sig)) = true) : (Jvm.Cond.code y bytes mx rt).before a s = true := by
  simp only [Bool.and_eq_true, beq_iff_eq, Bool.not_eq_true', decide_eq_true_eq] at h5
  obtain ⟨⟨⟨⟨⟨g1, g2⟩, g3⟩, g4⟩, g5⟩, g6⟩ := h5
  simp [Cond.before, Cond.holds, Cond.value, h1, h2, h3, h4, g1, g2, g3, g4, g5, g6]
def isCode : Jvm.Cond → Bool
  | .code _ _ _ _ => true
  | _ => false
theorem all_split {L : List Jvm.Cond} {P : Jvm.Cond → Bool} (h1 : L.all (fun c => isCode c || P c) = true) (h2 : ∀ c ∈ L.filter isCode, P c = true) : L.all P = true := by
  refine List.all_eq_true.mpr fun c hc => ?_
  have h := List.all_eq_true.mp h1 c hc
  rcases Bool.eq_false_or_eq_true (isCode c) with hi | hi
  · exact h2 c (List.mem_filter.mpr ⟨hc, hi⟩)
  · simpa [hi] using h
set_option maxRecDepth 65536 in
theorem w_c0 : (Jvm.Cond.code x code maxLocals ret).before args0 about1 = true := code_word (m := ⟨1, 1⟩) (meth := k1m1) (c := k1c1) (by decide +kernel) rfl rfl rfl (by decide +kernel)
set_option maxRecDepth 65536 in
theorem w_c1 : (Jvm.Cond.code ({ cls := "com/example/stutter/stutter/values/Value$Kind", name := "comparableWith", desc := "(Lcom/example/stutter/stutter/values/Value$Kind;)Z" } : Jvm.MethodName) prog_331_method_4_code (2 : Nat) (Option.some Jvm.ClassFile.FieldType.boolean)).before args0 about1 = true := code_word (m := ⟨6, 0⟩) (meth := k6m0) (c := k6c0) (by decide +kernel) rfl rfl rfl (by decide +kernel)
def codes1 : List Jvm.Cond := [Jvm.Cond.code x code maxLocals ret, Jvm.Cond.code ({ cls := "com/example/stutter/stutter/values/Value$Kind", name := "comparableWith", desc := "(Lcom/example/stutter/stutter/values/Value$Kind;)Z" } : Jvm.MethodName) prog_331_method_4_code (2 : Nat) (Option.some Jvm.ClassFile.FieldType.boolean)]
set_option maxRecDepth 65536 in
theorem codes_eq : words1.filter isCode = codes1 := rfl
theorem w_codes : ∀ c ∈ words1.filter isCode, c.before args0 about1 = true := by
  rw [codes_eq]
  intro c hc
  simp only [codes1, List.mem_cons, List.not_mem_nil, or_false] at hc
  rcases hc with rfl | rfl
  · exact w_c0
  · exact w_c1
set_option maxRecDepth 65536 in
theorem w_t1 : words1.all (fun c => isCode c || c.before args0 about1) = true := by decide +kernel
theorem w_tables : (allAtoms (Jvm.Cond.code x code maxLocals ret :: tables_1)).before args0 about1 = true := by
  rw [allAtoms_all]
  show words1.all (fun c => c.before args0 about1) = true
  refine all_split ?_ w_codes
  rw [w_t1]
set_option maxRecDepth 65536 in
theorem w_case : (Jvm.Cond.and given_1 narrow_1).before args0 about1 = true := by decide +kernel
theorem w_applies : (headSpec (Jvm.Cond.code x code maxLocals ret :: tables_1) room_1).applies x e0.platform about1 = true :=
  (Spec.applies_iff w_frames).mpr ⟨w_running, w_runnable, w_alone, w_named, w_hears, w_ripe, w_room, w_tables⟩
theorem atStart : AtStart classFile x code maxLocals ret World_1 tables_1 room_1 Calls_1 rest_1 Pre_1 launch0 p0 e0 about1 theMethod args0 below0 :=
  ⟨lists_1, trivial, launch0.admits_env _ _ _, launch0.least_env, fairChoices_fair.cas, fairChoices_fair.clock, w_frames, w_args, w_heap, w_applies, trivial, trivial, w_case⟩
end start1
theorem witness_1 : WitnessClaimed_1 := ⟨start1.p0, start1.e0, start1.about1, start1.theMethod, start1.args0, start1.below0, start1.atStart⟩
end Jvm.Pilot.@@N@@
