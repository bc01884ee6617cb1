import JvmDerived
import JvmDerived.Pilot.@@N@@Statement
import JvmDerived.Pilot.@@N@@Code
set_option linter.unusedVariables false
set_option linter.unusedSimpArgs false
@@BLOCK:NumsL.lean.txt@@
namespace Jvm.OG
open Sem ClassFile Op Lib Jvm.Stand Jvm.Free Jvm.LawKit Jvm.RoadKit
/-- from U the run comes to the method's return, with Q of what it returns, the heap there and the places written -/
def Go (tb : Tables) (e : Env) (below : List Frame) (Q : Option Value → Heap → List Loc → Prop) (kc ks : Nat) (s U : State) : Prop :=
  ∃ s₂ o, Steps tb e below U s₂ ∧ s₂.status = .running ∧ Ended s₂ below o ∧ ∃ v L, o = .returned v ∧ Q v s₂.heap L ∧ FrameEnd s o s₂ L kc ks
theorem Go.step {tb : Tables} {e : Env} {below : List Frame} {Q : Option Value → Heap → List Loc → Prop} {kc ks : Nat} {s U U' : State} (st : ∀ t, Steps tb e below U' t → Steps tb e below U t) (k : Go tb e below Q kc ks s U') : Go tb e below Q kc ks s U := by
  obtain ⟨s₂, o, h1, r⟩ := k
  exact ⟨s₂, o, st _ h1, r⟩
theorem Go.via {tb : Tables} {e : Env} {below : List Frame} {Q : Option Value → Heap → List Loc → Prop} {kc ks : Nat} {s U U' : State} (st : Steps tb e below U U') (k : Go tb e below Q kc ks s U') : Go tb e below Q kc ks s U := by
  obtain ⟨s₂, o, h1, r⟩ := k
  exact ⟨s₂, o, st.trans h1, r⟩
theorem Go.cast {tb : Tables} {e : Env} {below : List Frame} {Q : Option Value → Heap → List Loc → Prop} {kc ks : Nat} {s T : State} {g g' : JFrame} (q : g = g') (k : Go tb e below Q kc ks s (T.setTop g')) : Go tb e below Q kc ks s (T.setTop g) := q ▸ k
section Steps1
variable {p : Program} {l : Launch} {e : Env} {R : Room} {s : State} {m : MethodId} {args : Array Value} {below : List Frame} {meth : Method} {c : Code} {T : State} {locs : List Loc} {cells slots : Nat} {Q : Option Value → Heap → List Loc → Prop} {kc ks : Nat} {code : ByteArray} {pc pc' : Nat} {Ls Ls' : Array Slot} {st : List Value}
theorem iloadN (X : Stand p l e R s m args below meth c T locs cells slots) (hx : p.tables.exec = Jvm.exec) (hby : c.code = code) {k : Fin 4} {v : Int32} (hd : decode code pc = .ok (.iload_n k, 1)) (hl : Ls[k.val]? = some (.val (.int v))) (hp : pc + 1 = pc')
    (K : Go p.tables e below Q kc ks s (T.setTop (mkF m pc' Ls (.int v :: st)))) : Go p.tables e below Q kc ks s (T.setTop (mkF m pc Ls st)) := by
  subst hp
  exact Go.step (fun _ hr => XS.iloadN X.here hx rfl (hb hby hd) hl hr) K
theorem lloadN (X : Stand p l e R s m args below meth c T locs cells slots) (hx : p.tables.exec = Jvm.exec) (hby : c.code = code) {k : Fin 4} {v : Int64} (hd : decode code pc = .ok (.lload_n k, 1)) (hl : Ls[k.val]? = some (.val (.long v))) (hp : pc + 1 = pc')
    (K : Go p.tables e below Q kc ks s (T.setTop (mkF m pc' Ls (.long v :: st)))) : Go p.tables e below Q kc ks s (T.setTop (mkF m pc Ls st)) := by
  subst hp
  exact Go.step (fun _ hr => XS.lloadN X.here hx rfl (hb hby hd) hl hr) K
theorem aloadN (X : Stand p l e R s m args below meth c T locs cells slots) (hx : p.tables.exec = Jvm.exec) (hby : c.code = code) {k : Fin 4} {v : Value} (hd : decode code pc = .ok (.aload_n k, 1)) (hl : Ls[k.val]? = some (.val v)) (hv : v.isRef = true) (hp : pc + 1 = pc')
    (K : Go p.tables e below Q kc ks s (T.setTop (mkF m pc' Ls (v :: st)))) : Go p.tables e below Q kc ks s (T.setTop (mkF m pc Ls st)) := by
  subst hp
  exact Go.step (fun _ hr => XS.aloadN X.here hx rfl (hb hby hd) hl hv hr) K
theorem iload (X : Stand p l e R s m args below meth c T locs cells slots) (hx : p.tables.exec = Jvm.exec) (hby : c.code = code) {k : Nat} {v : Int32} (hd : decode code pc = .ok (.iload k, 2)) (hl : Ls[k]? = some (.val (.int v))) (hp : pc + 2 = pc')
    (K : Go p.tables e below Q kc ks s (T.setTop (mkF m pc' Ls (.int v :: st)))) : Go p.tables e below Q kc ks s (T.setTop (mkF m pc Ls st)) := by
  subst hp
  exact Go.step (fun _ hr => XS.iload X.here hx rfl (hb hby hd) hl hr) K
theorem lload (X : Stand p l e R s m args below meth c T locs cells slots) (hx : p.tables.exec = Jvm.exec) (hby : c.code = code) {k : Nat} {v : Int64} (hd : decode code pc = .ok (.lload k, 2)) (hl : Ls[k]? = some (.val (.long v))) (hp : pc + 2 = pc')
    (K : Go p.tables e below Q kc ks s (T.setTop (mkF m pc' Ls (.long v :: st)))) : Go p.tables e below Q kc ks s (T.setTop (mkF m pc Ls st)) := by
  subst hp
  exact Go.step (fun _ hr => XS.lload X.here hx rfl (hb hby hd) hl hr) K
theorem aload (X : Stand p l e R s m args below meth c T locs cells slots) (hx : p.tables.exec = Jvm.exec) (hby : c.code = code) {k : Nat} {v : Value} (hd : decode code pc = .ok (.aload k, 2)) (hl : Ls[k]? = some (.val v)) (hv : v.isRef = true) (hp : pc + 2 = pc')
    (K : Go p.tables e below Q kc ks s (T.setTop (mkF m pc' Ls (v :: st)))) : Go p.tables e below Q kc ks s (T.setTop (mkF m pc Ls st)) := by
  subst hp
  exact Go.step (fun _ hr => XS.aload X.here hx rfl (hb hby hd) hl hv hr) K
theorem istoreN (X : Stand p l e R s m args below meth c T locs cells slots) (hx : p.tables.exec = Jvm.exec) (hby : c.code = code) {k : Fin 4} {v : Int32} (hd : decode code pc = .ok (.istore_n k, 1)) (hl : storeLocals Ls k.val (.int v) = some Ls') (hp : pc + 1 = pc')
    (K : Go p.tables e below Q kc ks s (T.setTop (mkF m pc' Ls' st))) : Go p.tables e below Q kc ks s (T.setTop (mkF m pc Ls (.int v :: st))) := by
  subst hp
  exact Go.step (fun _ hr => XS.istoreN X.here hx rfl (hb hby hd) rfl hl hr) K
theorem lstoreN (X : Stand p l e R s m args below meth c T locs cells slots) (hx : p.tables.exec = Jvm.exec) (hby : c.code = code) {k : Fin 4} {v : Int64} (hd : decode code pc = .ok (.lstore_n k, 1)) (hl : storeLocals Ls k.val (.long v) = some Ls') (hp : pc + 1 = pc')
    (K : Go p.tables e below Q kc ks s (T.setTop (mkF m pc' Ls' st))) : Go p.tables e below Q kc ks s (T.setTop (mkF m pc Ls (.long v :: st))) := by
  subst hp
  exact Go.step (fun _ hr => XS.lstoreN X.here hx rfl (hb hby hd) rfl hl hr) K
theorem astoreN (X : Stand p l e R s m args below meth c T locs cells slots) (hx : p.tables.exec = Jvm.exec) (hby : c.code = code) {k : Fin 4} {v : Value} (hd : decode code pc = .ok (.astore_n k, 1)) (hv : v.isRef = true) (hl : storeLocals Ls k.val v = some Ls') (hp : pc + 1 = pc')
    (K : Go p.tables e below Q kc ks s (T.setTop (mkF m pc' Ls' st))) : Go p.tables e below Q kc ks s (T.setTop (mkF m pc Ls (v :: st))) := by
  subst hp
  exact Go.step (fun _ hr => XS.astoreN X.here hx rfl (hb hby hd) rfl hv hl hr) K
theorem istore (X : Stand p l e R s m args below meth c T locs cells slots) (hx : p.tables.exec = Jvm.exec) (hby : c.code = code) {k : Nat} {v : Int32} (hd : decode code pc = .ok (.istore k, 2)) (hl : storeLocals Ls k (.int v) = some Ls') (hp : pc + 2 = pc')
    (K : Go p.tables e below Q kc ks s (T.setTop (mkF m pc' Ls' st))) : Go p.tables e below Q kc ks s (T.setTop (mkF m pc Ls (.int v :: st))) := by
  subst hp
  exact Go.step (fun _ hr => XS.istore X.here hx rfl (hb hby hd) rfl hl hr) K
theorem lstore (X : Stand p l e R s m args below meth c T locs cells slots) (hx : p.tables.exec = Jvm.exec) (hby : c.code = code) {k : Nat} {v : Int64} (hd : decode code pc = .ok (.lstore k, 2)) (hl : storeLocals Ls k (.long v) = some Ls') (hp : pc + 2 = pc')
    (K : Go p.tables e below Q kc ks s (T.setTop (mkF m pc' Ls' st))) : Go p.tables e below Q kc ks s (T.setTop (mkF m pc Ls (.long v :: st))) := by
  subst hp
  exact Go.step (fun _ hr => XS.lstore X.here hx rfl (hb hby hd) rfl hl hr) K
theorem astore (X : Stand p l e R s m args below meth c T locs cells slots) (hx : p.tables.exec = Jvm.exec) (hby : c.code = code) {k : Nat} {v : Value} (hd : decode code pc = .ok (.astore k, 2)) (hv : v.isRef = true) (hl : storeLocals Ls k v = some Ls') (hp : pc + 2 = pc')
    (K : Go p.tables e below Q kc ks s (T.setTop (mkF m pc' Ls' st))) : Go p.tables e below Q kc ks s (T.setTop (mkF m pc Ls (v :: st))) := by
  subst hp
  exact Go.step (fun _ hr => XS.astore X.here hx rfl (hb hby hd) rfl hv hl hr) K
theorem iconst (X : Stand p l e R s m args below meth c T locs cells slots) (hx : p.tables.exec = Jvm.exec) (hby : c.code = code) {i : Int} {v : Int32} (hd : decode code pc = .ok (.iconst i, 1)) (hv : Int32.ofInt i = v) (hp : pc + 1 = pc')
    (K : Go p.tables e below Q kc ks s (T.setTop (mkF m pc' Ls (.int v :: st)))) : Go p.tables e below Q kc ks s (T.setTop (mkF m pc Ls st)) := by
  subst hp
  subst hv
  exact Go.step (fun _ hr => XS.iconst X.here hx rfl (hb hby hd)  hr) K
theorem bipush (X : Stand p l e R s m args below meth c T locs cells slots) (hx : p.tables.exec = Jvm.exec) (hby : c.code = code) {i : Int} {v : Int32} (hd : decode code pc = .ok (.bipush i, 2)) (hv : (Int8.ofInt i).toInt32 = v) (hp : pc + 2 = pc')
    (K : Go p.tables e below Q kc ks s (T.setTop (mkF m pc' Ls (.int v :: st)))) : Go p.tables e below Q kc ks s (T.setTop (mkF m pc Ls st)) := by
  subst hp
  subst hv
  exact Go.step (fun _ hr => XS.bipush X.here hx rfl (hb hby hd)  hr) K
theorem sipush (X : Stand p l e R s m args below meth c T locs cells slots) (hx : p.tables.exec = Jvm.exec) (hby : c.code = code) {i : Int} {v : Int32} (hd : decode code pc = .ok (.sipush i, 3)) (hv : (Int16.ofInt i).toInt32 = v) (hp : pc + 3 = pc')
    (K : Go p.tables e below Q kc ks s (T.setTop (mkF m pc' Ls (.int v :: st)))) : Go p.tables e below Q kc ks s (T.setTop (mkF m pc Ls st)) := by
  subst hp
  subst hv
  exact Go.step (fun _ hr => XS.sipush X.here hx rfl (hb hby hd)  hr) K
theorem lconst (X : Stand p l e R s m args below meth c T locs cells slots) (hx : p.tables.exec = Jvm.exec) (hby : c.code = code) {i : Fin 2} {v : Int64} (hd : decode code pc = .ok (.lconst i, 1)) (hv : Int64.ofNat i = v) (hp : pc + 1 = pc')
    (K : Go p.tables e below Q kc ks s (T.setTop (mkF m pc' Ls (.long v :: st)))) : Go p.tables e below Q kc ks s (T.setTop (mkF m pc Ls st)) := by
  subst hp
  subst hv
  exact Go.step (fun _ hr => XS.lconst X.here hx rfl (hb hby hd)  hr) K
theorem aconstNull (X : Stand p l e R s m args below meth c T locs cells slots) (hx : p.tables.exec = Jvm.exec) (hby : c.code = code) (hd : decode code pc = .ok (.aconst_null, 1)) (hp : pc + 1 = pc')
    (K : Go p.tables e below Q kc ks s (T.setTop (mkF m pc' Ls (.null :: st)))) : Go p.tables e below Q kc ks s (T.setTop (mkF m pc Ls st)) := by
  subst hp
  exact Go.step (fun _ hr => XS.aconstNull X.here hx rfl (hb hby hd)  hr) K
theorem iadd (X : Stand p l e R s m args below meth c T locs cells slots) (hx : p.tables.exec = Jvm.exec) (hby : c.code = code) {x y : Int32} (hd : decode code pc = .ok (.iadd, 1)) (hp : pc + 1 = pc')
    (K : Go p.tables e below Q kc ks s (T.setTop (mkF m pc' Ls (.int (x + y) :: st)))) : Go p.tables e below Q kc ks s (T.setTop (mkF m pc Ls (.int y :: .int x :: st))) := by
  subst hp
  exact Go.step (fun _ hr => XS.iadd X.here hx rfl (hb hby hd) rfl hr) K
theorem isub (X : Stand p l e R s m args below meth c T locs cells slots) (hx : p.tables.exec = Jvm.exec) (hby : c.code = code) {x y : Int32} (hd : decode code pc = .ok (.isub, 1)) (hp : pc + 1 = pc')
    (K : Go p.tables e below Q kc ks s (T.setTop (mkF m pc' Ls (.int (x - y) :: st)))) : Go p.tables e below Q kc ks s (T.setTop (mkF m pc Ls (.int y :: .int x :: st))) := by
  subst hp
  exact Go.step (fun _ hr => XS.isub X.here hx rfl (hb hby hd) rfl hr) K
theorem imul (X : Stand p l e R s m args below meth c T locs cells slots) (hx : p.tables.exec = Jvm.exec) (hby : c.code = code) {x y : Int32} (hd : decode code pc = .ok (.imul, 1)) (hp : pc + 1 = pc')
    (K : Go p.tables e below Q kc ks s (T.setTop (mkF m pc' Ls (.int (x * y) :: st)))) : Go p.tables e below Q kc ks s (T.setTop (mkF m pc Ls (.int y :: .int x :: st))) := by
  subst hp
  exact Go.step (fun _ hr => XS.imul X.here hx rfl (hb hby hd) rfl hr) K
theorem iand (X : Stand p l e R s m args below meth c T locs cells slots) (hx : p.tables.exec = Jvm.exec) (hby : c.code = code) {x y : Int32} (hd : decode code pc = .ok (.iand, 1)) (hp : pc + 1 = pc')
    (K : Go p.tables e below Q kc ks s (T.setTop (mkF m pc' Ls (.int (x &&& y) :: st)))) : Go p.tables e below Q kc ks s (T.setTop (mkF m pc Ls (.int y :: .int x :: st))) := by
  subst hp
  exact Go.step (fun _ hr => XS.iand X.here hx rfl (hb hby hd) rfl hr) K
theorem ior (X : Stand p l e R s m args below meth c T locs cells slots) (hx : p.tables.exec = Jvm.exec) (hby : c.code = code) {x y : Int32} (hd : decode code pc = .ok (.ior, 1)) (hp : pc + 1 = pc')
    (K : Go p.tables e below Q kc ks s (T.setTop (mkF m pc' Ls (.int (x ||| y) :: st)))) : Go p.tables e below Q kc ks s (T.setTop (mkF m pc Ls (.int y :: .int x :: st))) := by
  subst hp
  exact Go.step (fun _ hr => XS.ior X.here hx rfl (hb hby hd) rfl hr) K
theorem ixor (X : Stand p l e R s m args below meth c T locs cells slots) (hx : p.tables.exec = Jvm.exec) (hby : c.code = code) {x y : Int32} (hd : decode code pc = .ok (.ixor, 1)) (hp : pc + 1 = pc')
    (K : Go p.tables e below Q kc ks s (T.setTop (mkF m pc' Ls (.int (x ^^^ y) :: st)))) : Go p.tables e below Q kc ks s (T.setTop (mkF m pc Ls (.int y :: .int x :: st))) := by
  subst hp
  exact Go.step (fun _ hr => XS.ixor X.here hx rfl (hb hby hd) rfl hr) K
theorem ishl (X : Stand p l e R s m args below meth c T locs cells slots) (hx : p.tables.exec = Jvm.exec) (hby : c.code = code) {x y : Int32} (hd : decode code pc = .ok (.ishl, 1)) (hp : pc + 1 = pc')
    (K : Go p.tables e below Q kc ks s (T.setTop (mkF m pc' Ls (.int (x <<< (y &&& 31)) :: st)))) : Go p.tables e below Q kc ks s (T.setTop (mkF m pc Ls (.int y :: .int x :: st))) := by
  subst hp
  exact Go.step (fun _ hr => XS.ishl X.here hx rfl (hb hby hd) rfl hr) K
theorem ishr (X : Stand p l e R s m args below meth c T locs cells slots) (hx : p.tables.exec = Jvm.exec) (hby : c.code = code) {x y : Int32} (hd : decode code pc = .ok (.ishr, 1)) (hp : pc + 1 = pc')
    (K : Go p.tables e below Q kc ks s (T.setTop (mkF m pc' Ls (.int (x >>> (y &&& 31)) :: st)))) : Go p.tables e below Q kc ks s (T.setTop (mkF m pc Ls (.int y :: .int x :: st))) := by
  subst hp
  exact Go.step (fun _ hr => XS.ishr X.here hx rfl (hb hby hd) rfl hr) K
theorem iushr (X : Stand p l e R s m args below meth c T locs cells slots) (hx : p.tables.exec = Jvm.exec) (hby : c.code = code) {x y : Int32} (hd : decode code pc = .ok (.iushr, 1)) (hp : pc + 1 = pc')
    (K : Go p.tables e below Q kc ks s (T.setTop (mkF m pc' Ls (.int ((x.toUInt32 >>> (y &&& 31).toUInt32).toInt32) :: st)))) : Go p.tables e below Q kc ks s (T.setTop (mkF m pc Ls (.int y :: .int x :: st))) := by
  subst hp
  exact Go.step (fun _ hr => XS.iushr X.here hx rfl (hb hby hd) rfl hr) K
theorem idiv (X : Stand p l e R s m args below meth c T locs cells slots) (hx : p.tables.exec = Jvm.exec) (hby : c.code = code) {x y : Int32} (hd : decode code pc = .ok (.idiv, 1)) (hy : y ≠ 0) (hp : pc + 1 = pc')
    (K : Go p.tables e below Q kc ks s (T.setTop (mkF m pc' Ls (.int (x / y) :: st)))) : Go p.tables e below Q kc ks s (T.setTop (mkF m pc Ls (.int y :: .int x :: st))) := by
  subst hp
  exact Go.step (fun _ hr => XS.idiv X.here hx rfl (hb hby hd) rfl hy hr) K
theorem ladd (X : Stand p l e R s m args below meth c T locs cells slots) (hx : p.tables.exec = Jvm.exec) (hby : c.code = code) {x y : Int64} (hd : decode code pc = .ok (.ladd, 1)) (hp : pc + 1 = pc')
    (K : Go p.tables e below Q kc ks s (T.setTop (mkF m pc' Ls (.long (x + y) :: st)))) : Go p.tables e below Q kc ks s (T.setTop (mkF m pc Ls (.long y :: .long x :: st))) := by
  subst hp
  exact Go.step (fun _ hr => XS.ladd X.here hx rfl (hb hby hd) rfl hr) K
theorem lsub (X : Stand p l e R s m args below meth c T locs cells slots) (hx : p.tables.exec = Jvm.exec) (hby : c.code = code) {x y : Int64} (hd : decode code pc = .ok (.lsub, 1)) (hp : pc + 1 = pc')
    (K : Go p.tables e below Q kc ks s (T.setTop (mkF m pc' Ls (.long (x - y) :: st)))) : Go p.tables e below Q kc ks s (T.setTop (mkF m pc Ls (.long y :: .long x :: st))) := by
  subst hp
  exact Go.step (fun _ hr => XS.lsub X.here hx rfl (hb hby hd) rfl hr) K
theorem lmul (X : Stand p l e R s m args below meth c T locs cells slots) (hx : p.tables.exec = Jvm.exec) (hby : c.code = code) {x y : Int64} (hd : decode code pc = .ok (.lmul, 1)) (hp : pc + 1 = pc')
    (K : Go p.tables e below Q kc ks s (T.setTop (mkF m pc' Ls (.long (x * y) :: st)))) : Go p.tables e below Q kc ks s (T.setTop (mkF m pc Ls (.long y :: .long x :: st))) := by
  subst hp
  exact Go.step (fun _ hr => XS.lmul X.here hx rfl (hb hby hd) rfl hr) K
theorem land (X : Stand p l e R s m args below meth c T locs cells slots) (hx : p.tables.exec = Jvm.exec) (hby : c.code = code) {x y : Int64} (hd : decode code pc = .ok (.land, 1)) (hp : pc + 1 = pc')
    (K : Go p.tables e below Q kc ks s (T.setTop (mkF m pc' Ls (.long (x &&& y) :: st)))) : Go p.tables e below Q kc ks s (T.setTop (mkF m pc Ls (.long y :: .long x :: st))) := by
  subst hp
  exact Go.step (fun _ hr => XS.land X.here hx rfl (hb hby hd) rfl hr) K
theorem lor (X : Stand p l e R s m args below meth c T locs cells slots) (hx : p.tables.exec = Jvm.exec) (hby : c.code = code) {x y : Int64} (hd : decode code pc = .ok (.lor, 1)) (hp : pc + 1 = pc')
    (K : Go p.tables e below Q kc ks s (T.setTop (mkF m pc' Ls (.long (x ||| y) :: st)))) : Go p.tables e below Q kc ks s (T.setTop (mkF m pc Ls (.long y :: .long x :: st))) := by
  subst hp
  exact Go.step (fun _ hr => XS.lor X.here hx rfl (hb hby hd) rfl hr) K
theorem lxor (X : Stand p l e R s m args below meth c T locs cells slots) (hx : p.tables.exec = Jvm.exec) (hby : c.code = code) {x y : Int64} (hd : decode code pc = .ok (.lxor, 1)) (hp : pc + 1 = pc')
    (K : Go p.tables e below Q kc ks s (T.setTop (mkF m pc' Ls (.long (x ^^^ y) :: st)))) : Go p.tables e below Q kc ks s (T.setTop (mkF m pc Ls (.long y :: .long x :: st))) := by
  subst hp
  exact Go.step (fun _ hr => XS.lxor X.here hx rfl (hb hby hd) rfl hr) K
theorem ldiv (X : Stand p l e R s m args below meth c T locs cells slots) (hx : p.tables.exec = Jvm.exec) (hby : c.code = code) {x y : Int64} (hd : decode code pc = .ok (.ldiv, 1)) (hy : y ≠ 0) (hp : pc + 1 = pc')
    (K : Go p.tables e below Q kc ks s (T.setTop (mkF m pc' Ls (.long (x / y) :: st)))) : Go p.tables e below Q kc ks s (T.setTop (mkF m pc Ls (.long y :: .long x :: st))) := by
  subst hp
  exact Go.step (fun _ hr => XS.ldiv X.here hx rfl (hb hby hd) rfl hy hr) K
theorem lcmp (X : Stand p l e R s m args below meth c T locs cells slots) (hx : p.tables.exec = Jvm.exec) (hby : c.code = code) {x y : Int64} (hd : decode code pc = .ok (.lcmp, 1)) (hp : pc + 1 = pc')
    (K : Go p.tables e below Q kc ks s (T.setTop (mkF m pc' Ls (.int (lcmpW x y) :: st)))) : Go p.tables e below Q kc ks s (T.setTop (mkF m pc Ls (.long y :: .long x :: st))) := by
  subst hp
  exact Go.step (fun _ hr => XS.lcmp X.here hx rfl (hb hby hd) rfl hr) K
theorem ineg (X : Stand p l e R s m args below meth c T locs cells slots) (hx : p.tables.exec = Jvm.exec) (hby : c.code = code) {x : Int32} (hd : decode code pc = .ok (.ineg, 1)) (hp : pc + 1 = pc')
    (K : Go p.tables e below Q kc ks s (T.setTop (mkF m pc' Ls (.int (-x) :: st)))) : Go p.tables e below Q kc ks s (T.setTop (mkF m pc Ls (.int x :: st))) := by
  subst hp
  exact Go.step (fun _ hr => XS.ineg X.here hx rfl (hb hby hd) rfl hr) K
theorem lneg (X : Stand p l e R s m args below meth c T locs cells slots) (hx : p.tables.exec = Jvm.exec) (hby : c.code = code) {x : Int64} (hd : decode code pc = .ok (.lneg, 1)) (hp : pc + 1 = pc')
    (K : Go p.tables e below Q kc ks s (T.setTop (mkF m pc' Ls (.long (-x) :: st)))) : Go p.tables e below Q kc ks s (T.setTop (mkF m pc Ls (.long x :: st))) := by
  subst hp
  exact Go.step (fun _ hr => XS.lneg X.here hx rfl (hb hby hd) rfl hr) K
theorem i2l (X : Stand p l e R s m args below meth c T locs cells slots) (hx : p.tables.exec = Jvm.exec) (hby : c.code = code) {x : Int32} (hd : decode code pc = .ok (.i2l, 1)) (hp : pc + 1 = pc')
    (K : Go p.tables e below Q kc ks s (T.setTop (mkF m pc' Ls (.long x.toInt64 :: st)))) : Go p.tables e below Q kc ks s (T.setTop (mkF m pc Ls (.int x :: st))) := by
  subst hp
  exact Go.step (fun _ hr => XS.i2l X.here hx rfl (hb hby hd) rfl hr) K
theorem l2i (X : Stand p l e R s m args below meth c T locs cells slots) (hx : p.tables.exec = Jvm.exec) (hby : c.code = code) {x : Int64} (hd : decode code pc = .ok (.l2i, 1)) (hp : pc + 1 = pc')
    (K : Go p.tables e below Q kc ks s (T.setTop (mkF m pc' Ls (.int x.toInt32 :: st)))) : Go p.tables e below Q kc ks s (T.setTop (mkF m pc Ls (.long x :: st))) := by
  subst hp
  exact Go.step (fun _ hr => XS.l2i X.here hx rfl (hb hby hd) rfl hr) K
theorem i2c (X : Stand p l e R s m args below meth c T locs cells slots) (hx : p.tables.exec = Jvm.exec) (hby : c.code = code) {x : Int32} (hd : decode code pc = .ok (.i2c, 1)) (hp : pc + 1 = pc')
    (K : Go p.tables e below Q kc ks s (T.setTop (mkF m pc' Ls (.int x.toUInt32.toUInt16.toUInt32.toInt32 :: st)))) : Go p.tables e below Q kc ks s (T.setTop (mkF m pc Ls (.int x :: st))) := by
  subst hp
  exact Go.step (fun _ hr => XS.i2c X.here hx rfl (hb hby hd) rfl hr) K
theorem i2b (X : Stand p l e R s m args below meth c T locs cells slots) (hx : p.tables.exec = Jvm.exec) (hby : c.code = code) {x : Int32} (hd : decode code pc = .ok (.i2b, 1)) (hp : pc + 1 = pc')
    (K : Go p.tables e below Q kc ks s (T.setTop (mkF m pc' Ls (.int x.toInt8.toInt32 :: st)))) : Go p.tables e below Q kc ks s (T.setTop (mkF m pc Ls (.int x :: st))) := by
  subst hp
  exact Go.step (fun _ hr => XS.i2b X.here hx rfl (hb hby hd) rfl hr) K
theorem dup (X : Stand p l e R s m args below meth c T locs cells slots) (hx : p.tables.exec = Jvm.exec) (hby : c.code = code) {x : Value} (hd : decode code pc = .ok (.dup, 1)) (hc : x.category = 1) (hp : pc + 1 = pc')
    (K : Go p.tables e below Q kc ks s (T.setTop (mkF m pc' Ls (x :: x :: st)))) : Go p.tables e below Q kc ks s (T.setTop (mkF m pc Ls (x :: st))) := by
  subst hp
  exact Go.step (fun _ hr => XS.dup X.here hx rfl (hb hby hd) rfl hc hr) K
theorem pop (X : Stand p l e R s m args below meth c T locs cells slots) (hx : p.tables.exec = Jvm.exec) (hby : c.code = code) {x : Value} (hd : decode code pc = .ok (.pop, 1)) (hc : x.category = 1) (hp : pc + 1 = pc')
    (K : Go p.tables e below Q kc ks s (T.setTop (mkF m pc' Ls st))) : Go p.tables e below Q kc ks s (T.setTop (mkF m pc Ls (x :: st))) := by
  subst hp
  exact Go.step (fun _ hr => XS.pop X.here hx rfl (hb hby hd) rfl hc hr) K
theorem dupX1 (X : Stand p l e R s m args below meth c T locs cells slots) (hx : p.tables.exec = Jvm.exec) (hby : c.code = code) {x y : Value} (hd : decode code pc = .ok (.dup_x1, 1)) (hc : x.category = 1) (hc' : y.category = 1) (hp : pc + 1 = pc')
    (K : Go p.tables e below Q kc ks s (T.setTop (mkF m pc' Ls (x :: y :: x :: st)))) : Go p.tables e below Q kc ks s (T.setTop (mkF m pc Ls (x :: y :: st))) := by
  subst hp
  exact Go.step (fun _ hr => XS.dupX1 X.here hx rfl (hb hby hd) rfl hc hc' hr) K
theorem iinc (X : Stand p l e R s m args below meth c T locs cells slots) (hx : p.tables.exec = Jvm.exec) (hby : c.code = code) {k : Nat} {cst : Int} {x : Int32} (hd : decode code pc = .ok (.iinc k cst, 3)) (hl : Ls[k]? = some (.val (.int x))) (hl' : storeLocals Ls k (.int (x + Int32.ofInt cst)) = some Ls') (hp : pc + 3 = pc')
    (K : Go p.tables e below Q kc ks s (T.setTop (mkF m pc' Ls' st))) : Go p.tables e below Q kc ks s (T.setTop (mkF m pc Ls st)) := by
  subst hp
  exact Go.step (fun _ hr => XS.iinc X.here hx rfl (hb hby hd) hl hl' hr) K
theorem irem (X : Stand p l e R s m args below meth c T locs cells slots) (hx : p.tables.exec = Jvm.exec) (hby : c.code = code) {x y : Int32} (hd : decode code pc = .ok (.irem, 1)) (hy : y ≠ 0) (hp : pc + 1 = pc')
    (K : Go p.tables e below Q kc ks s (T.setTop (mkF m pc' Ls (.int (x % y) :: st)))) : Go p.tables e below Q kc ks s (T.setTop (mkF m pc Ls (.int y :: .int x :: st))) := by
  subst hp
  exact Go.step (fun _ hr => Jvm.RoadKit.iremM (g := mkF m pc Ls (.int y :: .int x :: st)) X hx rfl (hb hby hd) rfl hy hr) K
theorem goto (X : Stand p l e R s m args below meth c T locs cells slots) (hx : p.tables.exec = Jvm.exec) (hby : c.code = code) {o : Int} (hd : decode code pc = .ok (.goto o, 3)) (ho : 0 ≤ (pc : Int) + o) (hp : ((pc : Int) + o).toNat = pc')
    (K : Go p.tables e below Q kc ks s (T.setTop (mkF m pc' Ls st))) : Go p.tables e below Q kc ks s (T.setTop (mkF m pc Ls st)) :=
  Go.step (fun _ hr => XS.goto X.here hx rfl (pc0 := pc) (pc' := pc') rfl (hb hby hd)  ho hp hr) K
theorem ifYes (X : Stand p l e R s m args below meth c T locs cells slots) (hx : p.tables.exec = Jvm.exec) (hby : c.code = code) {cd : ClassFile.Cond} {x : Int32} {o : Int} (hd : decode code pc = .ok (.ifCond cd o, 3)) (hc : if_icmp.holds cd x 0 = true) (ho : 0 ≤ (pc : Int) + o) (hp : ((pc : Int) + o).toNat = pc')
    (K : Go p.tables e below Q kc ks s (T.setTop (mkF m pc' Ls st))) : Go p.tables e below Q kc ks s (T.setTop (mkF m pc Ls (.int x :: st))) :=
  Go.step (fun _ hr => XS.ifYes X.here hx rfl (pc0 := pc) (pc' := pc') rfl (hb hby hd) rfl ((if0 _ _).trans hc) ho hp hr) K
theorem ifNo (X : Stand p l e R s m args below meth c T locs cells slots) (hx : p.tables.exec = Jvm.exec) (hby : c.code = code) {cd : ClassFile.Cond} {x : Int32} {o : Int} (hd : decode code pc = .ok (.ifCond cd o, 3)) (hc : if_icmp.holds cd x 0 = false) (hp : pc + 3 = pc')
    (K : Go p.tables e below Q kc ks s (T.setTop (mkF m pc' Ls st))) : Go p.tables e below Q kc ks s (T.setTop (mkF m pc Ls (.int x :: st))) := by
  subst hp
  exact Go.step (fun _ hr => XS.ifNo X.here hx rfl (hb hby hd) rfl ((if0 _ _).trans hc) hr) K
theorem icmpYes (X : Stand p l e R s m args below meth c T locs cells slots) (hx : p.tables.exec = Jvm.exec) (hby : c.code = code) {cd : ClassFile.Cond} {x y : Int32} {o : Int} (hd : decode code pc = .ok (.if_icmp cd o, 3)) (hc : if_icmp.holds cd x y = true) (ho : 0 ≤ (pc : Int) + o) (hp : ((pc : Int) + o).toNat = pc')
    (K : Go p.tables e below Q kc ks s (T.setTop (mkF m pc' Ls st))) : Go p.tables e below Q kc ks s (T.setTop (mkF m pc Ls (.int y :: .int x :: st))) :=
  Go.step (fun _ hr => XS.icmpYes X.here hx rfl (pc0 := pc) (pc' := pc') rfl (hb hby hd) rfl hc ho hp hr) K
theorem icmpNo (X : Stand p l e R s m args below meth c T locs cells slots) (hx : p.tables.exec = Jvm.exec) (hby : c.code = code) {cd : ClassFile.Cond} {x y : Int32} {o : Int} (hd : decode code pc = .ok (.if_icmp cd o, 3)) (hc : if_icmp.holds cd x y = false) (hp : pc + 3 = pc')
    (K : Go p.tables e below Q kc ks s (T.setTop (mkF m pc' Ls st))) : Go p.tables e below Q kc ks s (T.setTop (mkF m pc Ls (.int y :: .int x :: st))) := by
  subst hp
  exact Go.step (fun _ hr => XS.icmpNo X.here hx rfl (hb hby hd) rfl hc hr) K
theorem ifnullYes (X : Stand p l e R s m args below meth c T locs cells slots) (hx : p.tables.exec = Jvm.exec) (hby : c.code = code) {o : Int} (hd : decode code pc = .ok (.ifnull o, 3)) (ho : 0 ≤ (pc : Int) + o) (hp : ((pc : Int) + o).toNat = pc')
    (K : Go p.tables e below Q kc ks s (T.setTop (mkF m pc' Ls st))) : Go p.tables e below Q kc ks s (T.setTop (mkF m pc Ls (.null :: st))) :=
  Go.step (fun _ hr => XS.ifnullYes X.here hx rfl (pc0 := pc) (pc' := pc') rfl (hb hby hd) rfl ho hp hr) K
theorem ifnullNo (X : Stand p l e R s m args below meth c T locs cells slots) (hx : p.tables.exec = Jvm.exec) (hby : c.code = code) {b : Addr} {o : Int} (hd : decode code pc = .ok (.ifnull o, 3)) (hp : pc + 3 = pc')
    (K : Go p.tables e below Q kc ks s (T.setTop (mkF m pc' Ls st))) : Go p.tables e below Q kc ks s (T.setTop (mkF m pc Ls (.ref b :: st))) := by
  subst hp
  exact Go.step (fun _ hr => XS.ifnullNo X.here hx rfl (hb hby hd) rfl hr) K
theorem ifnonnullYes (X : Stand p l e R s m args below meth c T locs cells slots) (hx : p.tables.exec = Jvm.exec) (hby : c.code = code) {b : Addr} {o : Int} (hd : decode code pc = .ok (.ifnonnull o, 3)) (ho : 0 ≤ (pc : Int) + o) (hp : ((pc : Int) + o).toNat = pc')
    (K : Go p.tables e below Q kc ks s (T.setTop (mkF m pc' Ls st))) : Go p.tables e below Q kc ks s (T.setTop (mkF m pc Ls (.ref b :: st))) :=
  Go.step (fun _ hr => XS.ifnonnullYes X.here hx rfl (pc0 := pc) (pc' := pc') rfl (hb hby hd) rfl ho hp hr) K
theorem ifnonnullNo (X : Stand p l e R s m args below meth c T locs cells slots) (hx : p.tables.exec = Jvm.exec) (hby : c.code = code) {o : Int} (hd : decode code pc = .ok (.ifnonnull o, 3)) (hp : pc + 3 = pc')
    (K : Go p.tables e below Q kc ks s (T.setTop (mkF m pc' Ls st))) : Go p.tables e below Q kc ks s (T.setTop (mkF m pc Ls (.null :: st))) := by
  subst hp
  exact Go.step (fun _ hr => XS.ifnonnullNo X.here hx rfl (hb hby hd) rfl hr) K
theorem acmp (X : Stand p l e R s m args below meth c T locs cells slots) (hx : p.tables.exec = Jvm.exec) (hby : c.code = code) {cd : ACond} {x y : Value} {o : Int} {same : Bool} (hd : decode code pc = .ok (.if_acmp cd o, 3)) (h1 : x.isRef = true) (h2 : y.isRef = true) (hq : decide (x = y) = same) (ho : 0 ≤ (pc : Int) + o) (hp : pc' = if acV cd same = true then ((pc : Int) + o).toNat else pc + 3)
    (K : Go p.tables e below Q kc ks s (T.setTop (mkF m pc' Ls st))) : Go p.tables e below Q kc ks s (T.setTop (mkF m pc Ls (y :: x :: st))) :=
  Go.step (fun _ hr => Jvm.RoadKit.acmp (g := mkF m pc Ls (y :: x :: st)) X hx rfl h1 h2 (pc0 := pc) (pc' := pc') (same := same) rfl (hb hby hd) rfl hq ho hp hr) K
theorem retZ (X : Stand p l e R s m args below meth c T locs cells slots) (hx : p.tables.exec = Jvm.exec) (hby : c.code = code) {t : FieldType} {z : Int32} (hret : meth.sig.returnType = some t) (ht : t = .boolean ∨ t = .byte ∨ t = .char ∨ t = .short) (hd : decode code pc = .ok (.ireturn, 1)) (hlk : meth.locks = false) (hkc : cells ≤ kc) (hks : slots ≤ ks) (hQ : Q (some (.int (nar t z))) T.heap locs) : Go p.tables e below Q kc ks s (T.setTop (mkF m pc Ls (.int z :: st))) := by
  obtain ⟨fs, hr, hrun, hended, hW, hsame⟩ := X.leave (v := some (.int (nar t z))) (fun h => by rw [hret] at h; cases h) hlk
  exact ⟨_, _, retN X hx hret ht (hb hby hd) hr, hrun, hended, _, _, rfl, hQ, ⟨_, rfl⟩, hW, hsame.mono hkc hks⟩
theorem retI (X : Stand p l e R s m args below meth c T locs cells slots) (hx : p.tables.exec = Jvm.exec) (hby : c.code = code) {z : Int32} (hret : meth.sig.returnType = some .int) (hd : decode code pc = .ok (.ireturn, 1)) (hlk : meth.locks = false) (hkc : cells ≤ kc) (hks : slots ≤ ks) (hQ : Q (some (.int z)) T.heap locs) : Go p.tables e below Q kc ks s (T.setTop (mkF m pc Ls (.int z :: st))) := by
  obtain ⟨fs, hr, hrun, hended, hW, hsame⟩ := X.leave (v := some (.int z)) (fun h => by rw [hret] at h; cases h) hlk
  exact ⟨_, _, Jvm.RoadKit.retOut X hx hret rfl (Or.inl ⟨rfl, Or.inl rfl, z, rfl⟩) (hb hby hd) hr, hrun, hended, _, _, rfl, hQ, ⟨_, rfl⟩, hW, hsame.mono hkc hks⟩
theorem retA (X : Stand p l e R s m args below meth c T locs cells slots) (hx : p.tables.exec = Jvm.exec) (hby : c.code = code) {t : FieldType} {w : Value} (hret : meth.sig.returnType = some t) (ht : t.isReference = true) (hw : w.isRef = true) (hn : narrow t w = w) (hd : decode code pc = .ok (.areturn, 1)) (hlk : meth.locks = false) (hkc : cells ≤ kc) (hks : slots ≤ ks) (hQ : Q (some w) T.heap locs) : Go p.tables e below Q kc ks s (T.setTop (mkF m pc Ls (w :: st))) := by
  obtain ⟨fs, hr, hrun, hended, hW, hsame⟩ := X.leave (v := some w) (fun h => by rw [hret] at h; cases h) hlk
  exact ⟨_, _, Jvm.RoadKit.retOut X hx hret hn (Or.inr (Or.inr (Or.inr (Or.inr ⟨rfl, ht, hw⟩)))) (hb hby hd) hr, hrun, hended, _, _, rfl, hQ, ⟨_, rfl⟩, hW, hsame.mono hkc hks⟩
theorem retV (X : Stand p l e R s m args below meth c T locs cells slots) (hx : p.tables.exec = Jvm.exec) (hby : c.code = code) (hret : meth.sig.returnType = none) (hd : decode code pc = .ok (.return_, 1)) (hlk : meth.locks = false) (hkc : cells ≤ kc) (hks : slots ≤ ks) (hQ : Q none T.heap locs) : Go p.tables e below Q kc ks s (T.setTop (mkF m pc Ls [])) := by
  obtain ⟨fs, hr, hrun, hended, hW, hsame⟩ := X.leave (v := none) (fun _ => rfl) hlk
  exact ⟨_, _, X.returnOut hx hret (hb hby hd) hr, hrun, hended, _, _, rfl, hQ, ⟨_, rfl⟩, hW, hsame.mono hkc hks⟩
end Steps1
section Words1
variable {args : Array Value} {first s : State} {o : Option Outcome} {idx : List Nat} {t : Term} {k : Int32}
theorem eqI_v (h : (Jvm.Cond.eq t (.int k)).value args first o s idx = some true) : t.eval args first o idx s = some (.int k) := by
  simp only [Jvm.Cond.value, Term.eval] at h
  cases ht : t.eval args first o idx s with
  | none => simp [ht] at h
  | some x => cases x <;> simp [ht] at h ⊢; exact h
end Words1
end Jvm.OG
namespace Jvm.OG
open Sem ClassFile Op Lib Jvm.Stand Jvm.Free Jvm.LawKit Jvm.RoadKit
section Laws2
variable {p : Program} {l : Launch} {e : Env} {R : Room} {s : State} {m : MethodId} {args : Array Value} {below : List Frame} {meth : Method} {c : Code} {T : State} {locs : List Loc} {cells slots : Nat} {Q : Option Value → Heap → List Loc → Prop} {kc ks : Nat} {code : ByteArray} {pc pc' : Nat} {Ls Ls' : Array Slot} {st : List Value} {Z : State} {a0 : Array Value} {h : Heap}
theorem gS (X : Stand p l e R s m args below meth c T locs cells slots) (hx : p.tables.exec = Jvm.exec) (hZ : Z.Warmed39 s.vm) (hby : c.code = code) {own : String} {index : Nat} (hown : s.vm.findClass own = some m.cls) {R0 O n d : String} (w : (Cond.fieldLink own index R0 n d).before a0 Z = true) (via : Via Z R0 O n d) (eT : T.heap = h) {v : Value} (F : Sta Z h O n d v) (hd : decode code pc = .ok (.getstatic index, 3)) (hp : pc + 3 = pc')
    (K : ∀ T', Stand p l e R s m args below meth c T' locs cells slots → T'.heap = h → Go p.tables e below Q kc ks s (T'.setTop (mkF m pc' Ls (v :: st)))) : Go p.tables e below Q kc ks s (T.setTop (mkF m pc Ls st)) := by
  subst hp
  obtain ⟨T', X', e', st'⟩ := getS2 X hx hZ hown (host := "") (Or.inl w) via eT F (g := mkF m pc Ls st) rfl (hb hby hd)
  exact Go.step st' (K T' X' e')
theorem gF (X : Stand p l e R s m args below meth c T locs cells slots) (hx : p.tables.exec = Jvm.exec) (hZ : Z.Warmed39 s.vm) (hby : c.code = code) {own : String} {index : Nat} (hown : s.vm.findClass own = some m.cls) {R0 O n d : String} (w : (Cond.fieldLink own index R0 n d).before a0 Z = true) (via : Via Z R0 O n d) (eT : T.heap = h) {a : Addr} {v : Value} (F : Fld Z h a O n d v) (hd : decode code pc = .ok (.getfield index, 3)) (hp : pc + 3 = pc')
    (K : ∀ T', Stand p l e R s m args below meth c T' locs cells slots → T'.heap = h → Go p.tables e below Q kc ks s (T'.setTop (mkF m pc' Ls (v :: st)))) : Go p.tables e below Q kc ks s (T.setTop (mkF m pc Ls (.ref a :: st))) := by
  subst hp
  obtain ⟨T', X', e', st'⟩ := getF X hx hZ hown (host := "") (Or.inl w) via eT F (g := mkF m pc Ls (.ref a :: st)) rfl rfl (hb hby hd)
  exact Go.step st' (K T' X' e')
theorem gSN (X : Stand p l e R s m args below meth c T locs cells slots) (hx : p.tables.exec = Jvm.exec) (hZ : Z.Warmed39 s.vm) (hby : c.code = code) {own : String} {index : Nat} (hown : s.vm.findClass own = some m.cls) {R0 O n d host : String} (w : (Cond.fieldLinkNest own index R0 n d host).before a0 Z = true) (via : Via Z R0 O n d) (eT : T.heap = h) {v : Value} (F : Sta Z h O n d v) (hd : decode code pc = .ok (.getstatic index, 3)) (hp : pc + 3 = pc')
    (K : ∀ T', Stand p l e R s m args below meth c T' locs cells slots → T'.heap = h → Go p.tables e below Q kc ks s (T'.setTop (mkF m pc' Ls (v :: st)))) : Go p.tables e below Q kc ks s (T.setTop (mkF m pc Ls st)) := by
  subst hp
  obtain ⟨T', X', e', st'⟩ := getS2 X hx hZ hown (Or.inr w) via eT F (g := mkF m pc Ls st) rfl (hb hby hd)
  exact Go.step st' (K T' X' e')
theorem gFN (X : Stand p l e R s m args below meth c T locs cells slots) (hx : p.tables.exec = Jvm.exec) (hZ : Z.Warmed39 s.vm) (hby : c.code = code) {own : String} {index : Nat} (hown : s.vm.findClass own = some m.cls) {R0 O n d host : String} (w : (Cond.fieldLinkNest own index R0 n d host).before a0 Z = true) (via : Via Z R0 O n d) (eT : T.heap = h) {a : Addr} {v : Value} (F : Fld Z h a O n d v) (hd : decode code pc = .ok (.getfield index, 3)) (hp : pc + 3 = pc')
    (K : ∀ T', Stand p l e R s m args below meth c T' locs cells slots → T'.heap = h → Go p.tables e below Q kc ks s (T'.setTop (mkF m pc' Ls (v :: st)))) : Go p.tables e below Q kc ks s (T.setTop (mkF m pc Ls (.ref a :: st))) := by
  subst hp
  obtain ⟨T', X', e', st'⟩ := getF X hx hZ hown (Or.inr w) via eT F (g := mkF m pc Ls (.ref a :: st)) rfl rfl (hb hby hd)
  exact Go.step st' (K T' X' e')
theorem pF (X : Stand p l e R s m args below meth c T locs cells slots) (hx : p.tables.exec = Jvm.exec) (hZ : Z.Warmed39 s.vm) (hby : c.code = code) {own : String} {index : Nat} (hown : s.vm.findClass own = some m.cls) {R0 O n d : String} (w : (Cond.fieldLink own index R0 n d).before a0 Z = true) (via : Via Z R0 O n d) (eT : T.heap = h) {C : String} {kk : Nat} {ty : FieldType} {a : Addr} {v old : Value} (F : Fld Z h a O n d old) (E : Exa Z h a C) (L : (Cond.lays C O n d).before a0 Z = true ∨ ((Cond.laysFinal C O n d).before a0 Z = true ∧ own = O ∧ meth.name = "<init>")) (wi : (Cond.instantiable C kk).before a0 Z = true) (hty : parseFieldDescriptor d = some ty) (hn : narrow ty v = v) (hf : fits ty v = true) (hd : decode code pc = .ok (.putfield index, 3)) (hp : pc + 3 = pc')
    (K : ∀ T' h', Stand p l e R s m args below meth c T' (locs ++ [⟨a, Jvm.RoadKit.slotOf Z O n d⟩]) cells slots → T'.heap = h' → Wr h h' a (Jvm.RoadKit.slotOf Z O n d) v → Go p.tables e below Q kc ks s (T'.setTop (mkF m pc' Ls st))) : Go p.tables e below Q kc ks s (T.setTop (mkF m pc Ls (v :: .ref a :: st))) := by
  subst hp
  obtain ⟨T', h', X', e', W', st'⟩ := putF X hx hZ hown (host := "") (Or.inl w) via eT F E L wi hty hn hf (g := mkF m pc Ls (v :: .ref a :: st)) rfl rfl (hb hby hd)
  exact Go.step st' (K T' h' X' e' W')
theorem pFN (X : Stand p l e R s m args below meth c T locs cells slots) (hx : p.tables.exec = Jvm.exec) (hZ : Z.Warmed39 s.vm) (hby : c.code = code) {own : String} {index : Nat} (hown : s.vm.findClass own = some m.cls) {R0 O n d : String} (w : (Cond.fieldLink own index R0 n d).before a0 Z = true) (via : Via Z R0 O n d) (eT : T.heap = h) {C : String} {kk : Nat} {ty : FieldType} {a : Addr} {v v' old : Value} (F : Fld Z h a O n d old) (E : Exa Z h a C) (L : (Cond.lays C O n d).before a0 Z = true ∨ ((Cond.laysFinal C O n d).before a0 Z = true ∧ own = O ∧ meth.name = "<init>")) (wi : (Cond.instantiable C kk).before a0 Z = true) (hty : parseFieldDescriptor d = some ty) (hn : narrow ty v = v') (hf : fits ty v' = true) (hd : decode code pc = .ok (.putfield index, 3)) (hp : pc + 3 = pc')
    (K : ∀ T' h', Stand p l e R s m args below meth c T' (locs ++ [⟨a, Jvm.RoadKit.slotOf Z O n d⟩]) cells slots → T'.heap = h' → Wr h h' a (Jvm.RoadKit.slotOf Z O n d) v' → Go p.tables e below Q kc ks s (T'.setTop (mkF m pc' Ls st))) : Go p.tables e below Q kc ks s (T.setTop (mkF m pc Ls (v :: .ref a :: st))) := by
  subst hp
  obtain ⟨T', h', X', e', W', st'⟩ := putFN X hx hZ hown w via eT F E L wi hty hn hf (g := mkF m pc Ls (v :: .ref a :: st)) rfl rfl (hb hby hd)
  exact Go.step st' (K T' h' X' e' W')
theorem nO (X : Stand p l e R s m args below meth c T locs cells slots) (hx : p.tables.exec = Jvm.exec) (hZ : Z.Warmed39 s.vm) (hby : c.code = code) {own : String} {index : Nat} (hown : s.vm.findClass own = some m.cls) {C : String} {n : Nat} (w : (Cond.classLink own index C).before a0 Z = true) (wi : (Cond.instantiable C n).before a0 Z = true) (wz : (Cond.initialized C).before a0 Z = true) (eT : T.heap = h) (hd : decode code pc = .ok (.new index, 3)) (hc : cells + 1 ≤ R.cells) (hl : slots + n ≤ R.slots) (hp : pc + 3 = pc')
    (K : ∀ T' h' b, b = h.size → Stand p l e R s m args below meth c T' locs (cells + 1) (slots + n) → T'.heap = h' → Ext h h' → Exa Z h' b C → (∀ {O nm d : String} {ty : FieldType}, Laid Z a0 C O nm d → parseFieldDescriptor d = some ty → Fld Z h' b O nm d (defaultValue ty)) → Go p.tables e below Q kc ks s (T'.setTop (mkF m pc' Ls (.ref b :: st)))) : Go p.tables e below Q kc ks s (T.setTop (mkF m pc Ls st)) := by
  subst hp
  obtain ⟨T', h', X', e', E', A', D', -, st'⟩ := newO X hx hZ hown w wi wz eT (g := mkF m pc Ls st) rfl (hb hby hd) hc hl
  exact Go.step st' (K T' h' _ rfl X' e' E' A' D')
theorem iO (X : Stand p l e R s m args below meth c T locs cells slots) (hx : p.tables.exec = Jvm.exec) (hZ : Z.Warmed39 s.vm) (hby : c.code = code) {own : String} {index : Nat} (hown : s.vm.findClass own = some m.cls) (hsz : Ls.size = c.maxLocals) (w1 : (Cond.methodLink own index Lib.objectInit).before a0 Z = true) (w2 : (Cond.instanceMethod Lib.objectInit).before a0 Z = true) (w3 : (Cond.code Lib.objectInit ⟨#[0xb1]⟩ 1 none).before a0 Z = true) (eT : T.heap = h) {a : Addr} {W : Nat} (hW : (st.map fun v => v.category).sum = W) (hf : 1 ≤ R.frames) (hl : W + 12 ≤ R.locals) (hd : decode code pc = .ok (.invokespecial index, 3)) (hp : pc + 3 = pc')
    (K : ∀ T', Stand p l e R s m args below meth c T' locs cells slots → T'.heap = h → Go p.tables e below Q kc ks s (T'.setTop (mkF m pc' Ls st))) : Go p.tables e below Q kc ks s (T.setTop (mkF m pc Ls (.ref a :: st))) := by
  subst hp hW
  obtain ⟨T', X', e', st'⟩ := initO X hx hZ hown w1 w2 w3 eT (g := mkF m pc Ls (.ref a :: st)) rfl hsz rfl (hb hby hd) hf (W := (st.map fun v => v.category).sum) (by show 2 * 0 + _ ≤ _; omega) hl
  exact Go.step st' (K T' X' e')
theorem ldcI (X : Stand p l e R s m args below meth c T locs cells slots) (hx : p.tables.exec = Jvm.exec) (hZ : Z.Warmed39 s.vm) (hby : c.code = code) {own : String} {index : Nat} (hown : s.vm.findClass own = some m.cls) {v : Int32} (w : (Cond.constant own index v).before a0 Z = true) (hd : decode code pc = .ok (.ldc index, 2)) (hp : pc + 2 = pc') (K : Go p.tables e below Q kc ks s (T.setTop (mkF m pc' Ls (.int v :: st)))) : Go p.tables e below Q kc ks s (T.setTop (mkF m pc Ls st)) := by
  subst hp
  exact Go.step (fun _ hr => Jvm.Stand.ldcI (g := mkF m pc Ls st) X hx hown (mv hZ w) rfl (hb hby hd) hr) K
theorem ldcWI (X : Stand p l e R s m args below meth c T locs cells slots) (hx : p.tables.exec = Jvm.exec) (hZ : Z.Warmed39 s.vm) (hby : c.code = code) {own : String} {index : Nat} (hown : s.vm.findClass own = some m.cls) {v : Int32} (w : (Cond.constant own index v).before a0 Z = true) (hd : decode code pc = .ok (.ldc_w index, 3)) (hp : pc + 3 = pc') (K : Go p.tables e below Q kc ks s (T.setTop (mkF m pc' Ls (.int v :: st)))) : Go p.tables e below Q kc ks s (T.setTop (mkF m pc Ls st)) := by
  subst hp
  exact Go.step (fun _ hr => Jvm.Stand.ldcWI (g := mkF m pc Ls st) X hx hown (mv hZ w) rfl (hb hby hd) hr) K
theorem ldc2J (X : Stand p l e R s m args below meth c T locs cells slots) (hx : p.tables.exec = Jvm.exec) (hZ : Z.Warmed39 s.vm) (hby : c.code = code) {own : String} {index : Nat} (hown : s.vm.findClass own = some m.cls) {v : Int64} (w : (Cond.constantLong own index v).before a0 Z = true) (hd : decode code pc = .ok (.ldc2_w index, 3)) (hp : pc + 3 = pc') (K : Go p.tables e below Q kc ks s (T.setTop (mkF m pc' Ls (.long v :: st)))) : Go p.tables e below Q kc ks s (T.setTop (mkF m pc Ls st)) := by
  subst hp
  exact Go.step (fun _ hr => Jvm.Stand.ldc2J (g := mkF m pc Ls st) X hx hown (mv hZ w) rfl (hb hby hd) hr) K
theorem cY (X : Stand p l e R s m args below meth c T locs cells slots) (hx : p.tables.exec = Jvm.exec) (hZ : Z.Warmed39 s.vm) (hby : c.code = code) {own : String} {index : Nat} (hown : s.vm.findClass own = some m.cls) {K0 : String} (w : (Cond.classLink own index K0).before a0 Z = true) (eT : T.heap = h) {a : Addr} (F : Jvm.RoadKit.Ins Z h a K0 true) (hd : decode code pc = .ok (.checkcast index, 3)) (hp : pc + 3 = pc')
    (K : ∀ T', Stand p l e R s m args below meth c T' locs cells slots → T'.heap = h → Go p.tables e below Q kc ks s (T'.setTop (mkF m pc' Ls (.ref a :: st)))) : Go p.tables e below Q kc ks s (T.setTop (mkF m pc Ls (.ref a :: st))) := by
  subst hp
  obtain ⟨T', X', e', st'⟩ := castY X hx hZ hown w eT F (g := mkF m pc Ls (.ref a :: st)) rfl rfl (hb hby hd)
  exact Go.step st' (K T' X' e')
theorem iY (X : Stand p l e R s m args below meth c T locs cells slots) (hx : p.tables.exec = Jvm.exec) (hZ : Z.Warmed39 s.vm) (hby : c.code = code) {own : String} {index : Nat} (hown : s.vm.findClass own = some m.cls) {K0 : String} (w : (Cond.classLink own index K0).before a0 Z = true) (eT : T.heap = h) {a : Addr} (F : Jvm.RoadKit.Ins Z h a K0 true) (hd : decode code pc = .ok (.instanceof index, 3)) (hp : pc + 3 = pc')
    (K : ∀ T', Stand p l e R s m args below meth c T' locs cells slots → T'.heap = h → Go p.tables e below Q kc ks s (T'.setTop (mkF m pc' Ls (.int 1 :: st)))) : Go p.tables e below Q kc ks s (T.setTop (mkF m pc Ls (.ref a :: st))) := by
  subst hp
  obtain ⟨T', X', e', st'⟩ := instY X hx hZ hown w eT F (g := mkF m pc Ls (.ref a :: st)) rfl rfl (hb hby hd)
  exact Go.step st' (K T' X' e')
theorem nR (X : Stand p l e R s m args below meth c T locs cells slots) (hx : p.tables.exec = Jvm.exec) (hZ : Z.Warmed39 s.vm) (hby : c.code = code) {own : String} {index : Nat} (hown : s.vm.findClass own = some m.cls) {C : String} (w1 : (Cond.classLink own index C).before a0 Z = true) (w2 : (Cond.arrayOver (.object C)).before a0 Z = true) (eT : T.heap = h) {n : Int32} (hn : ¬ n < 0) {cap : Nat} (hcap : n.toNatClampNeg ≤ cap) (hb' : cap * 8 ≤ 536870912) (hc : cells + 1 ≤ R.cells) (hl : slots + cap ≤ R.slots) (hd : decode code pc = .ok (.anewarray index, 3)) (hp : pc + 3 = pc')
    (K : ∀ T' h' cA b, b = h.size → Stand p l e R s m args below meth c T' locs (cells + 1) (slots + cap) → T'.heap = h' → Ext h h' → Arv Z h' b cA (.object C) n [] .null → Ovr Z cA C → Go p.tables e below Q kc ks s (T'.setTop (mkF m pc' Ls (.ref b :: st)))) : Go p.tables e below Q kc ks s (T.setTop (mkF m pc Ls (.int n :: st))) := by
  subst hp
  obtain ⟨T', h', cA, X', e', E', A', O', st'⟩ := newR X hx hZ hown w1 w2 eT (g := mkF m pc Ls (.int n :: st)) rfl (hb hby hd) rfl hn hcap hb' hc hl
  exact Go.step st' (K T' h' cA _ rfl X' e' E' (Arv.new A' hn) O')
theorem nP (X : Stand p l e R s m args below meth c T locs cells slots) (hx : p.tables.exec = Jvm.exec) (hZ : Z.Warmed39 s.vm) (hby : c.code = code) {aty : ArrayType} (w : (Cond.arrayClass (newarray.typeOf aty)).before a0 Z = true) (eT : T.heap = h) {n : Int32} (hn : ¬ n < 0) {cap : Nat} (hcap : n.toNatClampNeg ≤ cap) (hb' : cap * 8 ≤ 536870912) (hc : cells + 1 ≤ R.cells) (hl : slots + cap ≤ R.slots) (hd : decode code pc = .ok (.newarray aty, 2)) (hp : pc + 2 = pc')
    (K : ∀ T' h' cA b, b = h.size → Stand p l e R s m args below meth c T' locs (cells + 1) (slots + cap) → T'.heap = h' → Ext h h' → Arv Z h' b cA (newarray.typeOf aty) n [] (defaultValue (newarray.typeOf aty)) → Go p.tables e below Q kc ks s (T'.setTop (mkF m pc' Ls (.ref b :: st)))) : Go p.tables e below Q kc ks s (T.setTop (mkF m pc Ls (.int n :: st))) := by
  subst hp
  obtain ⟨T', h', cA, X', e', E', A', st'⟩ := newP X hx hZ w eT (g := mkF m pc Ls (.int n :: st)) rfl (hb hby hd) rfl hn hcap hb' hc hl
  exact Go.step st' (K T' h' cA _ rfl X' e' E' (Arv.new A' hn))
theorem sC (X : Stand p l e R s m args below meth c T locs cells slots) (hx : p.tables.exec = Jvm.exec) (hZ : Z.Warmed39 s.vm) (hby : c.code = code) (eT : T.heap = h) {a : Addr} {k : ClassId} {z : Int32} {vs : List Value} {dv : Value} (A : Arv Z h a k .char z vs dv) {j x : Int32} (i : Nat) (hj : ¬ j < 0 ∧ j < z) (hi : j.toNatClampNeg = i) (hil : i < vs.length) (hd : decode code pc = .ok (.castore, 1)) (hp : pc + 1 = pc')
    (K : ∀ T' h', Stand p l e R s m args below meth c T' (locs ++ [⟨a, j.toNatClampNeg⟩]) cells slots → T'.heap = h' → Wr h h' a j.toNatClampNeg (.int (nar .char x)) → Arv Z h' a k .char z (vs.set i (.int (nar .char x))) dv → Go p.tables e below Q kc ks s (T'.setTop (mkF m pc' Ls st))) : Go p.tables e below Q kc ks s (T.setTop (mkF m pc Ls (.int x :: .int j :: .ref a :: st))) := by
  subst hp
  obtain ⟨cl, A1, q1, S1, N1, H1, G1⟩ := A
  obtain ⟨T', h', X', e', W', st'⟩ := stC X hx hZ eT A1 (inb_of S1 hj) (g := mkF m pc Ls (.int x :: .int j :: .ref a :: st)) rfl rfl (hb hby hd)
  exact Go.step st' (K T' h' X' e' W' (Arv.set A1 q1 S1 N1 H1 G1 (fits_nar_char x) W' i hi hil))
theorem sB (X : Stand p l e R s m args below meth c T locs cells slots) (hx : p.tables.exec = Jvm.exec) (hZ : Z.Warmed39 s.vm) (hby : c.code = code) (eT : T.heap = h) {a : Addr} {k : ClassId} {z : Int32} {vs : List Value} {dv : Value} (A : Arv Z h a k .byte z vs dv) {j x : Int32} (i : Nat) (hj : ¬ j < 0 ∧ j < z) (hi : j.toNatClampNeg = i) (hil : i < vs.length) (hd : decode code pc = .ok (.bastore, 1)) (hp : pc + 1 = pc')
    (K : ∀ T' h', Stand p l e R s m args below meth c T' (locs ++ [⟨a, j.toNatClampNeg⟩]) cells slots → T'.heap = h' → Wr h h' a j.toNatClampNeg (.int (nar .byte x)) → Arv Z h' a k .byte z (vs.set i (.int (nar .byte x))) dv → Go p.tables e below Q kc ks s (T'.setTop (mkF m pc' Ls st))) : Go p.tables e below Q kc ks s (T.setTop (mkF m pc Ls (.int x :: .int j :: .ref a :: st))) := by
  subst hp
  obtain ⟨cl, A1, q1, S1, N1, H1, G1⟩ := A
  obtain ⟨T', h', X', e', W', st'⟩ := stB X hx hZ eT A1 (inb_of S1 hj) (g := mkF m pc Ls (.int x :: .int j :: .ref a :: st)) rfl rfl (hb hby hd)
  exact Go.step st' (K T' h' X' e' W' (Arv.set A1 q1 S1 N1 H1 G1 (fits_nar_byte x) W' i hi hil))
theorem sI (X : Stand p l e R s m args below meth c T locs cells slots) (hx : p.tables.exec = Jvm.exec) (hZ : Z.Warmed39 s.vm) (hby : c.code = code) (eT : T.heap = h) {a : Addr} {k : ClassId} {z : Int32} {vs : List Value} {dv : Value} (A : Arv Z h a k .int z vs dv) {j x : Int32} (i : Nat) (hj : ¬ j < 0 ∧ j < z) (hi : j.toNatClampNeg = i) (hil : i < vs.length) (hd : decode code pc = .ok (.iastore, 1)) (hp : pc + 1 = pc')
    (K : ∀ T' h', Stand p l e R s m args below meth c T' (locs ++ [⟨a, j.toNatClampNeg⟩]) cells slots → T'.heap = h' → Wr h h' a j.toNatClampNeg (.int x) → Arv Z h' a k .int z (vs.set i (.int x)) dv → Go p.tables e below Q kc ks s (T'.setTop (mkF m pc' Ls st))) : Go p.tables e below Q kc ks s (T.setTop (mkF m pc Ls (.int x :: .int j :: .ref a :: st))) := by
  subst hp
  obtain ⟨cl, A1, q1, S1, N1, H1, G1⟩ := A
  obtain ⟨T', h', X', e', W', st'⟩ := stI X hx hZ eT A1 (inb_of S1 hj) (g := mkF m pc Ls (.int x :: .int j :: .ref a :: st)) rfl rfl (hb hby hd)
  exact Go.step st' (K T' h' X' e' W' (Arv.set A1 q1 S1 N1 H1 G1 (rfl) W' i hi hil))
theorem sR (X : Stand p l e R s m args below meth c T locs cells slots) (hx : p.tables.exec = Jvm.exec) (hZ : Z.Warmed39 s.vm) (hby : c.code = code) (eT : T.heap = h) {a : Addr} {C : String} {k : ClassId} {z : Int32} {vs : List Value} {dv : Value} (A : Arv Z h a k (.object C) z vs dv) {j : Int32} {v : Value} (hv : fits (.object C) v = true) (i : Nat) (hj : ¬ j < 0 ∧ j < z) (hi : j.toNatClampNeg = i) (hil : i < vs.length) (F : ∀ cl, Arr Z h a cl (.object C) → cl.cls = k → Sto Z h a v) (hd : decode code pc = .ok (.aastore, 1)) (hp : pc + 1 = pc')
    (K : ∀ T' h', Stand p l e R s m args below meth c T' (locs ++ [⟨a, j.toNatClampNeg⟩]) cells slots → T'.heap = h' → Wr h h' a j.toNatClampNeg v → Arv Z h' a k (.object C) z (vs.set i v) dv → Go p.tables e below Q kc ks s (T'.setTop (mkF m pc' Ls st))) : Go p.tables e below Q kc ks s (T.setTop (mkF m pc Ls (v :: .int j :: .ref a :: st))) := by
  subst hp
  obtain ⟨cl, A1, q1, S1, N1, H1, G1⟩ := A
  obtain ⟨T', h', X', e', W', st'⟩ := stR X hx hZ eT A1 (inb_of S1 hj) rfl (F cl A1 q1) (g := mkF m pc Ls (v :: .int j :: .ref a :: st)) rfl rfl (hb hby hd)
  exact Go.step st' (K T' h' X' e' W' (Arv.set A1 q1 S1 N1 H1 G1 hv W' i hi hil))
theorem lR (X : Stand p l e R s m args below meth c T locs cells slots) (hx : p.tables.exec = Jvm.exec) (hZ : Z.Warmed39 s.vm) (hby : c.code = code) {ty : FieldType} (hty : ty.isReference = true) (eT : T.heap = h) {a : Addr} {k : ClassId} {z : Int32} {vs : List Value} {dv : Value} (A : Arv Z h a k ty z vs dv) {j : Int32} {v : Value} (hj : ¬ j < 0 ∧ j < z) (hv : vs.getD j.toNatClampNeg dv = v) (hd : decode code pc = .ok (.aaload, 1)) (hp : pc + 1 = pc')
    (K : Go p.tables e below Q kc ks s (T.setTop (mkF m pc' Ls (v :: st)))) : Go p.tables e below Q kc ks s (T.setTop (mkF m pc Ls (.int j :: .ref a :: st))) := by
  subst hp
  obtain ⟨cl, A1, q1, S1, N1, H1, G1⟩ := A
  exact Go.step (fun t hr => X.aaload hx (j := j) (v := v) (by rw [eT]; exact A1.1) (State.isArrayOf_alike hZ.alike A1.2.1) hty A1.2.2 (inb_of S1 hj) (Has.at H1 (inb_of S1 hj) hv) (g := mkF m pc Ls (.int j :: .ref a :: st)) rfl rfl (hb hby hd) t hr) K
theorem lC (X : Stand p l e R s m args below meth c T locs cells slots) (hx : p.tables.exec = Jvm.exec) (hZ : Z.Warmed39 s.vm) (hby : c.code = code) (eT : T.heap = h) {a : Addr} {k : ClassId} {z : Int32} {vs : List Value} {dv : Value} (A : Arv Z h a k .char z vs dv) {j : Int32} {v : Int32} (hj : ¬ j < 0 ∧ j < z) (hv : vs.getD j.toNatClampNeg dv = (.int v)) (hd : decode code pc = .ok (.caload, 1)) (hp : pc + 1 = pc')
    (K : Go p.tables e below Q kc ks s (T.setTop (mkF m pc' Ls ((.int v) :: st)))) : Go p.tables e below Q kc ks s (T.setTop (mkF m pc Ls (.int j :: .ref a :: st))) := by
  subst hp
  obtain ⟨cl, A1, q1, S1, N1, H1, G1⟩ := A
  exact Go.step (fun t hr => X.caload hx (j := j) (v := (.int v)) (by rw [eT]; exact A1.1) (State.isArrayOf_alike hZ.alike A1.2.1) A1.2.2 (inb_of S1 hj) (Has.at H1 (inb_of S1 hj) hv) (g := mkF m pc Ls (.int j :: .ref a :: st)) rfl rfl (hb hby hd) t hr) K
theorem lB (X : Stand p l e R s m args below meth c T locs cells slots) (hx : p.tables.exec = Jvm.exec) (hZ : Z.Warmed39 s.vm) (hby : c.code = code) (eT : T.heap = h) {a : Addr} {k : ClassId} {z : Int32} {vs : List Value} {dv : Value} (A : Arv Z h a k .byte z vs dv) {j : Int32} {v : Int32} (hj : ¬ j < 0 ∧ j < z) (hv : vs.getD j.toNatClampNeg dv = (.int v)) (hd : decode code pc = .ok (.baload, 1)) (hp : pc + 1 = pc')
    (K : Go p.tables e below Q kc ks s (T.setTop (mkF m pc' Ls ((.int v) :: st)))) : Go p.tables e below Q kc ks s (T.setTop (mkF m pc Ls (.int j :: .ref a :: st))) := by
  subst hp
  obtain ⟨cl, A1, q1, S1, N1, H1, G1⟩ := A
  exact Go.step (fun t hr => X.baloadBytes hx (j := j) (v := (.int v)) (by rw [eT]; exact A1.1) (State.isArrayOf_alike hZ.alike A1.2.1) A1.2.2 (inb_of S1 hj) (Has.at H1 (inb_of S1 hj) hv) (g := mkF m pc Ls (.int j :: .ref a :: st)) rfl rfl (hb hby hd) t hr) K
theorem lI (X : Stand p l e R s m args below meth c T locs cells slots) (hx : p.tables.exec = Jvm.exec) (hZ : Z.Warmed39 s.vm) (hby : c.code = code) (eT : T.heap = h) {a : Addr} {k : ClassId} {z : Int32} {vs : List Value} {dv : Value} (A : Arv Z h a k .int z vs dv) {j : Int32} {v : Int32} (hj : ¬ j < 0 ∧ j < z) (hv : vs.getD j.toNatClampNeg dv = (.int v)) (hd : decode code pc = .ok (.iaload, 1)) (hp : pc + 1 = pc')
    (K : Go p.tables e below Q kc ks s (T.setTop (mkF m pc' Ls ((.int v) :: st)))) : Go p.tables e below Q kc ks s (T.setTop (mkF m pc Ls (.int j :: .ref a :: st))) := by
  subst hp
  obtain ⟨cl, A1, q1, S1, N1, H1, G1⟩ := A
  exact Go.step (fun t hr => X.iaload hx (j := j) (v := (.int v)) (by rw [eT]; exact A1.1) (State.isArrayOf_alike hZ.alike A1.2.1) A1.2.2 (inb_of S1 hj) (Has.at H1 (inb_of S1 hj) hv) (g := mkF m pc Ls (.int j :: .ref a :: st)) rfl rfl (hb hby hd) t hr) K
theorem aL (X : Stand p l e R s m args below meth c T locs cells slots) (hx : p.tables.exec = Jvm.exec) (hZ : Z.Warmed39 s.vm) (hby : c.code = code) (eT : T.heap = h) {a : Addr} {ty : FieldType} {k : ClassId} {z : Int32} {vs : List Value} {dv : Value} (A : Arv Z h a k ty z vs dv) (hd : decode code pc = .ok (.arraylength, 1)) (hp : pc + 1 = pc')
    (K : Go p.tables e below Q kc ks s (T.setTop (mkF m pc' Ls (.int z :: st)))) : Go p.tables e below Q kc ks s (T.setTop (mkF m pc Ls (.ref a :: st))) := by
  subst hp
  obtain ⟨cl, A1, q1, S1, N1, H1, G1⟩ := A
  refine Go.step (fun t hr => X.arraylength hx (by rw [eT]; exact A1.1) (State.isArrayOf_alike hZ.alike A1.2.1) (g := mkF m pc Ls (.ref a :: st)) rfl rfl (hb hby hd) t hr) ?_
  rw [len_of S1 N1]
  exact K
theorem cV (X : Stand p l e R s m args below meth c T locs cells slots) (hx : p.tables.exec = Jvm.exec) (hZ : Z.Warmed39 s.vm) (hby : c.code = code) (hsz : Ls.size = c.maxLocals) {own : String} {index : Nat} (hown : s.vm.findClass own = some m.cls) {C : String} {y z : MethodName} {bytes : ByteArray} {maxL : Nat} {ret : Option FieldType} {rm : Room} {as' : Array Value} {Qc : Option Value → Heap → List Loc → Prop} (wl : (Cond.methodLink own index y).before a0 Z = true) (wd : (Cond.declares y).before a0 Z = true) (hnf : NotFace s y) (ws : (Cond.selects C y z).before a0 Z = true) (wi : (Cond.instanceMethod z).before a0 Z = true) (wc : (Cond.code z bytes maxL ret).before a0 Z = true) (wz : (Cond.initialized z.cls).before a0 Z = true) (hy : y.cls ≠ "java/lang/invoke/MethodHandle" ∧ y.cls ≠ "java/lang/invoke/VarHandle") (hM : MetFree l z (head1 [Cond.code z bytes maxL ret] rm) (fun a U => a = as' ∧ Z.Warmed39 U.vm ∧ U.heap = h) (fun _ _ _ _ _ => True) (fun _ U o U' => ∃ v L, o = .returned v ∧ Qc v U'.heap L ∧ FrameEnd U o U' L rm.cells rm.slots)) {b : Addr} (E : Exa Z h b C) (eT : T.heap = h) {argsL stk : List Value} {ps : List FieldType} {r : Option FieldType} (hpd : parseMethodDescriptor y.desc = some ⟨ps, r⟩) (hpl : argsL.length = ps.length) (has : as' = (Value.ref b :: argsL).toArray) (hstk : stk = argsL.reverse ++ .ref b :: st) {W : Nat} (hW : (st.map fun v => v.category).sum = W) (hf : rm.frames + 1 ≤ R.frames) (hl : W + (maxL + 11) + rm.locals ≤ R.locals) (hcl : cells + rm.cells ≤ R.cells) (hsl : slots + rm.slots ≤ R.slots) (hd : decode code pc = .ok (.invokevirtual index, 3)) (hp : pc + 3 = pc')
    (K : ∀ T' L v, Stand p l e R s m args below meth c T' (locs ++ L) (cells + rm.cells) (slots + rm.slots) → Qc v T'.heap L → Go p.tables e below Q kc ks s (T'.setTop (mkF m pc' Ls (v.toList ++ st)))) : Go p.tables e below Q kc ks s (T.setTop (mkF m pc Ls stk)) := by
  subst hp has hstk hW
  obtain ⟨cq, kq, qa, qb, qc⟩ := isOf hZ eT E
  obtain ⟨_, _, ⟨T1, L1, k1, n1⟩, -, X1, ⟨Lc1, hQ1, l1, y1, z1⟩, st1⟩ := X.virtualBack hx (y := y) (z := z) hown (mvT hZ wl) (mvT hZ wd) hnf (mvT hZ ws) (mvT hZ wi) hy (backOf (W := (st.map fun v => v.category).sum) hM hZ wc wz hf hl) qa qc (g := mkF m pc Ls (argsL.reverse ++ .ref b :: st)) rfl hsz (Steps.refl _) (argsL := argsL) (rest := st) (lenOf hpd hpl) rfl (by show 2 * 0 + _ ≤ _; omega) (hb hby hd) (fun _ _ => ⟨rfl, eT, hcl, hsl⟩)
  dsimp only [Pt.U, Pt.locs, Pt.cells, Pt.slots] at X1 l1 y1 z1 st1 hQ1
  subst l1 y1 z1
  exact Go.via st1 (K _ _ _ X1 hQ1)
theorem cI (X : Stand p l e R s m args below meth c T locs cells slots) (hx : p.tables.exec = Jvm.exec) (hZ : Z.Warmed39 s.vm) (hby : c.code = code) (hsz : Ls.size = c.maxLocals) {own : String} {index : Nat} (hown : s.vm.findClass own = some m.cls) {C : String} {count : Nat} {xi y : MethodName} {bytes : ByteArray} {maxL : Nat} {ret : Option FieldType} {rm : Room} {as' : Array Value} {Qc : Option Value → Heap → List Loc → Prop} (wl : (Cond.methodLink own index xi).before a0 Z = true) (wd : (Cond.declares xi).before a0 Z = true) (wf : (Cond.interfaceMethod xi.cls xi.cls xi.name xi.desc).before a0 Z = true) (hwf : ((Cond.interfaceMethod xi.cls xi.cls xi.name xi.desc).onTables && (Cond.interfaceMethod xi.cls xi.cls xi.name xi.desc).keepsFace) = true) (ws : (Cond.selects C xi y).before a0 Z = true) (wi : (Cond.instanceMethod y).before a0 Z = true) (wp : (Cond.publicMethod y).before a0 Z = true) (wu : (Cond.unhidden C xi.name xi.desc).before a0 Z = true) (wct : (Cond.castable C xi.cls).before a0 Z = true) (wc : (Cond.code y bytes maxL ret).before a0 Z = true) (wz : (Cond.initialized y.cls).before a0 Z = true) (hy : xi.cls ≠ "java/lang/invoke/MethodHandle" ∧ xi.cls ≠ "java/lang/invoke/VarHandle") (hM : MetFree l y (head1 [Cond.code y bytes maxL ret] rm) (fun a U => a = as' ∧ Z.Warmed39 U.vm ∧ U.heap = h) (fun _ _ _ _ _ => True) (fun _ U o U' => ∃ v L, o = .returned v ∧ Qc v U'.heap L ∧ FrameEnd U o U' L rm.cells rm.slots)) {b : Addr} (E : Exa Z h b C) (eT : T.heap = h) {argsL stk : List Value} {ps : List FieldType} {r : Option FieldType} (hpd : parseMethodDescriptor xi.desc = some ⟨ps, r⟩) (hpl : argsL.length = ps.length) (has : as' = (Value.ref b :: argsL).toArray) (hstk : stk = argsL.reverse ++ .ref b :: st) {W : Nat} (hW : (st.map fun v => v.category).sum = W) (hf : rm.frames + 1 ≤ R.frames) (hl : W + (maxL + 11) + rm.locals ≤ R.locals) (hcl : cells + rm.cells ≤ R.cells) (hsl : slots + rm.slots ≤ R.slots) (hd : decode code pc = .ok (.invokeinterface index count, 5)) (hp : pc + 5 = pc')
    (K : ∀ T' L v, Stand p l e R s m args below meth c T' (locs ++ L) (cells + rm.cells) (slots + rm.slots) → Qc v T'.heap L → Go p.tables e below Q kc ks s (T'.setTop (mkF m pc' Ls (v.toList ++ st)))) : Go p.tables e below Q kc ks s (T.setTop (mkF m pc Ls stk)) := by
  subst hp has hstk hW
  obtain ⟨cq, kq, qa, qb, qc⟩ := isOf hZ eT E
  obtain ⟨_, _, ⟨T1, L1, k1, n1⟩, -, X1, ⟨Lc1, hQ1, l1, y1, z1⟩, st1⟩ := X.interfaceBack hx (xi := xi) (y := y) hown (mvT hZ wl) (mvT hZ wd) (mvT hZ wf hwf) (mvT hZ ws) (mvT hZ wi) (mvT hZ wp) (mvT hZ wu) (mvT hZ wct) hy (backOf (W := (st.map fun v => v.category).sum) hM hZ wc wz hf hl) qa qb qc (g := mkF m pc Ls (argsL.reverse ++ .ref b :: st)) rfl hsz (Steps.refl _) (argsL := argsL) (rest := st) (lenOf hpd hpl) rfl (by show 2 * 0 + _ ≤ _; omega) (hb hby hd) (fun _ _ => ⟨rfl, eT, hcl, hsl⟩)
  dsimp only [Pt.U, Pt.locs, Pt.cells, Pt.slots] at X1 l1 y1 z1 st1 hQ1
  subst l1 y1 z1
  exact Go.via st1 (K _ _ _ X1 hQ1)
theorem cS (X : Stand p l e R s m args below meth c T locs cells slots) (hx : p.tables.exec = Jvm.exec) (hZ : Z.Warmed39 s.vm) (hby : c.code = code) (hsz : Ls.size = c.maxLocals) {own : String} {index : Nat} (hown : s.vm.findClass own = some m.cls) {y : MethodName} {bytes : ByteArray} {maxL : Nat} {ret : Option FieldType} {rm : Room} {as' : Array Value} {Qc : Option Value → Heap → List Loc → Prop} (wl : (Cond.methodLink own index y).before a0 Z = true) (wst : (Cond.static y).before a0 Z = true) (wc : (Cond.code y bytes maxL ret).before a0 Z = true) (wz : (Cond.initialized y.cls).before a0 Z = true) (hy : y.cls ≠ "java/lang/invoke/MethodHandle" ∧ y.cls ≠ "java/lang/invoke/VarHandle") (hM : MetFree l y (head1 [Cond.code y bytes maxL ret] rm) (fun a U => a = as' ∧ Z.Warmed39 U.vm ∧ U.heap = h) (fun _ _ _ _ _ => True) (fun _ U o U' => ∃ v L, o = .returned v ∧ Qc v U'.heap L ∧ FrameEnd U o U' L rm.cells rm.slots)) (eT : T.heap = h) {argsL stk : List Value} {ps : List FieldType} {r : Option FieldType} (hpd : parseMethodDescriptor y.desc = some ⟨ps, r⟩) (hpl : argsL.length = ps.length) (has : as' = (argsL).toArray) (hstk : stk = argsL.reverse ++ st) {W : Nat} (hW : (st.map fun v => v.category).sum = W) (hf : rm.frames + 1 ≤ R.frames) (hl : W + (maxL + 11) + rm.locals ≤ R.locals) (hcl : cells + rm.cells ≤ R.cells) (hsl : slots + rm.slots ≤ R.slots) (hd : decode code pc = .ok (.invokestatic index, 3)) (hp : pc + 3 = pc')
    (K : ∀ T' L v, Stand p l e R s m args below meth c T' (locs ++ L) (cells + rm.cells) (slots + rm.slots) → Qc v T'.heap L → Go p.tables e below Q kc ks s (T'.setTop (mkF m pc' Ls (v.toList ++ st)))) : Go p.tables e below Q kc ks s (T.setTop (mkF m pc Ls stk)) := by
  subst hp has hstk hW
  obtain ⟨_, _, ⟨T1, L1, k1, n1⟩, -, X1, ⟨Lc1, hQ1, l1, y1, z1⟩, st1⟩ := Jvm.LawKit.callS X hx (y := y) hown (mvT hZ wl) (mvT hZ wst) (mvT hZ wz) (mvT hZ wc) hy (backOf (W := (st.map fun v => v.category).sum) hM hZ wc wz hf hl) (g := mkF m pc Ls (argsL.reverse ++ st)) rfl hsz (argsL := argsL) (rest := st) (lenOf hpd hpl) rfl (by show 2 * 0 + _ ≤ _; omega) (hb hby hd) (fun _ _ => ⟨rfl, eT, hcl, hsl⟩)
  dsimp only [Pt.U, Pt.locs, Pt.cells, Pt.slots] at X1 l1 y1 z1 st1 hQ1
  subst l1 y1 z1
  exact Go.step st1 (K _ _ _ X1 hQ1)
theorem cN (X : Stand p l e R s m args below meth c T locs cells slots) (hx : p.tables.exec = Jvm.exec) (hZ : Z.Warmed39 s.vm) (hby : c.code = code) (hsz : Ls.size = c.maxLocals) {own : String} {index : Nat} (hown : s.vm.findClass own = some m.cls) {y : MethodName} {bytes : ByteArray} {maxL : Nat} {ret : Option FieldType} {rm : Room} {as' : Array Value} {Qc : Option Value → Heap → List Loc → Prop} (hyi : y.name = "<init>") (hrn : ret = none) (wl : (Cond.methodLink own index y).before a0 Z = true) (wi : (Cond.instanceMethod y).before a0 Z = true) (wc : (Cond.code y bytes maxL ret).before a0 Z = true) (wz : (Cond.initialized y.cls).before a0 Z = true) (hy : y.cls ≠ "java/lang/invoke/MethodHandle" ∧ y.cls ≠ "java/lang/invoke/VarHandle") (hM : MetFree l y (head1 [Cond.code y bytes maxL ret] rm) (fun a U => a = as' ∧ Z.Warmed39 U.vm ∧ U.heap = h) (fun _ _ _ _ _ => True) (fun _ U o U' => ∃ v L, o = .returned v ∧ Qc v U'.heap L ∧ FrameEnd U o U' L rm.cells rm.slots)) {b : Addr} (eT : T.heap = h) {argsL stk : List Value} {ps : List FieldType} {r : Option FieldType} (hpd : parseMethodDescriptor y.desc = some ⟨ps, r⟩) (hpl : argsL.length = ps.length) (has : as' = (Value.ref b :: argsL).toArray) (hstk : stk = argsL.reverse ++ .ref b :: st) {W : Nat} (hW : (st.map fun v => v.category).sum = W) (hf : rm.frames + 1 ≤ R.frames) (hl : W + (maxL + 11) + rm.locals ≤ R.locals) (hcl : cells + rm.cells ≤ R.cells) (hsl : slots + rm.slots ≤ R.slots) (hd : decode code pc = .ok (.invokespecial index, 3)) (hp : pc + 3 = pc')
    (K : ∀ T' L v, Stand p l e R s m args below meth c T' (locs ++ L) (cells + rm.cells) (slots + rm.slots) → Qc v T'.heap L → Go p.tables e below Q kc ks s (T'.setTop (mkF m pc' Ls (v.toList ++ st)))) : Go p.tables e below Q kc ks s (T.setTop (mkF m pc Ls stk)) := by
  subst hp has hstk hW hrn
  obtain ⟨_, _, ⟨T1, L1, k1, n1⟩, -, X1, ⟨Lc1, hQ1, l1, y1, z1⟩, st1⟩ := X.specialBack hx (y := y) hyi hown (mvT hZ wl) (mvT hZ wi) (mvT hZ wc) hy (backOf (W := (st.map fun v => v.category).sum) hM hZ wc wz hf hl) (g := mkF m pc Ls (argsL.reverse ++ .ref b :: st)) rfl hsz (Steps.refl _) (a := b) (argsL := argsL) (rest := st) (lenOf hpd hpl) rfl (by show 2 * 0 + _ ≤ _; omega) (hb hby hd) (fun _ _ => ⟨rfl, eT, hcl, hsl⟩)
  dsimp only [Pt.U, Pt.locs, Pt.cells, Pt.slots] at X1 l1 y1 z1 st1 hQ1
  subst l1 y1 z1
  exact Go.via st1 (K _ _ _ X1 hQ1)
theorem cP (X : Stand p l e R s m args below meth c T locs cells slots) (hx : p.tables.exec = Jvm.exec) (hZ : Z.Warmed39 s.vm) (hby : c.code = code) (hsz : Ls.size = c.maxLocals) {own : String} {index : Nat} (hown : s.vm.findClass own = some m.cls) {C : String} {y : MethodName} {bytes : ByteArray} {maxL : Nat} {ret : Option FieldType} {rm : Room} {as' : Array Value} {Qc : Option Value → Heap → List Loc → Prop} (wl : (Cond.methodLink own index y).before a0 Z = true) (wi : (Cond.instanceMethod y).before a0 Z = true) (ws : (Cond.selects y.cls y y).before a0 Z = true) (wp : (Cond.privateMethod y).before a0 Z = true) (wc : (Cond.code y bytes maxL ret).before a0 Z = true) (wz : (Cond.initialized y.cls).before a0 Z = true) (hy : y.cls ≠ "java/lang/invoke/MethodHandle" ∧ y.cls ≠ "java/lang/invoke/VarHandle") (hM : MetFree l y (head1 [Cond.code y bytes maxL ret] rm) (fun a U => a = as' ∧ Z.Warmed39 U.vm ∧ U.heap = h) (fun _ _ _ _ _ => True) (fun _ U o U' => ∃ v L, o = .returned v ∧ Qc v U'.heap L ∧ FrameEnd U o U' L rm.cells rm.slots)) {b : Addr} (E : Exa Z h b C) (eT : T.heap = h) {argsL stk : List Value} {ps : List FieldType} {r : Option FieldType} (hpd : parseMethodDescriptor y.desc = some ⟨ps, r⟩) (hpl : argsL.length = ps.length) (has : as' = (Value.ref b :: argsL).toArray) (hstk : stk = argsL.reverse ++ .ref b :: st) {W : Nat} (hW : (st.map fun v => v.category).sum = W) (hf : rm.frames + 1 ≤ R.frames) (hl : W + (maxL + 11) + rm.locals ≤ R.locals) (hcl : cells + rm.cells ≤ R.cells) (hsl : slots + rm.slots ≤ R.slots) (hd : decode code pc = .ok (.invokevirtual index, 3)) (hp : pc + 3 = pc')
    (K : ∀ T' L v, Stand p l e R s m args below meth c T' (locs ++ L) (cells + rm.cells) (slots + rm.slots) → Qc v T'.heap L → Go p.tables e below Q kc ks s (T'.setTop (mkF m pc' Ls (v.toList ++ st)))) : Go p.tables e below Q kc ks s (T.setTop (mkF m pc Ls stk)) := by
  subst hp has hstk hW
  obtain ⟨cq, qa, qb⟩ := E.cell
  obtain ⟨_, _, ⟨T1, L1, k1, n1⟩, -, X1, ⟨Lc1, hQ1, l1, y1, z1⟩, st1⟩ := X.privateBack hx (y := y) hown (mvT hZ wl) (mvT hZ wi) (mvT hZ ws) (Cond.privateMethod_at (mvP hZ wp (args := #[]))) (mvT hZ wc) hy (backOf (W := (st.map fun v => v.category).sum) hM hZ wc wz hf hl) (g := mkF m pc Ls (argsL.reverse ++ .ref b :: st)) rfl hsz (Steps.refl _) (a := b) (by rw [eT]; exact qa) qb (argsL := argsL) (rest := st) (lenOf hpd hpl) rfl (by show 2 * 0 + _ ≤ _; omega) (hb hby hd) (fun _ _ => ⟨rfl, eT, hcl, hsl⟩)
  dsimp only [Pt.U, Pt.locs, Pt.cells, Pt.slots] at X1 l1 y1 z1 st1 hQ1
  subst l1 y1 z1
  exact Go.via st1 (K _ _ _ X1 hQ1)
theorem cU (X : Stand p l e R s m args below meth c T locs cells slots) (hx : p.tables.exec = Jvm.exec) (hZ : Z.Warmed39 s.vm) (hby : c.code = code) (hsz : Ls.size = c.maxLocals) {own : String} {index : Nat} (hown : s.vm.findClass own = some m.cls) {C : String} {y : MethodName} {bytes : ByteArray} {maxL : Nat} {ret : Option FieldType} {rm : Room} {as' : Array Value} {Qc : Option Value → Heap → List Loc → Prop} (wl : (Cond.methodLink own index y).before a0 Z = true) (wsm : (Cond.sameMethod y.cls y.cls y.name y.desc).before a0 Z = true) (wi : (Cond.instanceMethod y).before a0 Z = true) (wsc : (Cond.superclass own y.cls).before a0 Z = true) (hne : y.name ≠ "<init>") (wc : (Cond.code y bytes maxL ret).before a0 Z = true) (wz : (Cond.initialized y.cls).before a0 Z = true) (hM : MetFree l y (head1 [Cond.code y bytes maxL ret] rm) (fun a U => a = as' ∧ Z.Warmed39 U.vm ∧ U.heap = h) (fun _ _ _ _ _ => True) (fun _ U o U' => ∃ v L, o = .returned v ∧ Qc v U'.heap L ∧ FrameEnd U o U' L rm.cells rm.slots)) {b : Addr} (E : Exa Z h b C) (eT : T.heap = h) {argsL stk : List Value} {ps : List FieldType} {r : Option FieldType} (hpd : parseMethodDescriptor y.desc = some ⟨ps, r⟩) (hpl : argsL.length = ps.length) (has : as' = (Value.ref b :: argsL).toArray) (hstk : stk = argsL.reverse ++ .ref b :: st) {W : Nat} (hW : (st.map fun v => v.category).sum = W) (hf : rm.frames + 1 ≤ R.frames) (hl : W + (maxL + 11) + rm.locals ≤ R.locals) (hcl : cells + rm.cells ≤ R.cells) (hsl : slots + rm.slots ≤ R.slots) (hd : decode code pc = .ok (.invokespecial index, 3)) (hp : pc + 3 = pc')
    (K : ∀ T' L v, Stand p l e R s m args below meth c T' (locs ++ L) (cells + rm.cells) (slots + rm.slots) → Qc v T'.heap L → Go p.tables e below Q kc ks s (T'.setTop (mkF m pc' Ls (v.toList ++ st)))) : Go p.tables e below Q kc ks s (T.setTop (mkF m pc Ls stk)) := by
  subst hp has hstk hW
  obtain ⟨_, _, ⟨T1, L1, k1, n1⟩, -, X1, ⟨Lc1, hQ1, l1, y1, z1⟩, st1⟩ := superBack X hx hZ (y := y) hown wl wsm wi wsc hne (backOf (W := (st.map fun v => v.category).sum) hM hZ wc wz hf hl) eT (Ins.self E) (g := mkF m pc Ls (argsL.reverse ++ .ref b :: st)) rfl hsz wc (argsL := argsL) (rest := st) (lenOf hpd hpl) rfl (by show 2 * 0 + _ ≤ _; omega) (hb hby hd) (fun _ _ => ⟨rfl, eT, hcl, hsl⟩)
  dsimp only [Pt.U, Pt.locs, Pt.cells, Pt.slots] at X1 l1 y1 z1 st1 hQ1
  subst l1 y1 z1
  exact Go.via st1 (K _ _ _ X1 hQ1)
end Laws2
end Jvm.OG
namespace Jvm.Pilot.@@N@@
open Jvm Jvm.ClassFile Sem Op Lib Jvm.Free Jvm.Stand Jvm.LawKit Jvm.RoadKit Bundle Jvm.Pilot.@@N@@.Jvm.D
theorem own_pd_0 : parseMethodDescriptor "(I)Lcom/example/annuaire/annuaire/ldap/LdapOperation;" = some ⟨[.int], some (.object "com/example/annuaire/annuaire/ldap/LdapOperation")⟩ := by decide +kernel
theorem own_pd_1 : parseMethodDescriptor "()Z" = some ⟨[], some .boolean⟩ := by decide +kernel
theorem own_mod10 (x : Int32) : (x &&& (2147483647 : Int32)) % (10 : Int32) = (0 : Int32) ∨ (x &&& (2147483647 : Int32)) % (10 : Int32) = (1 : Int32) ∨ (x &&& (2147483647 : Int32)) % (10 : Int32) = (2 : Int32) ∨ (x &&& (2147483647 : Int32)) % (10 : Int32) = (3 : Int32) ∨ (x &&& (2147483647 : Int32)) % (10 : Int32) = (4 : Int32) ∨ (x &&& (2147483647 : Int32)) % (10 : Int32) = (5 : Int32) ∨ (x &&& (2147483647 : Int32)) % (10 : Int32) = (6 : Int32) ∨ (x &&& (2147483647 : Int32)) % (10 : Int32) = (7 : Int32) ∨ (x &&& (2147483647 : Int32)) % (10 : Int32) = (8 : Int32) ∨ (x &&& (2147483647 : Int32)) % (10 : Int32) = (9 : Int32) := by
  have e1 : (x &&& (2147483647 : Int32)).toInt = x.toInt % 2 ^ 31 := Jvm.Kit.i32_mask x 2147483647 (k := 31) (by decide) (by decide)
  have e2 : ((x &&& (2147483647 : Int32)) % (10 : Int32)).toInt = (x &&& (2147483647 : Int32)).toInt % (10 : Int32).toInt := Jvm.Kit.i32_rem_nonneg (by omega)
  have e3 : (10 : Int32).toInt = 10 := by decide
  rw [e3] at e2
  have e4 : ((x &&& (2147483647 : Int32)) % (10 : Int32)).toInt = 0 ∨ ((x &&& (2147483647 : Int32)) % (10 : Int32)).toInt = 1 ∨ ((x &&& (2147483647 : Int32)) % (10 : Int32)).toInt = 2 ∨ ((x &&& (2147483647 : Int32)) % (10 : Int32)).toInt = 3 ∨ ((x &&& (2147483647 : Int32)) % (10 : Int32)).toInt = 4 ∨ ((x &&& (2147483647 : Int32)) % (10 : Int32)).toInt = 5 ∨ ((x &&& (2147483647 : Int32)) % (10 : Int32)).toInt = 6 ∨ ((x &&& (2147483647 : Int32)) % (10 : Int32)).toInt = 7 ∨ ((x &&& (2147483647 : Int32)) % (10 : Int32)).toInt = 8 ∨ ((x &&& (2147483647 : Int32)) % (10 : Int32)).toInt = 9 := by omega
  rcases e4 with h | h | h | h | h | h | h | h | h | h <;> simp only [← Int32.toInt_inj, h] <;> decide
theorem own_d_pick_0 : decode method_2_code 0 = .ok (.iload_n 0, 1) := by decide +kernel
theorem own_d_pick_1 : decode method_2_code 1 = .ok (.ifCond .ne 7, 3) := by decide +kernel
theorem own_d_pick_4 : decode method_2_code 4 = .ok (.getstatic 7, 3) := by decide +kernel
theorem own_d_pick_7 : decode method_2_code 7 = .ok (.areturn, 1) := by decide +kernel
theorem own_d_pick_8 : decode method_2_code 8 = .ok (.iload_n 0, 1) := by decide +kernel
theorem own_d_pick_9 : decode method_2_code 9 = .ok (.iconst 1, 1) := by decide +kernel
theorem own_d_pick_10 : decode method_2_code 10 = .ok (.if_icmp .ne 7, 3) := by decide +kernel
theorem own_d_pick_13 : decode method_2_code 13 = .ok (.getstatic 13, 3) := by decide +kernel
theorem own_d_pick_16 : decode method_2_code 16 = .ok (.areturn, 1) := by decide +kernel
theorem own_d_pick_17 : decode method_2_code 17 = .ok (.iload_n 0, 1) := by decide +kernel
theorem own_d_pick_18 : decode method_2_code 18 = .ok (.iconst 2, 1) := by decide +kernel
theorem own_d_pick_19 : decode method_2_code 19 = .ok (.if_icmp .ne 7, 3) := by decide +kernel
theorem own_d_pick_22 : decode method_2_code 22 = .ok (.getstatic 16, 3) := by decide +kernel
theorem own_d_pick_25 : decode method_2_code 25 = .ok (.areturn, 1) := by decide +kernel
theorem own_d_pick_26 : decode method_2_code 26 = .ok (.iload_n 0, 1) := by decide +kernel
theorem own_d_pick_27 : decode method_2_code 27 = .ok (.iconst 3, 1) := by decide +kernel
theorem own_d_pick_28 : decode method_2_code 28 = .ok (.if_icmp .ne 7, 3) := by decide +kernel
theorem own_d_pick_31 : decode method_2_code 31 = .ok (.getstatic 19, 3) := by decide +kernel
theorem own_d_pick_34 : decode method_2_code 34 = .ok (.areturn, 1) := by decide +kernel
theorem own_d_pick_35 : decode method_2_code 35 = .ok (.iload_n 0, 1) := by decide +kernel
theorem own_d_pick_36 : decode method_2_code 36 = .ok (.iconst 4, 1) := by decide +kernel
theorem own_d_pick_37 : decode method_2_code 37 = .ok (.if_icmp .ne 7, 3) := by decide +kernel
theorem own_d_pick_40 : decode method_2_code 40 = .ok (.getstatic 22, 3) := by decide +kernel
theorem own_d_pick_43 : decode method_2_code 43 = .ok (.areturn, 1) := by decide +kernel
theorem own_d_pick_44 : decode method_2_code 44 = .ok (.iload_n 0, 1) := by decide +kernel
theorem own_d_pick_45 : decode method_2_code 45 = .ok (.iconst 5, 1) := by decide +kernel
theorem own_d_pick_46 : decode method_2_code 46 = .ok (.if_icmp .ne 7, 3) := by decide +kernel
theorem own_d_pick_49 : decode method_2_code 49 = .ok (.getstatic 25, 3) := by decide +kernel
theorem own_d_pick_52 : decode method_2_code 52 = .ok (.areturn, 1) := by decide +kernel
theorem own_d_pick_53 : decode method_2_code 53 = .ok (.iload_n 0, 1) := by decide +kernel
theorem own_d_pick_54 : decode method_2_code 54 = .ok (.bipush 6, 2) := by decide +kernel
theorem own_d_pick_56 : decode method_2_code 56 = .ok (.if_icmp .ne 7, 3) := by decide +kernel
theorem own_d_pick_59 : decode method_2_code 59 = .ok (.getstatic 28, 3) := by decide +kernel
theorem own_d_pick_62 : decode method_2_code 62 = .ok (.areturn, 1) := by decide +kernel
theorem own_d_pick_63 : decode method_2_code 63 = .ok (.iload_n 0, 1) := by decide +kernel
theorem own_d_pick_64 : decode method_2_code 64 = .ok (.bipush 7, 2) := by decide +kernel
theorem own_d_pick_66 : decode method_2_code 66 = .ok (.if_icmp .ne 7, 3) := by decide +kernel
theorem own_d_pick_69 : decode method_2_code 69 = .ok (.getstatic 31, 3) := by decide +kernel
theorem own_d_pick_72 : decode method_2_code 72 = .ok (.areturn, 1) := by decide +kernel
theorem own_d_pick_73 : decode method_2_code 73 = .ok (.iload_n 0, 1) := by decide +kernel
theorem own_d_pick_74 : decode method_2_code 74 = .ok (.bipush 8, 2) := by decide +kernel
theorem own_d_pick_76 : decode method_2_code 76 = .ok (.if_icmp .ne 7, 3) := by decide +kernel
theorem own_d_pick_79 : decode method_2_code 79 = .ok (.getstatic 34, 3) := by decide +kernel
theorem own_d_pick_82 : decode method_2_code 82 = .ok (.areturn, 1) := by decide +kernel
theorem own_d_pick_83 : decode method_2_code 83 = .ok (.getstatic 37, 3) := by decide +kernel
theorem own_d_pick_86 : decode method_2_code 86 = .ok (.areturn, 1) := by decide +kernel
theorem own_pn_pick : plainName "com/example/annuaire/annuaire/ldap/LdapOperationIsAnsweredPinLaw" = true := by first | (simp [plainName, overriddenIn]; done) | decide +kernel
theorem own_ef_pick (m : MethodId) (x0 : Int32)  : entryFrame m #[(.int x0)] 1 = mkF m 0 #[.val (.int x0)] [] := by first | (simp [entryFrame, mkF, argsToLocals, Value.category]; done) | rfl
def own_Q_pick (Z : State) (p1 : Int32) (w0 : Addr) (w1 : Addr) (w2 : Addr) (w3 : Addr) (w4 : Addr) (w5 : Addr) (w6 : Addr) (w7 : Addr) (w8 : Addr) (w9 : Addr) (r : Addr) (h0 : Heap) (n0 : Nat) (v : Option Value) (h : Heap) (L : List Loc) : Prop := v = some (.ref r) ∧ Fr n0 L ∧ h = h0
set_option maxRecDepth 65536 in
set_option maxHeartbeats 40000000 in
theorem own_rm_pick (l : Launch) (Z : State) (a0 : Array Value) (hw : ∀ d ∈ tables_1, d.before a0 Z = true) (ws : List Jvm.Cond) (p1 : Int32) (w0 : Addr) (w1 : Addr) (w2 : Addr) (w3 : Addr) (w4 : Addr) (w5 : Addr) (w6 : Addr) (w7 : Addr) (w8 : Addr) (w9 : Addr) (r : Addr) (h0 : Heap) (n0 : Nat) (Z0 : n0 ≤ h0.size) (S_BIND : Sta Z h0 "com/example/annuaire/annuaire/ldap/LdapOperation" "BIND" "Lcom/example/annuaire/annuaire/ldap/LdapOperation;" (.ref w0)) (S_UNBIND : Sta Z h0 "com/example/annuaire/annuaire/ldap/LdapOperation" "UNBIND" "Lcom/example/annuaire/annuaire/ldap/LdapOperation;" (.ref w1)) (S_SEARCH : Sta Z h0 "com/example/annuaire/annuaire/ldap/LdapOperation" "SEARCH" "Lcom/example/annuaire/annuaire/ldap/LdapOperation;" (.ref w2)) (S_MODIFY : Sta Z h0 "com/example/annuaire/annuaire/ldap/LdapOperation" "MODIFY" "Lcom/example/annuaire/annuaire/ldap/LdapOperation;" (.ref w3)) (S_ADD : Sta Z h0 "com/example/annuaire/annuaire/ldap/LdapOperation" "ADD" "Lcom/example/annuaire/annuaire/ldap/LdapOperation;" (.ref w4)) (S_DELETE : Sta Z h0 "com/example/annuaire/annuaire/ldap/LdapOperation" "DELETE" "Lcom/example/annuaire/annuaire/ldap/LdapOperation;" (.ref w5)) (S_MODIFY_DN : Sta Z h0 "com/example/annuaire/annuaire/ldap/LdapOperation" "MODIFY_DN" "Lcom/example/annuaire/annuaire/ldap/LdapOperation;" (.ref w6)) (S_COMPARE : Sta Z h0 "com/example/annuaire/annuaire/ldap/LdapOperation" "COMPARE" "Lcom/example/annuaire/annuaire/ldap/LdapOperation;" (.ref w7)) (S_ABANDON : Sta Z h0 "com/example/annuaire/annuaire/ldap/LdapOperation" "ABANDON" "Lcom/example/annuaire/annuaire/ldap/LdapOperation;" (.ref w8)) (S_EXTENDED : Sta Z h0 "com/example/annuaire/annuaire/ldap/LdapOperation" "EXTENDED" "Lcom/example/annuaire/annuaire/ldap/LdapOperation;" (.ref w9)) (hr : (if p1 = (0 : Int32) then w0 else (if p1 = (1 : Int32) then w1 else (if p1 = (2 : Int32) then w2 else (if p1 = (3 : Int32) then w3 else (if p1 = (4 : Int32) then w4 else (if p1 = (5 : Int32) then w5 else (if p1 = (6 : Int32) then w6 else (if p1 = (7 : Int32) then w7 else (if p1 = (8 : Int32) then w8 else w9))))))))) = r) :
    MetFree l (⟨"com/example/annuaire/annuaire/ldap/LdapOperationIsAnsweredPinLaw", "pick", "(I)Lcom/example/annuaire/annuaire/ldap/LdapOperation;"⟩ : MethodName) (head1 (Jvm.Cond.code (⟨"com/example/annuaire/annuaire/ldap/LdapOperationIsAnsweredPinLaw", "pick", "(I)Lcom/example/annuaire/annuaire/ldap/LdapOperation;"⟩ : MethodName) method_2_code 1 (some (.object "com/example/annuaire/annuaire/ldap/LdapOperation")) :: ws) ({ frames := 0, cells := 0, slots := 0, locals := 0 } : Room)) (fun a U => a = #[(.int p1)] ∧ Z.Warmed39 U.vm ∧ U.heap = h0) (fun _ _ _ _ _ => True) (fun _ U o U' => ∃ v L, o = .returned v ∧ own_Q_pick Z p1 w0 w1 w2 w3 w4 w5 w6 w7 w8 w9 r h0 n0 v U'.heap L ∧ FrameEnd U o U' L ({ frames := 0, cells := 0, slots := 0, locals := 0 } : Room).cells ({ frames := 0, cells := 0, slots := 0, locals := 0 } : Room).slots) := by
  refine MetFree.of_bodySF (plainFor_of_name own_pn_pick) hisR ?_
  intro p e s m args below meth c s₁ Bd hml0 hP hK
  obtain ⟨rfl, hZ, hh⟩ := hP
  have hx := Bd.exec
  have hby := Bd.bytes
  have hml : c.maxLocals = 1 := hml0
  have hown : s.vm.findClass "com/example/annuaire/annuaire/ldap/LdapOperationIsAnsweredPinLaw" = some m.cls := findClass_of_methodNamed Bd.named
  have hnm := (name_of_methodNamed Bd.named Bd.method).1
  have X0 : Stand p l e ({ frames := 0, cells := 0, slots := 0, locals := 0 } : Room) s m #[(.int p1)] below meth c s₁ [] 0 0 := Stand.of_body Bd
  have e0 : s₁.heap = h0 := by rw [← hh, Bd.state]; rfl
  have N0 := Fr.nil n0
  show OG.Go p.tables e below (own_Q_pick Z p1 w0 w1 w2 w3 w4 w5 w6 w7 w8 w9 r h0 n0) ({ frames := 0, cells := 0, slots := 0, locals := 0 } : Room).cells ({ frames := 0, cells := 0, slots := 0, locals := 0 } : Room).slots s (s₁.setTop (entryFrame m #[(.int p1)] 1))
  refine OG.Go.cast (own_ef_pick m p1) ?_
  refine OG.iloadN X0 hx hby own_d_pick_0 rfl rfl ?_
  by_cases hc1_1 : p1 = (0 : Int32)
  · refine OG.ifNo X0 hx hby own_d_pick_1 (teq hc1_1).2 rfl ?_
    refine OG.gS X0 hx hZ hby hown (hw _ (List.mem_of_getElem? (i := 5) rfl)) Via.refl e0 S_BIND own_d_pick_4 rfl ?_
    intro T2 X2 e2
    refine OG.retA X2 hx hby Bd.returns rfl rfl rfl own_d_pick_7 Bd.notSynchronized (by decide) (by decide) ?_
    exact ⟨by subst hr; simp [hc1_1], N0, e2⟩
  · refine OG.ifYes (pc' := 8) X0 hx hby own_d_pick_1 (feq hc1_1).2 (by decide) (by decide) ?_
    refine OG.iloadN X0 hx hby own_d_pick_8 rfl rfl ?_
    refine OG.iconst (v := (1 : Int32)) X0 hx hby own_d_pick_9 (by decide) rfl ?_
    by_cases hc10_3 : p1 = (1 : Int32)
    · refine OG.icmpNo X0 hx hby own_d_pick_10 (teq hc10_3).2 rfl ?_
      refine OG.gS X0 hx hZ hby hown (hw _ (List.mem_of_getElem? (i := 17) rfl)) Via.refl e0 S_UNBIND own_d_pick_13 rfl ?_
      intro T4 X4 e4
      refine OG.retA X4 hx hby Bd.returns rfl rfl rfl own_d_pick_16 Bd.notSynchronized (by decide) (by decide) ?_
      exact ⟨by subst hr; simp [hc1_1, hc10_3], N0, e4⟩
    · refine OG.icmpYes (pc' := 17) X0 hx hby own_d_pick_10 (feq hc10_3).2 (by decide) (by decide) ?_
      refine OG.iloadN X0 hx hby own_d_pick_17 rfl rfl ?_
      refine OG.iconst (v := (2 : Int32)) X0 hx hby own_d_pick_18 (by decide) rfl ?_
      by_cases hc19_5 : p1 = (2 : Int32)
      · refine OG.icmpNo X0 hx hby own_d_pick_19 (teq hc19_5).2 rfl ?_
        refine OG.gS X0 hx hZ hby hown (hw _ (List.mem_of_getElem? (i := 23) rfl)) Via.refl e0 S_SEARCH own_d_pick_22 rfl ?_
        intro T6 X6 e6
        refine OG.retA X6 hx hby Bd.returns rfl rfl rfl own_d_pick_25 Bd.notSynchronized (by decide) (by decide) ?_
        exact ⟨by subst hr; simp [hc1_1, hc10_3, hc19_5], N0, e6⟩
      · refine OG.icmpYes (pc' := 26) X0 hx hby own_d_pick_19 (feq hc19_5).2 (by decide) (by decide) ?_
        refine OG.iloadN X0 hx hby own_d_pick_26 rfl rfl ?_
        refine OG.iconst (v := (3 : Int32)) X0 hx hby own_d_pick_27 (by decide) rfl ?_
        by_cases hc28_7 : p1 = (3 : Int32)
        · refine OG.icmpNo X0 hx hby own_d_pick_28 (teq hc28_7).2 rfl ?_
          refine OG.gS X0 hx hZ hby hown (hw _ (List.mem_of_getElem? (i := 15) rfl)) Via.refl e0 S_MODIFY own_d_pick_31 rfl ?_
          intro T8 X8 e8
          refine OG.retA X8 hx hby Bd.returns rfl rfl rfl own_d_pick_34 Bd.notSynchronized (by decide) (by decide) ?_
          exact ⟨by subst hr; simp [hc1_1, hc10_3, hc19_5, hc28_7], N0, e8⟩
        · refine OG.icmpYes (pc' := 35) X0 hx hby own_d_pick_28 (feq hc28_7).2 (by decide) (by decide) ?_
          refine OG.iloadN X0 hx hby own_d_pick_35 rfl rfl ?_
          refine OG.iconst (v := (4 : Int32)) X0 hx hby own_d_pick_36 (by decide) rfl ?_
          by_cases hc37_9 : p1 = (4 : Int32)
          · refine OG.icmpNo X0 hx hby own_d_pick_37 (teq hc37_9).2 rfl ?_
            refine OG.gS X0 hx hZ hby hown (hw _ (List.mem_of_getElem? (i := 19) rfl)) Via.refl e0 S_ADD own_d_pick_40 rfl ?_
            intro T10 X10 e10
            refine OG.retA X10 hx hby Bd.returns rfl rfl rfl own_d_pick_43 Bd.notSynchronized (by decide) (by decide) ?_
            exact ⟨by subst hr; simp [hc1_1, hc10_3, hc19_5, hc28_7, hc37_9], N0, e10⟩
          · refine OG.icmpYes (pc' := 44) X0 hx hby own_d_pick_37 (feq hc37_9).2 (by decide) (by decide) ?_
            refine OG.iloadN X0 hx hby own_d_pick_44 rfl rfl ?_
            refine OG.iconst (v := (5 : Int32)) X0 hx hby own_d_pick_45 (by decide) rfl ?_
            by_cases hc46_11 : p1 = (5 : Int32)
            · refine OG.icmpNo X0 hx hby own_d_pick_46 (teq hc46_11).2 rfl ?_
              refine OG.gS X0 hx hZ hby hown (hw _ (List.mem_of_getElem? (i := 29) rfl)) Via.refl e0 S_DELETE own_d_pick_49 rfl ?_
              intro T12 X12 e12
              refine OG.retA X12 hx hby Bd.returns rfl rfl rfl own_d_pick_52 Bd.notSynchronized (by decide) (by decide) ?_
              exact ⟨by subst hr; simp [hc1_1, hc10_3, hc19_5, hc28_7, hc37_9, hc46_11], N0, e12⟩
            · refine OG.icmpYes (pc' := 53) X0 hx hby own_d_pick_46 (feq hc46_11).2 (by decide) (by decide) ?_
              refine OG.iloadN X0 hx hby own_d_pick_53 rfl rfl ?_
              refine OG.bipush (v := (6 : Int32)) X0 hx hby own_d_pick_54 (by decide) rfl ?_
              by_cases hc56_13 : p1 = (6 : Int32)
              · refine OG.icmpNo X0 hx hby own_d_pick_56 (teq hc56_13).2 rfl ?_
                refine OG.gS X0 hx hZ hby hown (hw _ (List.mem_of_getElem? (i := 31) rfl)) Via.refl e0 S_MODIFY_DN own_d_pick_59 rfl ?_
                intro T14 X14 e14
                refine OG.retA X14 hx hby Bd.returns rfl rfl rfl own_d_pick_62 Bd.notSynchronized (by decide) (by decide) ?_
                exact ⟨by subst hr; simp [hc1_1, hc10_3, hc19_5, hc28_7, hc37_9, hc46_11, hc56_13], N0, e14⟩
              · refine OG.icmpYes (pc' := 63) X0 hx hby own_d_pick_56 (feq hc56_13).2 (by decide) (by decide) ?_
                refine OG.iloadN X0 hx hby own_d_pick_63 rfl rfl ?_
                refine OG.bipush (v := (7 : Int32)) X0 hx hby own_d_pick_64 (by decide) rfl ?_
                by_cases hc66_15 : p1 = (7 : Int32)
                · refine OG.icmpNo X0 hx hby own_d_pick_66 (teq hc66_15).2 rfl ?_
                  refine OG.gS X0 hx hZ hby hown (hw _ (List.mem_of_getElem? (i := 21) rfl)) Via.refl e0 S_COMPARE own_d_pick_69 rfl ?_
                  intro T16 X16 e16
                  refine OG.retA X16 hx hby Bd.returns rfl rfl rfl own_d_pick_72 Bd.notSynchronized (by decide) (by decide) ?_
                  exact ⟨by subst hr; simp [hc1_1, hc10_3, hc19_5, hc28_7, hc37_9, hc46_11, hc56_13, hc66_15], N0, e16⟩
                · refine OG.icmpYes (pc' := 73) X0 hx hby own_d_pick_66 (feq hc66_15).2 (by decide) (by decide) ?_
                  refine OG.iloadN X0 hx hby own_d_pick_73 rfl rfl ?_
                  refine OG.bipush (v := (8 : Int32)) X0 hx hby own_d_pick_74 (by decide) rfl ?_
                  by_cases hc76_17 : p1 = (8 : Int32)
                  · refine OG.icmpNo X0 hx hby own_d_pick_76 (teq hc76_17).2 rfl ?_
                    refine OG.gS X0 hx hZ hby hown (hw _ (List.mem_of_getElem? (i := 25) rfl)) Via.refl e0 S_ABANDON own_d_pick_79 rfl ?_
                    intro T18 X18 e18
                    refine OG.retA X18 hx hby Bd.returns rfl rfl rfl own_d_pick_82 Bd.notSynchronized (by decide) (by decide) ?_
                    exact ⟨by subst hr; simp [hc1_1, hc10_3, hc19_5, hc28_7, hc37_9, hc46_11, hc56_13, hc66_15, hc76_17], N0, e18⟩
                  · refine OG.icmpYes (pc' := 83) X0 hx hby own_d_pick_76 (feq hc76_17).2 (by decide) (by decide) ?_
                    refine OG.gS X0 hx hZ hby hown (hw _ (List.mem_of_getElem? (i := 27) rfl)) Via.refl e0 S_EXTENDED own_d_pick_83 rfl ?_
                    intro T19 X19 e19
                    refine OG.retA X19 hx hby Bd.returns rfl rfl rfl own_d_pick_86 Bd.notSynchronized (by decide) (by decide) ?_
                    exact ⟨by subst hr; simp [hc1_1, hc10_3, hc19_5, hc28_7, hc37_9, hc46_11, hc56_13, hc66_15, hc76_17], N0, e19⟩
theorem own_d_isAns_0 : decode prog_116_method_5_code 0 = .ok (.aload_n 0, 1) := by decide +kernel
theorem own_d_isAns_1 : decode prog_116_method_5_code 1 = .ok (.getfield 57, 3) := by decide +kernel
theorem own_d_isAns_4 : decode prog_116_method_5_code 4 = .ok (.iconst (-1), 1) := by decide +kernel
theorem own_d_isAns_5 : decode prog_116_method_5_code 5 = .ok (.if_icmp .eq 7, 3) := by decide +kernel
theorem own_d_isAns_8 : decode prog_116_method_5_code 8 = .ok (.iconst 1, 1) := by decide +kernel
theorem own_d_isAns_9 : decode prog_116_method_5_code 9 = .ok (.goto 4, 3) := by decide +kernel
theorem own_d_isAns_12 : decode prog_116_method_5_code 12 = .ok (.iconst 0, 1) := by decide +kernel
theorem own_d_isAns_13 : decode prog_116_method_5_code 13 = .ok (.ireturn, 1) := by decide +kernel
theorem own_pn_isAns : plainName "com/example/annuaire/annuaire/ldap/LdapOperation" = true := by first | (simp [plainName, overriddenIn]; done) | decide +kernel
theorem own_ef_isAns (m : MethodId) (x0 : Addr)  : entryFrame m #[(.ref x0)] 1 = mkF m 0 #[.val (.ref x0)] [] := by first | (simp [entryFrame, mkF, argsToLocals, Value.category]; done) | rfl
def own_Q_isAns (Z : State) (a1 : Addr) (p2 : Int32) (r : Int32) (h0 : Heap) (n0 : Nat) (v : Option Value) (h : Heap) (L : List Loc) : Prop := v = some (.int r) ∧ Fr n0 L ∧ h = h0
set_option maxRecDepth 65536 in
set_option maxHeartbeats 40000000 in
theorem own_rm_isAns (l : Launch) (Z : State) (a0 : Array Value) (hw : ∀ d ∈ tables_1, d.before a0 Z = true) (ws : List Jvm.Cond) (a1 : Addr) (p2 : Int32) (r : Int32) (h0 : Heap) (n0 : Nat) (Z0 : n0 ≤ h0.size) (F1 : Fld Z h0 a1 "com/example/annuaire/annuaire/ldap/LdapOperation" "responseTag" "I" (.int p2)) (hr : (if p2 = (-1 : Int32) then (0 : Int32) else 1) = r) :
    MetFree l (⟨"com/example/annuaire/annuaire/ldap/LdapOperation", "isAnswered", "()Z"⟩ : MethodName) (head1 (Jvm.Cond.code (⟨"com/example/annuaire/annuaire/ldap/LdapOperation", "isAnswered", "()Z"⟩ : MethodName) prog_116_method_5_code 1 (some .boolean) :: ws) ({ frames := 0, cells := 0, slots := 0, locals := 0 } : Room)) (fun a U => a = #[(.ref a1)] ∧ Z.Warmed39 U.vm ∧ U.heap = h0) (fun _ _ _ _ _ => True) (fun _ U o U' => ∃ v L, o = .returned v ∧ own_Q_isAns Z a1 p2 r h0 n0 v U'.heap L ∧ FrameEnd U o U' L ({ frames := 0, cells := 0, slots := 0, locals := 0 } : Room).cells ({ frames := 0, cells := 0, slots := 0, locals := 0 } : Room).slots) := by
  refine MetFree.of_bodySF (plainFor_of_name own_pn_isAns) hisR ?_
  intro p e s m args below meth c s₁ Bd hml0 hP hK
  obtain ⟨rfl, hZ, hh⟩ := hP
  have hx := Bd.exec
  have hby := Bd.bytes
  have hml : c.maxLocals = 1 := hml0
  have hown : s.vm.findClass "com/example/annuaire/annuaire/ldap/LdapOperation" = some m.cls := findClass_of_methodNamed Bd.named
  have hnm := (name_of_methodNamed Bd.named Bd.method).1
  have X0 : Stand p l e ({ frames := 0, cells := 0, slots := 0, locals := 0 } : Room) s m #[(.ref a1)] below meth c s₁ [] 0 0 := Stand.of_body Bd
  have e0 : s₁.heap = h0 := by rw [← hh, Bd.state]; rfl
  have N0 := Fr.nil n0
  show OG.Go p.tables e below (own_Q_isAns Z a1 p2 r h0 n0) ({ frames := 0, cells := 0, slots := 0, locals := 0 } : Room).cells ({ frames := 0, cells := 0, slots := 0, locals := 0 } : Room).slots s (s₁.setTop (entryFrame m #[(.ref a1)] 1))
  refine OG.Go.cast (own_ef_isAns m a1) ?_
  refine OG.aloadN X0 hx hby own_d_isAns_0 rfl rfl rfl ?_
  refine OG.gF X0 hx hZ hby hown (hw _ (List.mem_of_getElem? (i := 13) rfl)) Via.refl e0 F1 own_d_isAns_1 rfl ?_
  intro T1 X1 e1
  refine OG.iconst (v := (-1 : Int32)) X1 hx hby own_d_isAns_4 (by decide) rfl ?_
  by_cases hc5_2 : p2 = (-1 : Int32)
  · refine OG.icmpYes (pc' := 12) X1 hx hby own_d_isAns_5 (teq hc5_2).1 (by decide) (by decide) ?_
    refine OG.iconst (v := (0 : Int32)) X1 hx hby own_d_isAns_12 (by decide) rfl ?_
    refine OG.retZ X1 hx hby Bd.returns (by simp) own_d_isAns_13 Bd.notSynchronized (by decide) (by decide) ?_
    exact ⟨by subst hr; simp [nar, hc5_2], N0, e1⟩
  · refine OG.icmpNo X1 hx hby own_d_isAns_5 (feq hc5_2).1 rfl ?_
    refine OG.iconst (v := (1 : Int32)) X1 hx hby own_d_isAns_8 (by decide) rfl ?_
    refine OG.goto (pc' := 13) X1 hx hby own_d_isAns_9 (by decide) (by decide) ?_
    refine OG.retZ X1 hx hby Bd.returns (by simp) own_d_isAns_13 Bd.notSynchronized (by decide) (by decide) ?_
    exact ⟨by subst hr; simp [nar, hc5_2], N0, e1⟩
theorem own_pn_law : plainName "com/example/annuaire/annuaire/ldap/LdapOperationIsAnsweredPinLaw" = true := by first | (simp [plainName, overriddenIn]; done) | decide +kernel
theorem own_ef_law (m : MethodId) (x0 : Int32)  : entryFrame m #[(.int x0)] maxLocals = mkF m 0 #[.val (.int x0), .unset, .unset, .unset] [] := by first | (simp [entryFrame, mkF, argsToLocals, Value.category, maxLocals]; done) | rfl
def own_Q_law (Z : State) (p1 : Int32) (w0 : Addr) (w1 : Addr) (w2 : Addr) (w3 : Addr) (w4 : Addr) (w5 : Addr) (w6 : Addr) (w7 : Addr) (w8 : Addr) (w9 : Addr) (h0 : Heap) (n0 : Nat) (v : Option Value) (h : Heap) (L : List Loc) : Prop := v = some (.int (1 : Int32)) ∧ Fr n0 L
set_option maxRecDepth 65536 in
set_option maxHeartbeats 40000000 in
theorem own_rm_law (l : Launch) (Z : State) (a0 : Array Value) (hw : ∀ d ∈ tables_1, d.before a0 Z = true) (ws : List Jvm.Cond) (p1 : Int32) (w0 : Addr) (w1 : Addr) (w2 : Addr) (w3 : Addr) (w4 : Addr) (w5 : Addr) (w6 : Addr) (w7 : Addr) (w8 : Addr) (w9 : Addr) (h0 : Heap) (n0 : Nat) (Z0 : n0 ≤ h0.size) (S_BIND : Sta Z h0 "com/example/annuaire/annuaire/ldap/LdapOperation" "BIND" "Lcom/example/annuaire/annuaire/ldap/LdapOperation;" (.ref w0)) (S_UNBIND : Sta Z h0 "com/example/annuaire/annuaire/ldap/LdapOperation" "UNBIND" "Lcom/example/annuaire/annuaire/ldap/LdapOperation;" (.ref w1)) (S_SEARCH : Sta Z h0 "com/example/annuaire/annuaire/ldap/LdapOperation" "SEARCH" "Lcom/example/annuaire/annuaire/ldap/LdapOperation;" (.ref w2)) (S_MODIFY : Sta Z h0 "com/example/annuaire/annuaire/ldap/LdapOperation" "MODIFY" "Lcom/example/annuaire/annuaire/ldap/LdapOperation;" (.ref w3)) (S_ADD : Sta Z h0 "com/example/annuaire/annuaire/ldap/LdapOperation" "ADD" "Lcom/example/annuaire/annuaire/ldap/LdapOperation;" (.ref w4)) (S_DELETE : Sta Z h0 "com/example/annuaire/annuaire/ldap/LdapOperation" "DELETE" "Lcom/example/annuaire/annuaire/ldap/LdapOperation;" (.ref w5)) (S_MODIFY_DN : Sta Z h0 "com/example/annuaire/annuaire/ldap/LdapOperation" "MODIFY_DN" "Lcom/example/annuaire/annuaire/ldap/LdapOperation;" (.ref w6)) (S_COMPARE : Sta Z h0 "com/example/annuaire/annuaire/ldap/LdapOperation" "COMPARE" "Lcom/example/annuaire/annuaire/ldap/LdapOperation;" (.ref w7)) (S_ABANDON : Sta Z h0 "com/example/annuaire/annuaire/ldap/LdapOperation" "ABANDON" "Lcom/example/annuaire/annuaire/ldap/LdapOperation;" (.ref w8)) (S_EXTENDED : Sta Z h0 "com/example/annuaire/annuaire/ldap/LdapOperation" "EXTENDED" "Lcom/example/annuaire/annuaire/ldap/LdapOperation;" (.ref w9)) (E_BIND : Exa Z h0 w0 "com/example/annuaire/annuaire/ldap/LdapOperation") (E_UNBIND : Exa Z h0 w1 "com/example/annuaire/annuaire/ldap/LdapOperation") (E_SEARCH : Exa Z h0 w2 "com/example/annuaire/annuaire/ldap/LdapOperation") (E_MODIFY : Exa Z h0 w3 "com/example/annuaire/annuaire/ldap/LdapOperation") (E_ADD : Exa Z h0 w4 "com/example/annuaire/annuaire/ldap/LdapOperation") (E_DELETE : Exa Z h0 w5 "com/example/annuaire/annuaire/ldap/LdapOperation") (E_MODIFY_DN : Exa Z h0 w6 "com/example/annuaire/annuaire/ldap/LdapOperation") (E_COMPARE : Exa Z h0 w7 "com/example/annuaire/annuaire/ldap/LdapOperation") (E_ABANDON : Exa Z h0 w8 "com/example/annuaire/annuaire/ldap/LdapOperation") (E_EXTENDED : Exa Z h0 w9 "com/example/annuaire/annuaire/ldap/LdapOperation") (F_BIND : Fld Z h0 w0 "com/example/annuaire/annuaire/ldap/LdapOperation" "responseTag" "I" (.int (1 : Int32))) (F_UNBIND : Fld Z h0 w1 "com/example/annuaire/annuaire/ldap/LdapOperation" "responseTag" "I" (.int (-1 : Int32))) (F_SEARCH : Fld Z h0 w2 "com/example/annuaire/annuaire/ldap/LdapOperation" "responseTag" "I" (.int (5 : Int32))) (F_MODIFY : Fld Z h0 w3 "com/example/annuaire/annuaire/ldap/LdapOperation" "responseTag" "I" (.int (7 : Int32))) (F_ADD : Fld Z h0 w4 "com/example/annuaire/annuaire/ldap/LdapOperation" "responseTag" "I" (.int (9 : Int32))) (F_DELETE : Fld Z h0 w5 "com/example/annuaire/annuaire/ldap/LdapOperation" "responseTag" "I" (.int (11 : Int32))) (F_MODIFY_DN : Fld Z h0 w6 "com/example/annuaire/annuaire/ldap/LdapOperation" "responseTag" "I" (.int (13 : Int32))) (F_COMPARE : Fld Z h0 w7 "com/example/annuaire/annuaire/ldap/LdapOperation" "responseTag" "I" (.int (15 : Int32))) (F_ABANDON : Fld Z h0 w8 "com/example/annuaire/annuaire/ldap/LdapOperation" "responseTag" "I" (.int (-1 : Int32))) (F_EXTENDED : Fld Z h0 w9 "com/example/annuaire/annuaire/ldap/LdapOperation" "responseTag" "I" (.int (24 : Int32))) :
    MetFree l x (head1 (Jvm.Cond.code x code maxLocals ret :: ws) room_1) (fun a U => a = #[(.int p1)] ∧ Z.Warmed39 U.vm ∧ U.heap = h0) (fun _ _ _ _ _ => True) (fun _ U o U' => ∃ v L, o = .returned v ∧ own_Q_law Z p1 w0 w1 w2 w3 w4 w5 w6 w7 w8 w9 h0 n0 v U'.heap L ∧ FrameEnd U o U' L room_1.cells room_1.slots) := by
  refine MetFree.of_bodySF (plainFor_of_name own_pn_law) hisR ?_
  intro p e s m args below meth c s₁ Bd hml0 hP hK
  obtain ⟨rfl, hZ, hh⟩ := hP
  have hx := Bd.exec
  have hby := Bd.bytes
  have hml : c.maxLocals = 4 := hml0
  have hown : s.vm.findClass "com/example/annuaire/annuaire/ldap/LdapOperationIsAnsweredPinLaw" = some m.cls := findClass_of_methodNamed Bd.named
  have hnm := (name_of_methodNamed Bd.named Bd.method).1
  have X0 : Stand p l e room_1 s m #[(.int p1)] below meth c s₁ [] 0 0 := Stand.of_body Bd
  have e0 : s₁.heap = h0 := by rw [← hh, Bd.state]; rfl
  have N0 := Fr.nil n0
  show OG.Go p.tables e below (own_Q_law Z p1 w0 w1 w2 w3 w4 w5 w6 w7 w8 w9 h0 n0) room_1.cells room_1.slots s (s₁.setTop (entryFrame m #[(.int p1)] maxLocals))
  refine OG.Go.cast (own_ef_law m p1) ?_
  refine OG.iloadN X0 hx hby at_0 rfl rfl ?_
  refine OG.ldcI (v := (2147483647 : Int32)) X0 hx hZ hby hown (hw _ (List.mem_of_getElem? (i := 0) rfl)) at_1 rfl ?_
  refine OG.iand X0 hx hby at_3 rfl ?_
  refine OG.bipush (v := (10 : Int32)) X0 hx hby at_4 (by decide) rfl ?_
  refine OG.irem X0 hx hby at_6 (by decide) rfl ?_
  rcases own_mod10 p1 with hi | hi | hi | hi | hi | hi | hi | hi | hi | hi
  · rw [hi]
    refine OG.istoreN (Ls' := #[.val (.int p1), .val (.int (0 : Int32)), .unset, .unset]) X0 hx hby at_7 rfl rfl ?_
    refine OG.iloadN X0 hx hby at_8 rfl rfl ?_
    refine OG.cS X0 hx hZ hby (by rw [hml]; rfl) hown (y := (⟨"com/example/annuaire/annuaire/ldap/LdapOperationIsAnsweredPinLaw", "pick", "(I)Lcom/example/annuaire/annuaire/ldap/LdapOperation;"⟩ : MethodName)) (hw _ (List.mem_of_getElem? (i := 1) rfl)) (hw _ (List.mem_of_getElem? (i := 2) rfl)) (hw _ (List.mem_of_getElem? (i := 4) rfl)) (hw _ (List.mem_of_getElem? (i := 3) rfl)) (by decide) (own_rm_pick l Z a0 hw [] (0 : Int32) w0 w1 w2 w3 w4 w5 w6 w7 w8 w9 w0 h0 n0 Z0 S_BIND S_UNBIND S_SEARCH S_MODIFY S_ADD S_DELETE S_MODIFY_DN S_COMPARE S_ABANDON S_EXTENDED (by simp)) e0 (argsL := [(.int (0 : Int32))]) (stk := [(.int (0 : Int32))]) (st := []) own_pd_0 rfl rfl rfl (W := 0) rfl (by decide) (by decide) (by decide) (by decide) at_9 rfl ?_
    intro T1 L1 v1 X1 q1
    obtain ⟨rfl, N1, e1⟩ := q1
    have M1 := Fr.app N0 N1
    show OG.Go _ _ _ _ _ _ _ (T1.setTop (mkF m 12 #[.val (.int p1), .val (.int (0 : Int32)), .unset, .unset] [(.ref w0)]))
    refine OG.astoreN (Ls' := #[.val (.int p1), .val (.int (0 : Int32)), .val (.ref w0), .unset]) X1 hx hby at_12 rfl rfl rfl ?_
    refine OG.iloadN X1 hx hby at_13 rfl rfl ?_
    refine OG.iconst (v := (1 : Int32)) X1 hx hby at_14 (by decide) rfl ?_
    refine OG.icmpNo X1 hx hby at_15 (feq (by decide)).1 rfl ?_
    refine OG.iloadN X1 hx hby at_18 rfl rfl ?_
    refine OG.bipush (v := (8 : Int32)) X1 hx hby at_19 (by decide) rfl ?_
    refine OG.icmpNo X1 hx hby at_21 (feq (by decide)).1 rfl ?_
    refine OG.iconst (v := (1 : Int32)) X1 hx hby at_24 (by decide) rfl ?_
    refine OG.goto (pc' := 29) X1 hx hby at_25 (by decide) (by decide) ?_
    refine OG.istoreN (Ls' := #[.val (.int p1), .val (.int (0 : Int32)), .val (.ref w0), .val (.int (1 : Int32))]) X1 hx hby at_29 rfl rfl ?_
    refine OG.aloadN X1 hx hby at_30 rfl rfl rfl ?_
    refine OG.cV X1 hx hZ hby (by rw [hml]; rfl) hown (y := (⟨"com/example/annuaire/annuaire/ldap/LdapOperation", "isAnswered", "()Z"⟩ : MethodName)) (z := (⟨"com/example/annuaire/annuaire/ldap/LdapOperation", "isAnswered", "()Z"⟩ : MethodName)) (hw _ (List.mem_of_getElem? (i := 8) rfl)) (hw _ (List.mem_of_getElem? (i := 9) rfl)) (notFace_of_selects (args := #[]) (mvT hZ (hw _ (List.mem_of_getElem? (i := 11) rfl)))) (hw _ (List.mem_of_getElem? (i := 11) rfl)) (hw _ (List.mem_of_getElem? (i := 10) rfl)) (hw _ (List.mem_of_getElem? (i := 12) rfl)) (hw _ (List.mem_of_getElem? (i := 6) rfl)) (by decide) (own_rm_isAns l Z a0 hw [] w0 (1 : Int32) (1 : Int32) h0 n0 Z0 F_BIND (by decide)) E_BIND e1 (argsL := []) (stk := [(.ref w0)]) (st := []) own_pd_1 rfl rfl rfl (W := 0) rfl (by decide) (by decide) (by decide) (by decide) at_31 rfl ?_
    intro T2 L2 v2 X2 q2
    obtain ⟨rfl, N2, e2⟩ := q2
    have M2 := Fr.app M1 N2
    show OG.Go _ _ _ _ _ _ _ (T2.setTop (mkF m 34 #[.val (.int p1), .val (.int (0 : Int32)), .val (.ref w0), .val (.int (1 : Int32))] [(.int (1 : Int32))]))
    refine OG.iloadN X2 hx hby at_34 rfl rfl ?_
    refine OG.icmpNo X2 hx hby at_35 (teq (by decide)).2 rfl ?_
    refine OG.iconst (v := (1 : Int32)) X2 hx hby at_38 (by decide) rfl ?_
    refine OG.goto (pc' := 43) X2 hx hby at_39 (by decide) (by decide) ?_
    refine OG.retZ X2 hx hby Bd.returns (by simp) at_43 Bd.notSynchronized (by decide) (by decide) ?_
    exact ⟨rfl, M2⟩
  · rw [hi]
    refine OG.istoreN (Ls' := #[.val (.int p1), .val (.int (1 : Int32)), .unset, .unset]) X0 hx hby at_7 rfl rfl ?_
    refine OG.iloadN X0 hx hby at_8 rfl rfl ?_
    refine OG.cS X0 hx hZ hby (by rw [hml]; rfl) hown (y := (⟨"com/example/annuaire/annuaire/ldap/LdapOperationIsAnsweredPinLaw", "pick", "(I)Lcom/example/annuaire/annuaire/ldap/LdapOperation;"⟩ : MethodName)) (hw _ (List.mem_of_getElem? (i := 1) rfl)) (hw _ (List.mem_of_getElem? (i := 2) rfl)) (hw _ (List.mem_of_getElem? (i := 4) rfl)) (hw _ (List.mem_of_getElem? (i := 3) rfl)) (by decide) (own_rm_pick l Z a0 hw [] (1 : Int32) w0 w1 w2 w3 w4 w5 w6 w7 w8 w9 w1 h0 n0 Z0 S_BIND S_UNBIND S_SEARCH S_MODIFY S_ADD S_DELETE S_MODIFY_DN S_COMPARE S_ABANDON S_EXTENDED (by simp)) e0 (argsL := [(.int (1 : Int32))]) (stk := [(.int (1 : Int32))]) (st := []) own_pd_0 rfl rfl rfl (W := 0) rfl (by decide) (by decide) (by decide) (by decide) at_9 rfl ?_
    intro T3 L3 v3 X3 q3
    obtain ⟨rfl, N3, e3⟩ := q3
    have M3 := Fr.app N0 N3
    show OG.Go _ _ _ _ _ _ _ (T3.setTop (mkF m 12 #[.val (.int p1), .val (.int (1 : Int32)), .unset, .unset] [(.ref w1)]))
    refine OG.astoreN (Ls' := #[.val (.int p1), .val (.int (1 : Int32)), .val (.ref w1), .unset]) X3 hx hby at_12 rfl rfl rfl ?_
    refine OG.iloadN X3 hx hby at_13 rfl rfl ?_
    refine OG.iconst (v := (1 : Int32)) X3 hx hby at_14 (by decide) rfl ?_
    refine OG.icmpYes (pc' := 28) X3 hx hby at_15 (teq (by decide)).1 (by decide) (by decide) ?_
    refine OG.iconst (v := (0 : Int32)) X3 hx hby at_28 (by decide) rfl ?_
    refine OG.istoreN (Ls' := #[.val (.int p1), .val (.int (1 : Int32)), .val (.ref w1), .val (.int (0 : Int32))]) X3 hx hby at_29 rfl rfl ?_
    refine OG.aloadN X3 hx hby at_30 rfl rfl rfl ?_
    refine OG.cV X3 hx hZ hby (by rw [hml]; rfl) hown (y := (⟨"com/example/annuaire/annuaire/ldap/LdapOperation", "isAnswered", "()Z"⟩ : MethodName)) (z := (⟨"com/example/annuaire/annuaire/ldap/LdapOperation", "isAnswered", "()Z"⟩ : MethodName)) (hw _ (List.mem_of_getElem? (i := 8) rfl)) (hw _ (List.mem_of_getElem? (i := 9) rfl)) (notFace_of_selects (args := #[]) (mvT hZ (hw _ (List.mem_of_getElem? (i := 11) rfl)))) (hw _ (List.mem_of_getElem? (i := 11) rfl)) (hw _ (List.mem_of_getElem? (i := 10) rfl)) (hw _ (List.mem_of_getElem? (i := 12) rfl)) (hw _ (List.mem_of_getElem? (i := 6) rfl)) (by decide) (own_rm_isAns l Z a0 hw [] w1 (-1 : Int32) (0 : Int32) h0 n0 Z0 F_UNBIND (by decide)) E_UNBIND e3 (argsL := []) (stk := [(.ref w1)]) (st := []) own_pd_1 rfl rfl rfl (W := 0) rfl (by decide) (by decide) (by decide) (by decide) at_31 rfl ?_
    intro T4 L4 v4 X4 q4
    obtain ⟨rfl, N4, e4⟩ := q4
    have M4 := Fr.app M3 N4
    show OG.Go _ _ _ _ _ _ _ (T4.setTop (mkF m 34 #[.val (.int p1), .val (.int (1 : Int32)), .val (.ref w1), .val (.int (0 : Int32))] [(.int (0 : Int32))]))
    refine OG.iloadN X4 hx hby at_34 rfl rfl ?_
    refine OG.icmpNo X4 hx hby at_35 (teq (by decide)).2 rfl ?_
    refine OG.iconst (v := (1 : Int32)) X4 hx hby at_38 (by decide) rfl ?_
    refine OG.goto (pc' := 43) X4 hx hby at_39 (by decide) (by decide) ?_
    refine OG.retZ X4 hx hby Bd.returns (by simp) at_43 Bd.notSynchronized (by decide) (by decide) ?_
    exact ⟨rfl, M4⟩
  · rw [hi]
    refine OG.istoreN (Ls' := #[.val (.int p1), .val (.int (2 : Int32)), .unset, .unset]) X0 hx hby at_7 rfl rfl ?_
    refine OG.iloadN X0 hx hby at_8 rfl rfl ?_
    refine OG.cS X0 hx hZ hby (by rw [hml]; rfl) hown (y := (⟨"com/example/annuaire/annuaire/ldap/LdapOperationIsAnsweredPinLaw", "pick", "(I)Lcom/example/annuaire/annuaire/ldap/LdapOperation;"⟩ : MethodName)) (hw _ (List.mem_of_getElem? (i := 1) rfl)) (hw _ (List.mem_of_getElem? (i := 2) rfl)) (hw _ (List.mem_of_getElem? (i := 4) rfl)) (hw _ (List.mem_of_getElem? (i := 3) rfl)) (by decide) (own_rm_pick l Z a0 hw [] (2 : Int32) w0 w1 w2 w3 w4 w5 w6 w7 w8 w9 w2 h0 n0 Z0 S_BIND S_UNBIND S_SEARCH S_MODIFY S_ADD S_DELETE S_MODIFY_DN S_COMPARE S_ABANDON S_EXTENDED (by simp)) e0 (argsL := [(.int (2 : Int32))]) (stk := [(.int (2 : Int32))]) (st := []) own_pd_0 rfl rfl rfl (W := 0) rfl (by decide) (by decide) (by decide) (by decide) at_9 rfl ?_
    intro T5 L5 v5 X5 q5
    obtain ⟨rfl, N5, e5⟩ := q5
    have M5 := Fr.app N0 N5
    show OG.Go _ _ _ _ _ _ _ (T5.setTop (mkF m 12 #[.val (.int p1), .val (.int (2 : Int32)), .unset, .unset] [(.ref w2)]))
    refine OG.astoreN (Ls' := #[.val (.int p1), .val (.int (2 : Int32)), .val (.ref w2), .unset]) X5 hx hby at_12 rfl rfl rfl ?_
    refine OG.iloadN X5 hx hby at_13 rfl rfl ?_
    refine OG.iconst (v := (1 : Int32)) X5 hx hby at_14 (by decide) rfl ?_
    refine OG.icmpNo X5 hx hby at_15 (feq (by decide)).1 rfl ?_
    refine OG.iloadN X5 hx hby at_18 rfl rfl ?_
    refine OG.bipush (v := (8 : Int32)) X5 hx hby at_19 (by decide) rfl ?_
    refine OG.icmpNo X5 hx hby at_21 (feq (by decide)).1 rfl ?_
    refine OG.iconst (v := (1 : Int32)) X5 hx hby at_24 (by decide) rfl ?_
    refine OG.goto (pc' := 29) X5 hx hby at_25 (by decide) (by decide) ?_
    refine OG.istoreN (Ls' := #[.val (.int p1), .val (.int (2 : Int32)), .val (.ref w2), .val (.int (1 : Int32))]) X5 hx hby at_29 rfl rfl ?_
    refine OG.aloadN X5 hx hby at_30 rfl rfl rfl ?_
    refine OG.cV X5 hx hZ hby (by rw [hml]; rfl) hown (y := (⟨"com/example/annuaire/annuaire/ldap/LdapOperation", "isAnswered", "()Z"⟩ : MethodName)) (z := (⟨"com/example/annuaire/annuaire/ldap/LdapOperation", "isAnswered", "()Z"⟩ : MethodName)) (hw _ (List.mem_of_getElem? (i := 8) rfl)) (hw _ (List.mem_of_getElem? (i := 9) rfl)) (notFace_of_selects (args := #[]) (mvT hZ (hw _ (List.mem_of_getElem? (i := 11) rfl)))) (hw _ (List.mem_of_getElem? (i := 11) rfl)) (hw _ (List.mem_of_getElem? (i := 10) rfl)) (hw _ (List.mem_of_getElem? (i := 12) rfl)) (hw _ (List.mem_of_getElem? (i := 6) rfl)) (by decide) (own_rm_isAns l Z a0 hw [] w2 (5 : Int32) (1 : Int32) h0 n0 Z0 F_SEARCH (by decide)) E_SEARCH e5 (argsL := []) (stk := [(.ref w2)]) (st := []) own_pd_1 rfl rfl rfl (W := 0) rfl (by decide) (by decide) (by decide) (by decide) at_31 rfl ?_
    intro T6 L6 v6 X6 q6
    obtain ⟨rfl, N6, e6⟩ := q6
    have M6 := Fr.app M5 N6
    show OG.Go _ _ _ _ _ _ _ (T6.setTop (mkF m 34 #[.val (.int p1), .val (.int (2 : Int32)), .val (.ref w2), .val (.int (1 : Int32))] [(.int (1 : Int32))]))
    refine OG.iloadN X6 hx hby at_34 rfl rfl ?_
    refine OG.icmpNo X6 hx hby at_35 (teq (by decide)).2 rfl ?_
    refine OG.iconst (v := (1 : Int32)) X6 hx hby at_38 (by decide) rfl ?_
    refine OG.goto (pc' := 43) X6 hx hby at_39 (by decide) (by decide) ?_
    refine OG.retZ X6 hx hby Bd.returns (by simp) at_43 Bd.notSynchronized (by decide) (by decide) ?_
    exact ⟨rfl, M6⟩
  · rw [hi]
    refine OG.istoreN (Ls' := #[.val (.int p1), .val (.int (3 : Int32)), .unset, .unset]) X0 hx hby at_7 rfl rfl ?_
    refine OG.iloadN X0 hx hby at_8 rfl rfl ?_
    refine OG.cS X0 hx hZ hby (by rw [hml]; rfl) hown (y := (⟨"com/example/annuaire/annuaire/ldap/LdapOperationIsAnsweredPinLaw", "pick", "(I)Lcom/example/annuaire/annuaire/ldap/LdapOperation;"⟩ : MethodName)) (hw _ (List.mem_of_getElem? (i := 1) rfl)) (hw _ (List.mem_of_getElem? (i := 2) rfl)) (hw _ (List.mem_of_getElem? (i := 4) rfl)) (hw _ (List.mem_of_getElem? (i := 3) rfl)) (by decide) (own_rm_pick l Z a0 hw [] (3 : Int32) w0 w1 w2 w3 w4 w5 w6 w7 w8 w9 w3 h0 n0 Z0 S_BIND S_UNBIND S_SEARCH S_MODIFY S_ADD S_DELETE S_MODIFY_DN S_COMPARE S_ABANDON S_EXTENDED (by simp)) e0 (argsL := [(.int (3 : Int32))]) (stk := [(.int (3 : Int32))]) (st := []) own_pd_0 rfl rfl rfl (W := 0) rfl (by decide) (by decide) (by decide) (by decide) at_9 rfl ?_
    intro T7 L7 v7 X7 q7
    obtain ⟨rfl, N7, e7⟩ := q7
    have M7 := Fr.app N0 N7
    show OG.Go _ _ _ _ _ _ _ (T7.setTop (mkF m 12 #[.val (.int p1), .val (.int (3 : Int32)), .unset, .unset] [(.ref w3)]))
    refine OG.astoreN (Ls' := #[.val (.int p1), .val (.int (3 : Int32)), .val (.ref w3), .unset]) X7 hx hby at_12 rfl rfl rfl ?_
    refine OG.iloadN X7 hx hby at_13 rfl rfl ?_
    refine OG.iconst (v := (1 : Int32)) X7 hx hby at_14 (by decide) rfl ?_
    refine OG.icmpNo X7 hx hby at_15 (feq (by decide)).1 rfl ?_
    refine OG.iloadN X7 hx hby at_18 rfl rfl ?_
    refine OG.bipush (v := (8 : Int32)) X7 hx hby at_19 (by decide) rfl ?_
    refine OG.icmpNo X7 hx hby at_21 (feq (by decide)).1 rfl ?_
    refine OG.iconst (v := (1 : Int32)) X7 hx hby at_24 (by decide) rfl ?_
    refine OG.goto (pc' := 29) X7 hx hby at_25 (by decide) (by decide) ?_
    refine OG.istoreN (Ls' := #[.val (.int p1), .val (.int (3 : Int32)), .val (.ref w3), .val (.int (1 : Int32))]) X7 hx hby at_29 rfl rfl ?_
    refine OG.aloadN X7 hx hby at_30 rfl rfl rfl ?_
    refine OG.cV X7 hx hZ hby (by rw [hml]; rfl) hown (y := (⟨"com/example/annuaire/annuaire/ldap/LdapOperation", "isAnswered", "()Z"⟩ : MethodName)) (z := (⟨"com/example/annuaire/annuaire/ldap/LdapOperation", "isAnswered", "()Z"⟩ : MethodName)) (hw _ (List.mem_of_getElem? (i := 8) rfl)) (hw _ (List.mem_of_getElem? (i := 9) rfl)) (notFace_of_selects (args := #[]) (mvT hZ (hw _ (List.mem_of_getElem? (i := 11) rfl)))) (hw _ (List.mem_of_getElem? (i := 11) rfl)) (hw _ (List.mem_of_getElem? (i := 10) rfl)) (hw _ (List.mem_of_getElem? (i := 12) rfl)) (hw _ (List.mem_of_getElem? (i := 6) rfl)) (by decide) (own_rm_isAns l Z a0 hw [] w3 (7 : Int32) (1 : Int32) h0 n0 Z0 F_MODIFY (by decide)) E_MODIFY e7 (argsL := []) (stk := [(.ref w3)]) (st := []) own_pd_1 rfl rfl rfl (W := 0) rfl (by decide) (by decide) (by decide) (by decide) at_31 rfl ?_
    intro T8 L8 v8 X8 q8
    obtain ⟨rfl, N8, e8⟩ := q8
    have M8 := Fr.app M7 N8
    show OG.Go _ _ _ _ _ _ _ (T8.setTop (mkF m 34 #[.val (.int p1), .val (.int (3 : Int32)), .val (.ref w3), .val (.int (1 : Int32))] [(.int (1 : Int32))]))
    refine OG.iloadN X8 hx hby at_34 rfl rfl ?_
    refine OG.icmpNo X8 hx hby at_35 (teq (by decide)).2 rfl ?_
    refine OG.iconst (v := (1 : Int32)) X8 hx hby at_38 (by decide) rfl ?_
    refine OG.goto (pc' := 43) X8 hx hby at_39 (by decide) (by decide) ?_
    refine OG.retZ X8 hx hby Bd.returns (by simp) at_43 Bd.notSynchronized (by decide) (by decide) ?_
    exact ⟨rfl, M8⟩
  · rw [hi]
    refine OG.istoreN (Ls' := #[.val (.int p1), .val (.int (4 : Int32)), .unset, .unset]) X0 hx hby at_7 rfl rfl ?_
    refine OG.iloadN X0 hx hby at_8 rfl rfl ?_
    refine OG.cS X0 hx hZ hby (by rw [hml]; rfl) hown (y := (⟨"com/example/annuaire/annuaire/ldap/LdapOperationIsAnsweredPinLaw", "pick", "(I)Lcom/example/annuaire/annuaire/ldap/LdapOperation;"⟩ : MethodName)) (hw _ (List.mem_of_getElem? (i := 1) rfl)) (hw _ (List.mem_of_getElem? (i := 2) rfl)) (hw _ (List.mem_of_getElem? (i := 4) rfl)) (hw _ (List.mem_of_getElem? (i := 3) rfl)) (by decide) (own_rm_pick l Z a0 hw [] (4 : Int32) w0 w1 w2 w3 w4 w5 w6 w7 w8 w9 w4 h0 n0 Z0 S_BIND S_UNBIND S_SEARCH S_MODIFY S_ADD S_DELETE S_MODIFY_DN S_COMPARE S_ABANDON S_EXTENDED (by simp)) e0 (argsL := [(.int (4 : Int32))]) (stk := [(.int (4 : Int32))]) (st := []) own_pd_0 rfl rfl rfl (W := 0) rfl (by decide) (by decide) (by decide) (by decide) at_9 rfl ?_
    intro T9 L9 v9 X9 q9
    obtain ⟨rfl, N9, e9⟩ := q9
    have M9 := Fr.app N0 N9
    show OG.Go _ _ _ _ _ _ _ (T9.setTop (mkF m 12 #[.val (.int p1), .val (.int (4 : Int32)), .unset, .unset] [(.ref w4)]))
    refine OG.astoreN (Ls' := #[.val (.int p1), .val (.int (4 : Int32)), .val (.ref w4), .unset]) X9 hx hby at_12 rfl rfl rfl ?_
    refine OG.iloadN X9 hx hby at_13 rfl rfl ?_
    refine OG.iconst (v := (1 : Int32)) X9 hx hby at_14 (by decide) rfl ?_
    refine OG.icmpNo X9 hx hby at_15 (feq (by decide)).1 rfl ?_
    refine OG.iloadN X9 hx hby at_18 rfl rfl ?_
    refine OG.bipush (v := (8 : Int32)) X9 hx hby at_19 (by decide) rfl ?_
    refine OG.icmpNo X9 hx hby at_21 (feq (by decide)).1 rfl ?_
    refine OG.iconst (v := (1 : Int32)) X9 hx hby at_24 (by decide) rfl ?_
    refine OG.goto (pc' := 29) X9 hx hby at_25 (by decide) (by decide) ?_
    refine OG.istoreN (Ls' := #[.val (.int p1), .val (.int (4 : Int32)), .val (.ref w4), .val (.int (1 : Int32))]) X9 hx hby at_29 rfl rfl ?_
    refine OG.aloadN X9 hx hby at_30 rfl rfl rfl ?_
    refine OG.cV X9 hx hZ hby (by rw [hml]; rfl) hown (y := (⟨"com/example/annuaire/annuaire/ldap/LdapOperation", "isAnswered", "()Z"⟩ : MethodName)) (z := (⟨"com/example/annuaire/annuaire/ldap/LdapOperation", "isAnswered", "()Z"⟩ : MethodName)) (hw _ (List.mem_of_getElem? (i := 8) rfl)) (hw _ (List.mem_of_getElem? (i := 9) rfl)) (notFace_of_selects (args := #[]) (mvT hZ (hw _ (List.mem_of_getElem? (i := 11) rfl)))) (hw _ (List.mem_of_getElem? (i := 11) rfl)) (hw _ (List.mem_of_getElem? (i := 10) rfl)) (hw _ (List.mem_of_getElem? (i := 12) rfl)) (hw _ (List.mem_of_getElem? (i := 6) rfl)) (by decide) (own_rm_isAns l Z a0 hw [] w4 (9 : Int32) (1 : Int32) h0 n0 Z0 F_ADD (by decide)) E_ADD e9 (argsL := []) (stk := [(.ref w4)]) (st := []) own_pd_1 rfl rfl rfl (W := 0) rfl (by decide) (by decide) (by decide) (by decide) at_31 rfl ?_
    intro T10 L10 v10 X10 q10
    obtain ⟨rfl, N10, e10⟩ := q10
    have M10 := Fr.app M9 N10
    show OG.Go _ _ _ _ _ _ _ (T10.setTop (mkF m 34 #[.val (.int p1), .val (.int (4 : Int32)), .val (.ref w4), .val (.int (1 : Int32))] [(.int (1 : Int32))]))
    refine OG.iloadN X10 hx hby at_34 rfl rfl ?_
    refine OG.icmpNo X10 hx hby at_35 (teq (by decide)).2 rfl ?_
    refine OG.iconst (v := (1 : Int32)) X10 hx hby at_38 (by decide) rfl ?_
    refine OG.goto (pc' := 43) X10 hx hby at_39 (by decide) (by decide) ?_
    refine OG.retZ X10 hx hby Bd.returns (by simp) at_43 Bd.notSynchronized (by decide) (by decide) ?_
    exact ⟨rfl, M10⟩
  · rw [hi]
    refine OG.istoreN (Ls' := #[.val (.int p1), .val (.int (5 : Int32)), .unset, .unset]) X0 hx hby at_7 rfl rfl ?_
    refine OG.iloadN X0 hx hby at_8 rfl rfl ?_
    refine OG.cS X0 hx hZ hby (by rw [hml]; rfl) hown (y := (⟨"com/example/annuaire/annuaire/ldap/LdapOperationIsAnsweredPinLaw", "pick", "(I)Lcom/example/annuaire/annuaire/ldap/LdapOperation;"⟩ : MethodName)) (hw _ (List.mem_of_getElem? (i := 1) rfl)) (hw _ (List.mem_of_getElem? (i := 2) rfl)) (hw _ (List.mem_of_getElem? (i := 4) rfl)) (hw _ (List.mem_of_getElem? (i := 3) rfl)) (by decide) (own_rm_pick l Z a0 hw [] (5 : Int32) w0 w1 w2 w3 w4 w5 w6 w7 w8 w9 w5 h0 n0 Z0 S_BIND S_UNBIND S_SEARCH S_MODIFY S_ADD S_DELETE S_MODIFY_DN S_COMPARE S_ABANDON S_EXTENDED (by simp)) e0 (argsL := [(.int (5 : Int32))]) (stk := [(.int (5 : Int32))]) (st := []) own_pd_0 rfl rfl rfl (W := 0) rfl (by decide) (by decide) (by decide) (by decide) at_9 rfl ?_
    intro T11 L11 v11 X11 q11
    obtain ⟨rfl, N11, e11⟩ := q11
    have M11 := Fr.app N0 N11
    show OG.Go _ _ _ _ _ _ _ (T11.setTop (mkF m 12 #[.val (.int p1), .val (.int (5 : Int32)), .unset, .unset] [(.ref w5)]))
    refine OG.astoreN (Ls' := #[.val (.int p1), .val (.int (5 : Int32)), .val (.ref w5), .unset]) X11 hx hby at_12 rfl rfl rfl ?_
    refine OG.iloadN X11 hx hby at_13 rfl rfl ?_
    refine OG.iconst (v := (1 : Int32)) X11 hx hby at_14 (by decide) rfl ?_
    refine OG.icmpNo X11 hx hby at_15 (feq (by decide)).1 rfl ?_
    refine OG.iloadN X11 hx hby at_18 rfl rfl ?_
    refine OG.bipush (v := (8 : Int32)) X11 hx hby at_19 (by decide) rfl ?_
    refine OG.icmpNo X11 hx hby at_21 (feq (by decide)).1 rfl ?_
    refine OG.iconst (v := (1 : Int32)) X11 hx hby at_24 (by decide) rfl ?_
    refine OG.goto (pc' := 29) X11 hx hby at_25 (by decide) (by decide) ?_
    refine OG.istoreN (Ls' := #[.val (.int p1), .val (.int (5 : Int32)), .val (.ref w5), .val (.int (1 : Int32))]) X11 hx hby at_29 rfl rfl ?_
    refine OG.aloadN X11 hx hby at_30 rfl rfl rfl ?_
    refine OG.cV X11 hx hZ hby (by rw [hml]; rfl) hown (y := (⟨"com/example/annuaire/annuaire/ldap/LdapOperation", "isAnswered", "()Z"⟩ : MethodName)) (z := (⟨"com/example/annuaire/annuaire/ldap/LdapOperation", "isAnswered", "()Z"⟩ : MethodName)) (hw _ (List.mem_of_getElem? (i := 8) rfl)) (hw _ (List.mem_of_getElem? (i := 9) rfl)) (notFace_of_selects (args := #[]) (mvT hZ (hw _ (List.mem_of_getElem? (i := 11) rfl)))) (hw _ (List.mem_of_getElem? (i := 11) rfl)) (hw _ (List.mem_of_getElem? (i := 10) rfl)) (hw _ (List.mem_of_getElem? (i := 12) rfl)) (hw _ (List.mem_of_getElem? (i := 6) rfl)) (by decide) (own_rm_isAns l Z a0 hw [] w5 (11 : Int32) (1 : Int32) h0 n0 Z0 F_DELETE (by decide)) E_DELETE e11 (argsL := []) (stk := [(.ref w5)]) (st := []) own_pd_1 rfl rfl rfl (W := 0) rfl (by decide) (by decide) (by decide) (by decide) at_31 rfl ?_
    intro T12 L12 v12 X12 q12
    obtain ⟨rfl, N12, e12⟩ := q12
    have M12 := Fr.app M11 N12
    show OG.Go _ _ _ _ _ _ _ (T12.setTop (mkF m 34 #[.val (.int p1), .val (.int (5 : Int32)), .val (.ref w5), .val (.int (1 : Int32))] [(.int (1 : Int32))]))
    refine OG.iloadN X12 hx hby at_34 rfl rfl ?_
    refine OG.icmpNo X12 hx hby at_35 (teq (by decide)).2 rfl ?_
    refine OG.iconst (v := (1 : Int32)) X12 hx hby at_38 (by decide) rfl ?_
    refine OG.goto (pc' := 43) X12 hx hby at_39 (by decide) (by decide) ?_
    refine OG.retZ X12 hx hby Bd.returns (by simp) at_43 Bd.notSynchronized (by decide) (by decide) ?_
    exact ⟨rfl, M12⟩
  · rw [hi]
    refine OG.istoreN (Ls' := #[.val (.int p1), .val (.int (6 : Int32)), .unset, .unset]) X0 hx hby at_7 rfl rfl ?_
    refine OG.iloadN X0 hx hby at_8 rfl rfl ?_
    refine OG.cS X0 hx hZ hby (by rw [hml]; rfl) hown (y := (⟨"com/example/annuaire/annuaire/ldap/LdapOperationIsAnsweredPinLaw", "pick", "(I)Lcom/example/annuaire/annuaire/ldap/LdapOperation;"⟩ : MethodName)) (hw _ (List.mem_of_getElem? (i := 1) rfl)) (hw _ (List.mem_of_getElem? (i := 2) rfl)) (hw _ (List.mem_of_getElem? (i := 4) rfl)) (hw _ (List.mem_of_getElem? (i := 3) rfl)) (by decide) (own_rm_pick l Z a0 hw [] (6 : Int32) w0 w1 w2 w3 w4 w5 w6 w7 w8 w9 w6 h0 n0 Z0 S_BIND S_UNBIND S_SEARCH S_MODIFY S_ADD S_DELETE S_MODIFY_DN S_COMPARE S_ABANDON S_EXTENDED (by simp)) e0 (argsL := [(.int (6 : Int32))]) (stk := [(.int (6 : Int32))]) (st := []) own_pd_0 rfl rfl rfl (W := 0) rfl (by decide) (by decide) (by decide) (by decide) at_9 rfl ?_
    intro T13 L13 v13 X13 q13
    obtain ⟨rfl, N13, e13⟩ := q13
    have M13 := Fr.app N0 N13
    show OG.Go _ _ _ _ _ _ _ (T13.setTop (mkF m 12 #[.val (.int p1), .val (.int (6 : Int32)), .unset, .unset] [(.ref w6)]))
    refine OG.astoreN (Ls' := #[.val (.int p1), .val (.int (6 : Int32)), .val (.ref w6), .unset]) X13 hx hby at_12 rfl rfl rfl ?_
    refine OG.iloadN X13 hx hby at_13 rfl rfl ?_
    refine OG.iconst (v := (1 : Int32)) X13 hx hby at_14 (by decide) rfl ?_
    refine OG.icmpNo X13 hx hby at_15 (feq (by decide)).1 rfl ?_
    refine OG.iloadN X13 hx hby at_18 rfl rfl ?_
    refine OG.bipush (v := (8 : Int32)) X13 hx hby at_19 (by decide) rfl ?_
    refine OG.icmpNo X13 hx hby at_21 (feq (by decide)).1 rfl ?_
    refine OG.iconst (v := (1 : Int32)) X13 hx hby at_24 (by decide) rfl ?_
    refine OG.goto (pc' := 29) X13 hx hby at_25 (by decide) (by decide) ?_
    refine OG.istoreN (Ls' := #[.val (.int p1), .val (.int (6 : Int32)), .val (.ref w6), .val (.int (1 : Int32))]) X13 hx hby at_29 rfl rfl ?_
    refine OG.aloadN X13 hx hby at_30 rfl rfl rfl ?_
    refine OG.cV X13 hx hZ hby (by rw [hml]; rfl) hown (y := (⟨"com/example/annuaire/annuaire/ldap/LdapOperation", "isAnswered", "()Z"⟩ : MethodName)) (z := (⟨"com/example/annuaire/annuaire/ldap/LdapOperation", "isAnswered", "()Z"⟩ : MethodName)) (hw _ (List.mem_of_getElem? (i := 8) rfl)) (hw _ (List.mem_of_getElem? (i := 9) rfl)) (notFace_of_selects (args := #[]) (mvT hZ (hw _ (List.mem_of_getElem? (i := 11) rfl)))) (hw _ (List.mem_of_getElem? (i := 11) rfl)) (hw _ (List.mem_of_getElem? (i := 10) rfl)) (hw _ (List.mem_of_getElem? (i := 12) rfl)) (hw _ (List.mem_of_getElem? (i := 6) rfl)) (by decide) (own_rm_isAns l Z a0 hw [] w6 (13 : Int32) (1 : Int32) h0 n0 Z0 F_MODIFY_DN (by decide)) E_MODIFY_DN e13 (argsL := []) (stk := [(.ref w6)]) (st := []) own_pd_1 rfl rfl rfl (W := 0) rfl (by decide) (by decide) (by decide) (by decide) at_31 rfl ?_
    intro T14 L14 v14 X14 q14
    obtain ⟨rfl, N14, e14⟩ := q14
    have M14 := Fr.app M13 N14
    show OG.Go _ _ _ _ _ _ _ (T14.setTop (mkF m 34 #[.val (.int p1), .val (.int (6 : Int32)), .val (.ref w6), .val (.int (1 : Int32))] [(.int (1 : Int32))]))
    refine OG.iloadN X14 hx hby at_34 rfl rfl ?_
    refine OG.icmpNo X14 hx hby at_35 (teq (by decide)).2 rfl ?_
    refine OG.iconst (v := (1 : Int32)) X14 hx hby at_38 (by decide) rfl ?_
    refine OG.goto (pc' := 43) X14 hx hby at_39 (by decide) (by decide) ?_
    refine OG.retZ X14 hx hby Bd.returns (by simp) at_43 Bd.notSynchronized (by decide) (by decide) ?_
    exact ⟨rfl, M14⟩
  · rw [hi]
    refine OG.istoreN (Ls' := #[.val (.int p1), .val (.int (7 : Int32)), .unset, .unset]) X0 hx hby at_7 rfl rfl ?_
    refine OG.iloadN X0 hx hby at_8 rfl rfl ?_
    refine OG.cS X0 hx hZ hby (by rw [hml]; rfl) hown (y := (⟨"com/example/annuaire/annuaire/ldap/LdapOperationIsAnsweredPinLaw", "pick", "(I)Lcom/example/annuaire/annuaire/ldap/LdapOperation;"⟩ : MethodName)) (hw _ (List.mem_of_getElem? (i := 1) rfl)) (hw _ (List.mem_of_getElem? (i := 2) rfl)) (hw _ (List.mem_of_getElem? (i := 4) rfl)) (hw _ (List.mem_of_getElem? (i := 3) rfl)) (by decide) (own_rm_pick l Z a0 hw [] (7 : Int32) w0 w1 w2 w3 w4 w5 w6 w7 w8 w9 w7 h0 n0 Z0 S_BIND S_UNBIND S_SEARCH S_MODIFY S_ADD S_DELETE S_MODIFY_DN S_COMPARE S_ABANDON S_EXTENDED (by simp)) e0 (argsL := [(.int (7 : Int32))]) (stk := [(.int (7 : Int32))]) (st := []) own_pd_0 rfl rfl rfl (W := 0) rfl (by decide) (by decide) (by decide) (by decide) at_9 rfl ?_
    intro T15 L15 v15 X15 q15
    obtain ⟨rfl, N15, e15⟩ := q15
    have M15 := Fr.app N0 N15
    show OG.Go _ _ _ _ _ _ _ (T15.setTop (mkF m 12 #[.val (.int p1), .val (.int (7 : Int32)), .unset, .unset] [(.ref w7)]))
    refine OG.astoreN (Ls' := #[.val (.int p1), .val (.int (7 : Int32)), .val (.ref w7), .unset]) X15 hx hby at_12 rfl rfl rfl ?_
    refine OG.iloadN X15 hx hby at_13 rfl rfl ?_
    refine OG.iconst (v := (1 : Int32)) X15 hx hby at_14 (by decide) rfl ?_
    refine OG.icmpNo X15 hx hby at_15 (feq (by decide)).1 rfl ?_
    refine OG.iloadN X15 hx hby at_18 rfl rfl ?_
    refine OG.bipush (v := (8 : Int32)) X15 hx hby at_19 (by decide) rfl ?_
    refine OG.icmpNo X15 hx hby at_21 (feq (by decide)).1 rfl ?_
    refine OG.iconst (v := (1 : Int32)) X15 hx hby at_24 (by decide) rfl ?_
    refine OG.goto (pc' := 29) X15 hx hby at_25 (by decide) (by decide) ?_
    refine OG.istoreN (Ls' := #[.val (.int p1), .val (.int (7 : Int32)), .val (.ref w7), .val (.int (1 : Int32))]) X15 hx hby at_29 rfl rfl ?_
    refine OG.aloadN X15 hx hby at_30 rfl rfl rfl ?_
    refine OG.cV X15 hx hZ hby (by rw [hml]; rfl) hown (y := (⟨"com/example/annuaire/annuaire/ldap/LdapOperation", "isAnswered", "()Z"⟩ : MethodName)) (z := (⟨"com/example/annuaire/annuaire/ldap/LdapOperation", "isAnswered", "()Z"⟩ : MethodName)) (hw _ (List.mem_of_getElem? (i := 8) rfl)) (hw _ (List.mem_of_getElem? (i := 9) rfl)) (notFace_of_selects (args := #[]) (mvT hZ (hw _ (List.mem_of_getElem? (i := 11) rfl)))) (hw _ (List.mem_of_getElem? (i := 11) rfl)) (hw _ (List.mem_of_getElem? (i := 10) rfl)) (hw _ (List.mem_of_getElem? (i := 12) rfl)) (hw _ (List.mem_of_getElem? (i := 6) rfl)) (by decide) (own_rm_isAns l Z a0 hw [] w7 (15 : Int32) (1 : Int32) h0 n0 Z0 F_COMPARE (by decide)) E_COMPARE e15 (argsL := []) (stk := [(.ref w7)]) (st := []) own_pd_1 rfl rfl rfl (W := 0) rfl (by decide) (by decide) (by decide) (by decide) at_31 rfl ?_
    intro T16 L16 v16 X16 q16
    obtain ⟨rfl, N16, e16⟩ := q16
    have M16 := Fr.app M15 N16
    show OG.Go _ _ _ _ _ _ _ (T16.setTop (mkF m 34 #[.val (.int p1), .val (.int (7 : Int32)), .val (.ref w7), .val (.int (1 : Int32))] [(.int (1 : Int32))]))
    refine OG.iloadN X16 hx hby at_34 rfl rfl ?_
    refine OG.icmpNo X16 hx hby at_35 (teq (by decide)).2 rfl ?_
    refine OG.iconst (v := (1 : Int32)) X16 hx hby at_38 (by decide) rfl ?_
    refine OG.goto (pc' := 43) X16 hx hby at_39 (by decide) (by decide) ?_
    refine OG.retZ X16 hx hby Bd.returns (by simp) at_43 Bd.notSynchronized (by decide) (by decide) ?_
    exact ⟨rfl, M16⟩
  · rw [hi]
    refine OG.istoreN (Ls' := #[.val (.int p1), .val (.int (8 : Int32)), .unset, .unset]) X0 hx hby at_7 rfl rfl ?_
    refine OG.iloadN X0 hx hby at_8 rfl rfl ?_
    refine OG.cS X0 hx hZ hby (by rw [hml]; rfl) hown (y := (⟨"com/example/annuaire/annuaire/ldap/LdapOperationIsAnsweredPinLaw", "pick", "(I)Lcom/example/annuaire/annuaire/ldap/LdapOperation;"⟩ : MethodName)) (hw _ (List.mem_of_getElem? (i := 1) rfl)) (hw _ (List.mem_of_getElem? (i := 2) rfl)) (hw _ (List.mem_of_getElem? (i := 4) rfl)) (hw _ (List.mem_of_getElem? (i := 3) rfl)) (by decide) (own_rm_pick l Z a0 hw [] (8 : Int32) w0 w1 w2 w3 w4 w5 w6 w7 w8 w9 w8 h0 n0 Z0 S_BIND S_UNBIND S_SEARCH S_MODIFY S_ADD S_DELETE S_MODIFY_DN S_COMPARE S_ABANDON S_EXTENDED (by simp)) e0 (argsL := [(.int (8 : Int32))]) (stk := [(.int (8 : Int32))]) (st := []) own_pd_0 rfl rfl rfl (W := 0) rfl (by decide) (by decide) (by decide) (by decide) at_9 rfl ?_
    intro T17 L17 v17 X17 q17
    obtain ⟨rfl, N17, e17⟩ := q17
    have M17 := Fr.app N0 N17
    show OG.Go _ _ _ _ _ _ _ (T17.setTop (mkF m 12 #[.val (.int p1), .val (.int (8 : Int32)), .unset, .unset] [(.ref w8)]))
    refine OG.astoreN (Ls' := #[.val (.int p1), .val (.int (8 : Int32)), .val (.ref w8), .unset]) X17 hx hby at_12 rfl rfl rfl ?_
    refine OG.iloadN X17 hx hby at_13 rfl rfl ?_
    refine OG.iconst (v := (1 : Int32)) X17 hx hby at_14 (by decide) rfl ?_
    refine OG.icmpNo X17 hx hby at_15 (feq (by decide)).1 rfl ?_
    refine OG.iloadN X17 hx hby at_18 rfl rfl ?_
    refine OG.bipush (v := (8 : Int32)) X17 hx hby at_19 (by decide) rfl ?_
    refine OG.icmpYes (pc' := 28) X17 hx hby at_21 (teq (by decide)).1 (by decide) (by decide) ?_
    refine OG.iconst (v := (0 : Int32)) X17 hx hby at_28 (by decide) rfl ?_
    refine OG.istoreN (Ls' := #[.val (.int p1), .val (.int (8 : Int32)), .val (.ref w8), .val (.int (0 : Int32))]) X17 hx hby at_29 rfl rfl ?_
    refine OG.aloadN X17 hx hby at_30 rfl rfl rfl ?_
    refine OG.cV X17 hx hZ hby (by rw [hml]; rfl) hown (y := (⟨"com/example/annuaire/annuaire/ldap/LdapOperation", "isAnswered", "()Z"⟩ : MethodName)) (z := (⟨"com/example/annuaire/annuaire/ldap/LdapOperation", "isAnswered", "()Z"⟩ : MethodName)) (hw _ (List.mem_of_getElem? (i := 8) rfl)) (hw _ (List.mem_of_getElem? (i := 9) rfl)) (notFace_of_selects (args := #[]) (mvT hZ (hw _ (List.mem_of_getElem? (i := 11) rfl)))) (hw _ (List.mem_of_getElem? (i := 11) rfl)) (hw _ (List.mem_of_getElem? (i := 10) rfl)) (hw _ (List.mem_of_getElem? (i := 12) rfl)) (hw _ (List.mem_of_getElem? (i := 6) rfl)) (by decide) (own_rm_isAns l Z a0 hw [] w8 (-1 : Int32) (0 : Int32) h0 n0 Z0 F_ABANDON (by decide)) E_ABANDON e17 (argsL := []) (stk := [(.ref w8)]) (st := []) own_pd_1 rfl rfl rfl (W := 0) rfl (by decide) (by decide) (by decide) (by decide) at_31 rfl ?_
    intro T18 L18 v18 X18 q18
    obtain ⟨rfl, N18, e18⟩ := q18
    have M18 := Fr.app M17 N18
    show OG.Go _ _ _ _ _ _ _ (T18.setTop (mkF m 34 #[.val (.int p1), .val (.int (8 : Int32)), .val (.ref w8), .val (.int (0 : Int32))] [(.int (0 : Int32))]))
    refine OG.iloadN X18 hx hby at_34 rfl rfl ?_
    refine OG.icmpNo X18 hx hby at_35 (teq (by decide)).2 rfl ?_
    refine OG.iconst (v := (1 : Int32)) X18 hx hby at_38 (by decide) rfl ?_
    refine OG.goto (pc' := 43) X18 hx hby at_39 (by decide) (by decide) ?_
    refine OG.retZ X18 hx hby Bd.returns (by simp) at_43 Bd.notSynchronized (by decide) (by decide) ?_
    exact ⟨rfl, M18⟩
  · rw [hi]
    refine OG.istoreN (Ls' := #[.val (.int p1), .val (.int (9 : Int32)), .unset, .unset]) X0 hx hby at_7 rfl rfl ?_
    refine OG.iloadN X0 hx hby at_8 rfl rfl ?_
    refine OG.cS X0 hx hZ hby (by rw [hml]; rfl) hown (y := (⟨"com/example/annuaire/annuaire/ldap/LdapOperationIsAnsweredPinLaw", "pick", "(I)Lcom/example/annuaire/annuaire/ldap/LdapOperation;"⟩ : MethodName)) (hw _ (List.mem_of_getElem? (i := 1) rfl)) (hw _ (List.mem_of_getElem? (i := 2) rfl)) (hw _ (List.mem_of_getElem? (i := 4) rfl)) (hw _ (List.mem_of_getElem? (i := 3) rfl)) (by decide) (own_rm_pick l Z a0 hw [] (9 : Int32) w0 w1 w2 w3 w4 w5 w6 w7 w8 w9 w9 h0 n0 Z0 S_BIND S_UNBIND S_SEARCH S_MODIFY S_ADD S_DELETE S_MODIFY_DN S_COMPARE S_ABANDON S_EXTENDED (by simp)) e0 (argsL := [(.int (9 : Int32))]) (stk := [(.int (9 : Int32))]) (st := []) own_pd_0 rfl rfl rfl (W := 0) rfl (by decide) (by decide) (by decide) (by decide) at_9 rfl ?_
    intro T19 L19 v19 X19 q19
    obtain ⟨rfl, N19, e19⟩ := q19
    have M19 := Fr.app N0 N19
    show OG.Go _ _ _ _ _ _ _ (T19.setTop (mkF m 12 #[.val (.int p1), .val (.int (9 : Int32)), .unset, .unset] [(.ref w9)]))
    refine OG.astoreN (Ls' := #[.val (.int p1), .val (.int (9 : Int32)), .val (.ref w9), .unset]) X19 hx hby at_12 rfl rfl rfl ?_
    refine OG.iloadN X19 hx hby at_13 rfl rfl ?_
    refine OG.iconst (v := (1 : Int32)) X19 hx hby at_14 (by decide) rfl ?_
    refine OG.icmpNo X19 hx hby at_15 (feq (by decide)).1 rfl ?_
    refine OG.iloadN X19 hx hby at_18 rfl rfl ?_
    refine OG.bipush (v := (8 : Int32)) X19 hx hby at_19 (by decide) rfl ?_
    refine OG.icmpNo X19 hx hby at_21 (feq (by decide)).1 rfl ?_
    refine OG.iconst (v := (1 : Int32)) X19 hx hby at_24 (by decide) rfl ?_
    refine OG.goto (pc' := 29) X19 hx hby at_25 (by decide) (by decide) ?_
    refine OG.istoreN (Ls' := #[.val (.int p1), .val (.int (9 : Int32)), .val (.ref w9), .val (.int (1 : Int32))]) X19 hx hby at_29 rfl rfl ?_
    refine OG.aloadN X19 hx hby at_30 rfl rfl rfl ?_
    refine OG.cV X19 hx hZ hby (by rw [hml]; rfl) hown (y := (⟨"com/example/annuaire/annuaire/ldap/LdapOperation", "isAnswered", "()Z"⟩ : MethodName)) (z := (⟨"com/example/annuaire/annuaire/ldap/LdapOperation", "isAnswered", "()Z"⟩ : MethodName)) (hw _ (List.mem_of_getElem? (i := 8) rfl)) (hw _ (List.mem_of_getElem? (i := 9) rfl)) (notFace_of_selects (args := #[]) (mvT hZ (hw _ (List.mem_of_getElem? (i := 11) rfl)))) (hw _ (List.mem_of_getElem? (i := 11) rfl)) (hw _ (List.mem_of_getElem? (i := 10) rfl)) (hw _ (List.mem_of_getElem? (i := 12) rfl)) (hw _ (List.mem_of_getElem? (i := 6) rfl)) (by decide) (own_rm_isAns l Z a0 hw [] w9 (24 : Int32) (1 : Int32) h0 n0 Z0 F_EXTENDED (by decide)) E_EXTENDED e19 (argsL := []) (stk := [(.ref w9)]) (st := []) own_pd_1 rfl rfl rfl (W := 0) rfl (by decide) (by decide) (by decide) (by decide) at_31 rfl ?_
    intro T20 L20 v20 X20 q20
    obtain ⟨rfl, N20, e20⟩ := q20
    have M20 := Fr.app M19 N20
    show OG.Go _ _ _ _ _ _ _ (T20.setTop (mkF m 34 #[.val (.int p1), .val (.int (9 : Int32)), .val (.ref w9), .val (.int (1 : Int32))] [(.int (1 : Int32))]))
    refine OG.iloadN X20 hx hby at_34 rfl rfl ?_
    refine OG.icmpNo X20 hx hby at_35 (teq (by decide)).2 rfl ?_
    refine OG.iconst (v := (1 : Int32)) X20 hx hby at_38 (by decide) rfl ?_
    refine OG.goto (pc' := 43) X20 hx hby at_39 (by decide) (by decide) ?_
    refine OG.retZ X20 hx hby Bd.returns (by simp) at_43 Bd.notSynchronized (by decide) (by decide) ?_
    exact ⟨rfl, M20⟩
set_option maxRecDepth 65536 in
set_option maxHeartbeats 40000000 in
theorem comes_1 {Post : Tables → Env → Array Value → State → Outcome → State → Prop} (hpost : ∀ tb e args s v u, (limb_1_1.after args s (.returned v) u = true ∧ limb_1_2.after args s (.returned v) u = true ∧ True) → FrameEnd s (.returned v) u (Jvm.fieldLocs frame_1_writes args s ++ Jvm.arrayLocs frame_1_arrays args s ++ Jvm.staticLocs frame_1_statics s) 0 0 → Post tb e args s (.returned v) u) :
    ArmFor flags0 classFile x code maxLocals ret World_1 tables_1 room_1 Calls_1 rest_1 Pre_1 Post := by
  intro l hfl _ _ p e ha hc hk s m args below hf hA hF happ hP
  obtain ⟨hcalls, hrest, hpre⟩ := hP
  obtain ⟨-, -, -, hnamed, -, -, -, hat⟩ := (Spec.applies_iff hf).mp happ
  obtain ⟨hg, hn⟩ := and_e (Cond.before_iff.mp (show (Jvm.Cond.and given_1 narrow_1).before args s = true from hpre))
  obtain ⟨gc, gr0⟩ := and_e hg
  obtain ⟨w0, rfl⟩ : ∃ w0 : Value, args = #[w0] := by
    have hs : args.size = 1 := by simpa [Cond.value, given_1] using gc
    obtain ⟨L⟩ := args
    match L, hs with
    | [w0], _ => exact ⟨w0, rfl⟩
  have hw := fun d (hd : d ∈ tables_1) => atoms_spec (ws := Jvm.Cond.code x code maxLocals ret :: tables_1) hat d (List.mem_cons_of_mem _ hd)
  have hfit : Fit s := fun {y c} hc i hi => by
    obtain ⟨ha, rfl⟩ := Array.getElem?_eq_some_iff.mp hc
    have q := List.all_eq_true.mp ((Array.all_eq_true_iff_forall_mem.mp hF) _ (Array.getElem_mem ha)) i (List.mem_range.mpr hi)
    simpa [Array.getElem?_eq_getElem hi] using q
  obtain ⟨i0, ei0⟩ := is_v gr0
  obtain rfl : w0 = (.int i0) := Option.some.inj ei0
  obtain ⟨cj0, cr0⟩ := and_e hn
  obtain ⟨cj1, cr1⟩ := and_e cr0
  obtain ⟨cj2, cr2⟩ := and_e cr1
  obtain ⟨cj3, cr3⟩ := and_e cr2
  obtain ⟨cj4, cr4⟩ := and_e cr3
  obtain ⟨cj5, cr5⟩ := and_e cr4
  obtain ⟨cj6, cr6⟩ := and_e cr5
  obtain ⟨cj7, cr7⟩ := and_e cr6
  obtain ⟨cj8, cr8⟩ := and_e cr7
  obtain ⟨cj9, cr9⟩ := and_e cr8
  obtain ⟨cj10, cr10⟩ := and_e cr9
  obtain ⟨cj11, cr11⟩ := and_e cr10
  obtain ⟨cj12, cr12⟩ := and_e cr11
  obtain ⟨cj13, cr13⟩ := and_e cr12
  obtain ⟨cj14, cr14⟩ := and_e cr13
  obtain ⟨cj15, cr15⟩ := and_e cr14
  obtain ⟨cj16, cr16⟩ := and_e cr15
  obtain ⟨cj17, cr17⟩ := and_e cr16
  obtain ⟨cj18, cr18⟩ := and_e cr17
  obtain ⟨w_BIND, ev_BIND⟩ := exa_v cj0
  have E_BIND := Exa.start ev_BIND cj0
  have S_BIND := Sta.start ev_BIND (Or.inr ⟨(hw _ (List.mem_of_getElem? (i := 6) rfl)), (hw _ (List.mem_of_getElem? (i := 7) rfl))⟩)
  obtain ⟨w_MODIFY, ev_MODIFY⟩ := exa_v cj2
  have E_MODIFY := Exa.start ev_MODIFY cj2
  have S_MODIFY := Sta.start ev_MODIFY (Or.inr ⟨(hw _ (List.mem_of_getElem? (i := 6) rfl)), (hw _ (List.mem_of_getElem? (i := 16) rfl))⟩)
  obtain ⟨w_UNBIND, ev_UNBIND⟩ := exa_v cj4
  have E_UNBIND := Exa.start ev_UNBIND cj4
  have S_UNBIND := Sta.start ev_UNBIND (Or.inr ⟨(hw _ (List.mem_of_getElem? (i := 6) rfl)), (hw _ (List.mem_of_getElem? (i := 18) rfl))⟩)
  obtain ⟨w_ADD, ev_ADD⟩ := exa_v cj6
  have E_ADD := Exa.start ev_ADD cj6
  have S_ADD := Sta.start ev_ADD (Or.inr ⟨(hw _ (List.mem_of_getElem? (i := 6) rfl)), (hw _ (List.mem_of_getElem? (i := 20) rfl))⟩)
  obtain ⟨w_COMPARE, ev_COMPARE⟩ := exa_v cj8
  have E_COMPARE := Exa.start ev_COMPARE cj8
  have S_COMPARE := Sta.start ev_COMPARE (Or.inr ⟨(hw _ (List.mem_of_getElem? (i := 6) rfl)), (hw _ (List.mem_of_getElem? (i := 22) rfl))⟩)
  obtain ⟨w_SEARCH, ev_SEARCH⟩ := exa_v cj10
  have E_SEARCH := Exa.start ev_SEARCH cj10
  have S_SEARCH := Sta.start ev_SEARCH (Or.inr ⟨(hw _ (List.mem_of_getElem? (i := 6) rfl)), (hw _ (List.mem_of_getElem? (i := 24) rfl))⟩)
  obtain ⟨w_ABANDON, ev_ABANDON⟩ := exa_v cj12
  have E_ABANDON := Exa.start ev_ABANDON cj12
  have S_ABANDON := Sta.start ev_ABANDON (Or.inr ⟨(hw _ (List.mem_of_getElem? (i := 6) rfl)), (hw _ (List.mem_of_getElem? (i := 26) rfl))⟩)
  obtain ⟨w_EXTENDED, ev_EXTENDED⟩ := exa_v cj14
  have E_EXTENDED := Exa.start ev_EXTENDED cj14
  have S_EXTENDED := Sta.start ev_EXTENDED (Or.inr ⟨(hw _ (List.mem_of_getElem? (i := 6) rfl)), (hw _ (List.mem_of_getElem? (i := 28) rfl))⟩)
  obtain ⟨w_DELETE, ev_DELETE⟩ := exa_v cj16
  have E_DELETE := Exa.start ev_DELETE cj16
  have S_DELETE := Sta.start ev_DELETE (Or.inr ⟨(hw _ (List.mem_of_getElem? (i := 6) rfl)), (hw _ (List.mem_of_getElem? (i := 30) rfl))⟩)
  obtain ⟨w_MODIFY_DN, ev_MODIFY_DN⟩ := exa_v cj18
  have E_MODIFY_DN := Exa.start ev_MODIFY_DN cj18
  have S_MODIFY_DN := Sta.start ev_MODIFY_DN (Or.inr ⟨(hw _ (List.mem_of_getElem? (i := 6) rfl)), (hw _ (List.mem_of_getElem? (i := 32) rfl))⟩)
  have F_BIND_responseTag := Fld.start ((fld_at ev_BIND).symm.trans (OG.eqI_v cj1))
  have F_MODIFY_responseTag := Fld.start ((fld_at ev_MODIFY).symm.trans (OG.eqI_v cj3))
  have F_UNBIND_responseTag := Fld.start ((fld_at ev_UNBIND).symm.trans (OG.eqI_v cj5))
  have F_ADD_responseTag := Fld.start ((fld_at ev_ADD).symm.trans (OG.eqI_v cj7))
  have F_COMPARE_responseTag := Fld.start ((fld_at ev_COMPARE).symm.trans (OG.eqI_v cj9))
  have F_SEARCH_responseTag := Fld.start ((fld_at ev_SEARCH).symm.trans (OG.eqI_v cj11))
  have F_ABANDON_responseTag := Fld.start ((fld_at ev_ABANDON).symm.trans (OG.eqI_v cj13))
  have F_EXTENDED_responseTag := Fld.start ((fld_at ev_EXTENDED).symm.trans (OG.eqI_v cj15))
  have F_DELETE_responseTag := Fld.start ((fld_at ev_DELETE).symm.trans (OG.eqI_v cj17))
  have F_MODIFY_DN_responseTag := Fld.start ((fld_at ev_MODIFY_DN).symm.trans (OG.eqI_v cr18))
  obtain ⟨n, o, h1, h2, h3, _, L, rfl, ⟨rfl, N⟩, hq⟩ := own_rm_law l s _ hw tables_1 i0 w_BIND w_UNBIND w_SEARCH w_MODIFY w_ADD w_DELETE w_MODIFY_DN w_COMPARE w_ABANDON w_EXTENDED s.heap s.heap.size (Nat.le_refl _) S_BIND S_UNBIND S_SEARCH S_MODIFY S_ADD S_DELETE S_MODIFY_DN S_COMPARE S_ABANDON S_EXTENDED E_BIND E_UNBIND E_SEARCH E_MODIFY E_ADD E_DELETE E_MODIFY_DN E_COMPARE E_ABANDON E_EXTENDED F_BIND_responseTag F_UNBIND_responseTag F_SEARCH_responseTag F_MODIFY_responseTag F_ADD_responseTag F_DELETE_responseTag F_MODIFY_DN_responseTag F_COMPARE_responseTag F_ABANDON_responseTag F_EXTENDED_responseTag p e ha hc hk s m _ below hf ((Spec.applies_iff_loose hf).mp happ).1 ⟨rfl, State.Warmed39.refl s, rfl⟩ trivial
  refine ⟨n, _, h1, h2, h3, hpost _ _ _ _ _ _ ⟨Cond.after_iff.mpr rfl, Cond.after_iff.mpr (eq_i res_at (Term.int_eval (1)) rfl), trivial⟩ ⟨hq.1, hq.2.1, (hq.2.2.sift fun y hy => Or.inr (N y hy)).mono (by decide) (by decide)⟩⟩
theorem main_1_1 : Claimed_1_1 := comes_1 fun _ _ _ _ _ _ h hF => ⟨h.1, hF⟩
theorem main_1_2 : Claimed_1_2 := comes_1 fun _ _ _ _ _ _ h hF => ⟨h.2.1, hF⟩
end Jvm.Pilot.@@N@@
namespace Jvm.Pilot.@@N@@
open Jvm Jvm.ClassFile Sem Op Lib Jvm.Free Jvm.Stand Jvm.Pilot.@@N@@.Jvm.D
/-! MADE BY PROGRAM (witnessworld.py) out of the Statement's table words and the real class files: 12 classes; the members and pool entries that the words name. The judged class is class 1, her method 2. -/
namespace start1
open Jvm.ClassFile
def u (s : String) : CpInfo := .utf8 (stringToUtf16 s)
/-- a pool by its gaps: so many unusable entries, then the entry; so many at the end -/
def gap : Nat → List CpInfo → List CpInfo
  | 0, r => r
  | n + 1, r => .unusable :: gap n r
def poolList (es : List (Nat × CpInfo)) (last : Nat) : List CpInfo := es.foldr (fun e r => gap e.1 (e.2 :: r)) (gap last [])
def pool (es : List (Nat × CpInfo)) (last : Nat) : Array CpInfo := ⟨poolList es last⟩
def fileOf (pool : Array CpInfo) (this : Nat) (attrs : Array Attribute := #[]) (ms : Array MethodInfo := #[]) (fl : Nat := 33) (sup : Nat := 0) (ifs : Array Nat := #[]) (fds : Array FieldInfo := #[]) : ClassFile where
  minorVersion := 0
  majorVersion := 65
  constantPool := pool
  accessFlags := fl
  thisClass := this
  superClass := sup
  interfaces := ifs
  fields := fds
  methods := ms
  attributes := attrs
def plain (name : String) (sup : Option ClassId) : Class where
  name := name
  kind := .ordinary
  loader := none
  accessFlags := 33
  super := sup
  interfaces := #[]
  cf := none
  fields := #[]
  methods := #[]
  instanceTypes := #[]
  staticTypes := #[]
  resolved := #[]
  callSites := []
  init := .initialized
  statics := none
  mirror := none

def pool0 : Array CpInfo := pool [(5, u "<init>"), (0, u "()V"), (1, .class_ 10), (1, u "java/lang/Object")] 113

def k0m0 : Method := { name := "<init>", desc := "()V", sig := { parameters := [], returnType := none }, accessFlags := 1, code := none }
/-- java/lang/Object -/
def k0 : Class := { plain "java/lang/Object" none with
  accessFlags := 33
  interfaces := #[]
  cf := some (fileOf pool0 8 #[] #[{ accessFlags := 1, nameIndex := 5, descriptorIndex := 6, attributes := #[] }] 33 0 #[] #[])
  fields := #[]
  methods := #[k0m0]
  instanceTypes := #[]
  staticTypes := #[]
  resolved := Array.replicate 124 none
  statics := none }

def pool1 : Array CpInfo := pool [(2, .class_ 4), (1, u "java/lang/Object"), (0, u "<init>"), (0, u "()V"), (0, .fieldref 8 9), (0, .class_ 10), (0, .nameAndType 11 12), (0, u "com/example/annuaire/annuaire/ldap/LdapOperation"), (0, u "BIND"), (0, u "Lcom/example/annuaire/annuaire/ldap/LdapOperation;"), (0, .fieldref 8 14), (0, .nameAndType 15 12), (0, u "UNBIND"), (0, .fieldref 8 17), (0, .nameAndType 18 12), (0, u "SEARCH"), (0, .fieldref 8 20), (0, .nameAndType 21 12), (0, u "MODIFY"), (0, .fieldref 8 23), (0, .nameAndType 24 12), (0, u "ADD"), (0, .fieldref 8 26), (0, .nameAndType 27 12), (0, u "DELETE"), (0, .fieldref 8 29), (0, .nameAndType 30 12), (0, u "MODIFY_DN"), (0, .fieldref 8 32), (0, .nameAndType 33 12), (0, u "COMPARE"), (0, .fieldref 8 35), (0, .nameAndType 36 12), (0, u "ABANDON"), (0, .fieldref 8 38), (0, .nameAndType 39 12), (0, u "EXTENDED"), (0, .integer 2147483647), (0, .methodref 42 43), (0, .class_ 44), (0, .nameAndType 45 46), (0, u "com/example/annuaire/annuaire/ldap/LdapOperationIsAnsweredPinLaw"), (0, u "pick"), (0, u "(I)Lcom/example/annuaire/annuaire/ldap/LdapOperation;"), (0, .methodref 8 48), (0, .nameAndType 49 50), (0, u "isAnswered"), (0, u "()Z"), (3, u "law"), (0, u "(I)Z")] 2

def k1m0 : Method := { name := "<init>", desc := "()V", sig := { parameters := [], returnType := none }, accessFlags := 2, code := none }
def k1c1 : Code := { maxStack := 2, maxLocals := 1, code := method_2_code, exceptionTable := #[], attributes := #[] }
def k1m1 : Method := { name := "pick", desc := "(I)Lcom/example/annuaire/annuaire/ldap/LdapOperation;", sig := { parameters := [.int], returnType := some (.object "com/example/annuaire/annuaire/ldap/LdapOperation") }, accessFlags := 10, code := some k1c1 }
def k1c2 : Code := { maxStack := 2, maxLocals := 4, code := code, exceptionTable := #[], attributes := #[] }
def k1m2 : Method := { name := "law", desc := "(I)Z", sig := { parameters := [.int], returnType := some .boolean }, accessFlags := 9, code := some k1c2 }
/-- com/example/annuaire/annuaire/ldap/LdapOperationIsAnsweredPinLaw -/
def k1 : Class := { plain "com/example/annuaire/annuaire/ldap/LdapOperationIsAnsweredPinLaw" (some 0) with
  accessFlags := 49
  interfaces := #[]
  cf := some (fileOf pool1 42 #[] #[{ accessFlags := 2, nameIndex := 5, descriptorIndex := 6, attributes := #[] }, { accessFlags := 10, nameIndex := 45, descriptorIndex := 46, attributes := #[] }, { accessFlags := 9, nameIndex := 54, descriptorIndex := 55, attributes := #[] }] 49 2 #[] #[])
  fields := #[]
  methods := #[k1m0, k1m1, k1m2]
  instanceTypes := #[]
  staticTypes := #[]
  resolved := Array.replicate 58 none
  statics := none }

def pool2 : Array CpInfo := pool [(1, .class_ 2), (0, u "java/lang/constant/Constable"), (0, .class_ 4), (0, u "java/lang/Object")] 6

/-- java/lang/constant/Constable -/
def k2 : Class := { plain "java/lang/constant/Constable" (some 0) with
  accessFlags := 1537
  interfaces := #[]
  cf := some (fileOf pool2 1 #[] #[] 1537 3 #[] #[])
  fields := #[]
  methods := #[]
  instanceTypes := #[]
  staticTypes := #[]
  resolved := Array.replicate 11 none
  statics := none }

def pool3 : Array CpInfo := pool [(1, .class_ 2), (0, u "java/lang/Comparable"), (0, .class_ 4), (0, u "java/lang/Object")] 7

/-- java/lang/Comparable -/
def k3 : Class := { plain "java/lang/Comparable" (some 0) with
  accessFlags := 1537
  interfaces := #[]
  cf := some (fileOf pool3 1 #[] #[] 1537 3 #[] #[])
  fields := #[]
  methods := #[]
  instanceTypes := #[]
  staticTypes := #[]
  resolved := Array.replicate 12 none
  statics := none }

def pool4 : Array CpInfo := pool [(1, .class_ 2), (0, u "java/io/Serializable"), (0, .class_ 4), (0, u "java/lang/Object")] 2

/-- java/io/Serializable -/
def k4 : Class := { plain "java/io/Serializable" (some 0) with
  accessFlags := 1537
  interfaces := #[]
  cf := some (fileOf pool4 1 #[] #[] 1537 3 #[] #[])
  fields := #[]
  methods := #[]
  instanceTypes := #[]
  staticTypes := #[]
  resolved := Array.replicate 7 none
  statics := none }

def pool5 : Array CpInfo := pool [(2, .class_ 4), (1, u "java/lang/Enum"), (0, u "name"), (0, u "Ljava/lang/String;"), (2, u "ordinal"), (0, u "I"), (1, .class_ 14), (1, u "java/lang/Object"), (4, u "hash"), (86, .class_ 108), (1, u "java/lang/Enum$EnumDesc"), (2, .class_ 112), (0, u "java/lang/constant/Constable"), (0, .class_ 114), (0, u "java/lang/Comparable"), (0, .class_ 116), (0, u "java/io/Serializable")] 87

/-- java/lang/Enum -/
def k5 : Class := { plain "java/lang/Enum" (some 0) with
  accessFlags := 1057
  interfaces := #[2, 3, 4]
  cf := some (fileOf pool5 2 #[.nestMembers #[106]] #[] 1057 12 #[111, 113, 115] #[{ accessFlags := 18, nameIndex := 5, descriptorIndex := 6, attributes := #[] }, { accessFlags := 18, nameIndex := 9, descriptorIndex := 10, attributes := #[] }, { accessFlags := 2, nameIndex := 19, descriptorIndex := 10, attributes := #[] }])
  fields := #[{ name := "name", type := (.object "java/lang/String"), accessFlags := 18, slot := 0, constantValue := 0 }, { name := "ordinal", type := .int, accessFlags := 18, slot := 1, constantValue := 0 }, { name := "hash", type := .int, accessFlags := 2, slot := 2, constantValue := 0 }]
  methods := #[]
  instanceTypes := #[(.object "java/lang/String"), .int, .int]
  staticTypes := #[]
  resolved := Array.replicate 204 none
  statics := none }

def pool6 : Array CpInfo := pool [(1, .class_ 2), (0, u "com/example/annuaire/annuaire/ldap/LdapOperation"), (2, u "BIND"), (0, u "Lcom/example/annuaire/annuaire/ldap/LdapOperation;"), (2, u "UNBIND"), (2, u "SEARCH"), (2, u "MODIFY"), (2, u "ADD"), (2, u "DELETE"), (2, u "MODIFY_DN"), (2, u "COMPARE"), (2, u "ABANDON"), (2, u "EXTENDED"), (2, u "$VALUES"), (0, u "[Lcom/example/annuaire/annuaire/ldap/LdapOperation;"), (6, .class_ 46), (1, u "java/lang/Enum"), (8, u "requestTag"), (0, u "I"), (0, .fieldref 1 58), (0, .nameAndType 59 56), (0, u "responseTag"), (32, u "NO_RESPONSE"), (11, u "isAnswered"), (0, u "()Z")] 6

def k6c0 : Code := { maxStack := 2, maxLocals := 1, code := prog_116_method_5_code, exceptionTable := #[], attributes := #[] }
def k6m0 : Method := { name := "isAnswered", desc := "()Z", sig := { parameters := [], returnType := some .boolean }, accessFlags := 0, code := some k6c0 }
/-- com/example/annuaire/annuaire/ldap/LdapOperation -/
def k6 : Class := { plain "com/example/annuaire/annuaire/ldap/LdapOperation" (some 5) with
  accessFlags := 16432
  interfaces := #[]
  cf := some (fileOf pool6 1 #[] #[{ accessFlags := 0, nameIndex := 104, descriptorIndex := 105, attributes := #[] }] 16432 44 #[] #[{ accessFlags := 16409, nameIndex := 5, descriptorIndex := 6, attributes := #[] }, { accessFlags := 16409, nameIndex := 9, descriptorIndex := 6, attributes := #[] }, { accessFlags := 16409, nameIndex := 12, descriptorIndex := 6, attributes := #[] }, { accessFlags := 16409, nameIndex := 15, descriptorIndex := 6, attributes := #[] }, { accessFlags := 16409, nameIndex := 18, descriptorIndex := 6, attributes := #[] }, { accessFlags := 16409, nameIndex := 21, descriptorIndex := 6, attributes := #[] }, { accessFlags := 16409, nameIndex := 24, descriptorIndex := 6, attributes := #[] }, { accessFlags := 16409, nameIndex := 27, descriptorIndex := 6, attributes := #[] }, { accessFlags := 16409, nameIndex := 30, descriptorIndex := 6, attributes := #[] }, { accessFlags := 16409, nameIndex := 33, descriptorIndex := 6, attributes := #[] }, { accessFlags := 26, nameIndex := 92, descriptorIndex := 56, attributes := #[] }, { accessFlags := 18, nameIndex := 55, descriptorIndex := 56, attributes := #[] }, { accessFlags := 18, nameIndex := 59, descriptorIndex := 56, attributes := #[] }, { accessFlags := 4122, nameIndex := 36, descriptorIndex := 37, attributes := #[] }])
  fields := #[{ name := "BIND", type := (.object "com/example/annuaire/annuaire/ldap/LdapOperation"), accessFlags := 16409, slot := 0, constantValue := 0 }, { name := "UNBIND", type := (.object "com/example/annuaire/annuaire/ldap/LdapOperation"), accessFlags := 16409, slot := 1, constantValue := 0 }, { name := "SEARCH", type := (.object "com/example/annuaire/annuaire/ldap/LdapOperation"), accessFlags := 16409, slot := 2, constantValue := 0 }, { name := "MODIFY", type := (.object "com/example/annuaire/annuaire/ldap/LdapOperation"), accessFlags := 16409, slot := 3, constantValue := 0 }, { name := "ADD", type := (.object "com/example/annuaire/annuaire/ldap/LdapOperation"), accessFlags := 16409, slot := 4, constantValue := 0 }, { name := "DELETE", type := (.object "com/example/annuaire/annuaire/ldap/LdapOperation"), accessFlags := 16409, slot := 5, constantValue := 0 }, { name := "MODIFY_DN", type := (.object "com/example/annuaire/annuaire/ldap/LdapOperation"), accessFlags := 16409, slot := 6, constantValue := 0 }, { name := "COMPARE", type := (.object "com/example/annuaire/annuaire/ldap/LdapOperation"), accessFlags := 16409, slot := 7, constantValue := 0 }, { name := "ABANDON", type := (.object "com/example/annuaire/annuaire/ldap/LdapOperation"), accessFlags := 16409, slot := 8, constantValue := 0 }, { name := "EXTENDED", type := (.object "com/example/annuaire/annuaire/ldap/LdapOperation"), accessFlags := 16409, slot := 9, constantValue := 0 }, { name := "NO_RESPONSE", type := .int, accessFlags := 26, slot := 10, constantValue := 0 }, { name := "requestTag", type := .int, accessFlags := 18, slot := 3, constantValue := 0 }, { name := "responseTag", type := .int, accessFlags := 18, slot := 4, constantValue := 0 }, { name := "$VALUES", type := (.array (.object "com/example/annuaire/annuaire/ldap/LdapOperation")), accessFlags := 4122, slot := 11, constantValue := 0 }]
  methods := #[k6m0]
  instanceTypes := #[(.object "java/lang/String"), .int, .int, .int, .int]
  staticTypes := #[(.object "com/example/annuaire/annuaire/ldap/LdapOperation"), (.object "com/example/annuaire/annuaire/ldap/LdapOperation"), (.object "com/example/annuaire/annuaire/ldap/LdapOperation"), (.object "com/example/annuaire/annuaire/ldap/LdapOperation"), (.object "com/example/annuaire/annuaire/ldap/LdapOperation"), (.object "com/example/annuaire/annuaire/ldap/LdapOperation"), (.object "com/example/annuaire/annuaire/ldap/LdapOperation"), (.object "com/example/annuaire/annuaire/ldap/LdapOperation"), (.object "com/example/annuaire/annuaire/ldap/LdapOperation"), (.object "com/example/annuaire/annuaire/ldap/LdapOperation"), .int, (.array (.object "com/example/annuaire/annuaire/ldap/LdapOperation"))]
  resolved := Array.replicate 112 none
  statics := some 0 }

def pool7 : Array CpInfo := pool [(1, u "java/lang/Cloneable"), (0, .class_ 1), (0, u "java/lang/Object"), (0, .class_ 3)] 3

/-- java/lang/Cloneable -/
def k7 : Class := { plain "java/lang/Cloneable" (some 0) with
  accessFlags := 1537
  interfaces := #[]
  cf := some (fileOf pool7 2 #[] #[] 1537 4 #[] #[])
  fields := #[]
  methods := #[]
  instanceTypes := #[]
  staticTypes := #[]
  resolved := Array.replicate 8 none
  statics := none }

/-- the primitive byte -/
def k8 : Class := { plain "byte" none with kind := .primitive 'B', accessFlags := 0x411 }
/-- [B -/
def k9 : Class := { plain "[B" (some 0) with kind := .array 8 .byte, interfaces := #[7, 4], accessFlags := 1041 }

/-- the primitive int -/
def k10 : Class := { plain "int" none with kind := .primitive 'I', accessFlags := 0x411 }
/-- [I -/
def k11 : Class := { plain "[I" (some 0) with kind := .array 10 .int, interfaces := #[7, 4], accessFlags := 1041 }

def heap : Heap := #[{ cls := 6, slots := #[.ref 1, .ref 2, .ref 3, .ref 4, .ref 5, .ref 6, .ref 7, .ref 8, .ref 9, .ref 10, .int 0, .null], vm := .statics 6 },
  { cls := 6, slots := #[.null, .int 0, .int 0, .int 0, .int (1)], vm := .none },
  { cls := 6, slots := #[.null, .int 1, .int 0, .int 0, .int (-1)], vm := .none },
  { cls := 6, slots := #[.null, .int 2, .int 0, .int 0, .int (5)], vm := .none },
  { cls := 6, slots := #[.null, .int 3, .int 0, .int 0, .int (7)], vm := .none },
  { cls := 6, slots := #[.null, .int 4, .int 0, .int 0, .int (9)], vm := .none },
  { cls := 6, slots := #[.null, .int 5, .int 0, .int 0, .int (11)], vm := .none },
  { cls := 6, slots := #[.null, .int 6, .int 0, .int 0, .int (13)], vm := .none },
  { cls := 6, slots := #[.null, .int 7, .int 0, .int 0, .int (15)], vm := .none },
  { cls := 6, slots := #[.null, .int 8, .int 0, .int 0, .int (-1)], vm := .none },
  { cls := 6, slots := #[.null, .int 9, .int 0, .int 0, .int (24)], vm := .none }]
def classes : Array Class := #[k0, k1, k2, k3, k4, k5, k6, k7, k8, k9, k10, k11]
def interned : List (Array UInt16 × Addr) := []
def slotsUsed : Nat := 62
def theMethod : MethodId := ⟨1, 2⟩
def args0 : Array Value := #[.int 5]
def aboutOver (below : List Frame) : State where
  vm := { classes := classes, interned := interned.toArray }
  heap := heap
  slotsUsed := slotsUsed
  threads := #[{ frames := .invoking theMethod args0 :: below }]
def below0 : List Frame := [.native { method := ⟨0, 0⟩, args := #[] }]
def about1 : State := aboutOver below0
def p0 : Program := .bare "" "" ""
def e0 : Env := launch0.env 0 0 0
theorem w_frames : about1.frames = Frame.invoking theMethod args0 :: below0 := rfl
set_option maxRecDepth 65536 in
theorem w_args : argsFit about1.vm theMethod args0 = true := by decide +kernel
set_option maxRecDepth 65536 in
theorem w_heap : heapFits about1 = true := by decide +kernel
set_option maxRecDepth 65536 in
theorem w_runnable : about1.curStatus? = some .runnable := by decide +kernel
set_option maxRecDepth 65536 in
theorem w_alone : about1.alone = true := by decide +kernel
set_option maxRecDepth 65536 in
theorem w_named : about1.methodNamed? x = some theMethod := by decide +kernel
set_option maxRecDepth 65536 in
theorem w_hears : about1.hears theMethod below0 = true := by decide +kernel
set_option maxRecDepth 65536 in
theorem w_ripe : about1.ripe theMethod args0 below0 = true := by decide +kernel
theorem w_running : about1.status = .running := rfl
set_option maxRecDepth 65536 in
theorem w_room : about1.hasRoom e0.platform room_1 = true :=
  launch0.hasRoom_least _ room_1 (by decide +kernel) (by decide +kernel) (by decide +kernel) (by decide +kernel) (by decide +kernel) (by decide +kernel)
theorem allAtoms_all (ts : List Jvm.Cond) (a : Array Jvm.Value) (st : Jvm.State) : (allAtoms ts).before a st = ts.all (fun c => c.before a st) := by
  induction ts with
  | nil => rfl
  | cons c t ih =>
    show (Jvm.Cond.and c (allAtoms t)).before a st = _
    rw [Jvm.Cond.before_and, ih, List.all_cons]
def words1 : List Jvm.Cond := Jvm.Cond.code x code maxLocals ret :: tables_1
/-- a 'code' word, met by the world's own term for the bytes: nothing is compared byte by byte -/
theorem code_word {y : MethodName} {bytes : ByteArray} {mx : Nat} {rt : Option FieldType} {a : Array Value} {s : State} {m : MethodId} {meth : Method} {c : Code} (h1 : s.methodNamed? y = some m) (h2 : s.vm.method? m = some meth) (h3 : meth.code = some c) (h4 : c.code = bytes)
    (h5 : (c.maxLocals == mx && c.exceptionTable.isEmpty && decide (c.maxStack ≤ mostOperands) && decide (meth.sig.returnType = rt) && !meth.locks && decide (parseMethodDescriptor y.desc = some meth.sig)) = true) : (Jvm.Cond.code y bytes mx rt).before a s = true := by
  simp only [Bool.and_eq_true, beq_iff_eq, Bool.not_eq_true', decide_eq_true_eq] at h5
  obtain ⟨⟨⟨⟨⟨g1, g2⟩, g3⟩, g4⟩, g5⟩, g6⟩ := h5
  simp [Cond.before, Cond.holds, Cond.value, h1, h2, h3, h4, g1, g2, g3, g4, g5, g6]
def isCode : Jvm.Cond → Bool
  | .code _ _ _ _ => true
  | _ => false
theorem all_split {L : List Jvm.Cond} {P : Jvm.Cond → Bool} (h1 : L.all (fun c => isCode c || P c) = true) (h2 : ∀ c ∈ L.filter isCode, P c = true) : L.all P = true := by
  refine List.all_eq_true.mpr fun c hc => ?_
  have h := List.all_eq_true.mp h1 c hc
  rcases Bool.eq_false_or_eq_true (isCode c) with hi | hi
  · exact h2 c (List.mem_filter.mpr ⟨hc, hi⟩)
  · simpa [hi] using h
set_option maxRecDepth 65536 in
theorem w_c0 : (Jvm.Cond.code x code maxLocals ret).before args0 about1 = true := code_word (m := ⟨1, 2⟩) (meth := k1m2) (c := k1c2) (by decide +kernel) rfl rfl rfl (by decide +kernel)
set_option maxRecDepth 65536 in
theorem w_c1 : (Jvm.Cond.code ({ cls := "com/example/annuaire/annuaire/ldap/LdapOperationIsAnsweredPinLaw", name := "pick", desc := "(I)Lcom/example/annuaire/annuaire/ldap/LdapOperation;" } : Jvm.MethodName) method_2_code (1 : Nat) (Option.some (Jvm.ClassFile.FieldType.object "com/example/annuaire/annuaire/ldap/LdapOperation"))).before args0 about1 = true := code_word (m := ⟨1, 1⟩) (meth := k1m1) (c := k1c1) (by decide +kernel) rfl rfl rfl (by decide +kernel)
set_option maxRecDepth 65536 in
theorem w_c2 : (Jvm.Cond.code ({ cls := "com/example/annuaire/annuaire/ldap/LdapOperation", name := "isAnswered", desc := "()Z" } : Jvm.MethodName) prog_116_method_5_code (1 : Nat) (Option.some Jvm.ClassFile.FieldType.boolean)).before args0 about1 = true := code_word (m := ⟨6, 0⟩) (meth := k6m0) (c := k6c0) (by decide +kernel) rfl rfl rfl (by decide +kernel)
def codes1 : List Jvm.Cond := [Jvm.Cond.code x code maxLocals ret, Jvm.Cond.code ({ cls := "com/example/annuaire/annuaire/ldap/LdapOperationIsAnsweredPinLaw", name := "pick", desc := "(I)Lcom/example/annuaire/annuaire/ldap/LdapOperation;" } : Jvm.MethodName) method_2_code (1 : Nat) (Option.some (Jvm.ClassFile.FieldType.object "com/example/annuaire/annuaire/ldap/LdapOperation")), Jvm.Cond.code ({ cls := "com/example/annuaire/annuaire/ldap/LdapOperation", name := "isAnswered", desc := "()Z" } : Jvm.MethodName) prog_116_method_5_code (1 : Nat) (Option.some Jvm.ClassFile.FieldType.boolean)]
set_option maxRecDepth 65536 in
theorem codes_eq : words1.filter isCode = codes1 := rfl
theorem w_codes : ∀ c ∈ words1.filter isCode, c.before args0 about1 = true := by
  rw [codes_eq]
  intro c hc
  simp only [codes1, List.mem_cons, List.not_mem_nil, or_false] at hc
  rcases hc with rfl | rfl | rfl
  · exact w_c0
  · exact w_c1
  · exact w_c2
set_option maxRecDepth 65536 in
theorem w_t1 : (words1.take 24).all (fun c => isCode c || c.before args0 about1) = true := by decide +kernel
set_option maxRecDepth 65536 in
theorem w_t2 : (words1.drop 24).all (fun c => isCode c || c.before args0 about1) = true := by decide +kernel
theorem w_tables : (allAtoms (Jvm.Cond.code x code maxLocals ret :: tables_1)).before args0 about1 = true := by
  rw [allAtoms_all]
  show words1.all (fun c => c.before args0 about1) = true
  refine all_split ?_ w_codes
  rw [← List.take_append_drop 24 words1, List.all_append, w_t1, w_t2]
  rfl
set_option maxRecDepth 65536 in
theorem w_case : (Jvm.Cond.and given_1 narrow_1).before args0 about1 = true := by decide +kernel
theorem w_applies : (headSpec (Jvm.Cond.code x code maxLocals ret :: tables_1) room_1).applies x e0.platform about1 = true :=
  (Spec.applies_iff w_frames).mpr ⟨w_running, w_runnable, w_alone, w_named, w_hears, w_ripe, w_room, w_tables⟩
theorem atStart : AtStart classFile x code maxLocals ret World_1 tables_1 room_1 Calls_1 rest_1 Pre_1 launch0 p0 e0 about1 theMethod args0 below0 :=
  ⟨lists_1, trivial, launch0.admits_env _ _ _, launch0.least_env, fairChoices_fair.cas, fairChoices_fair.clock, w_frames, w_args, w_heap, w_applies, trivial, trivial, w_case⟩
end start1
theorem witness_1 : WitnessClaimed_1 := ⟨start1.p0, start1.e0, start1.about1, start1.theMethod, start1.args0, start1.below0, start1.atStart⟩
end Jvm.Pilot.@@N@@
