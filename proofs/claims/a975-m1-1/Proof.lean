import JvmDerived
import JvmDerived.Pilot.@@N@@Statement
import JvmDerived.Pilot.@@N@@Code
set_option linter.unusedVariables false
set_option linter.unusedSimpArgs false
namespace Jvm.OG
open Sem ClassFile Op Lib Jvm.Stand Jvm.Free Jvm.LawKit Jvm.RoadKit
/-- from U the run comes to the method's return, with Q of what it returns, the heap there and the places written -/
def Go (tb : Tables) (e : Env) (below : List Frame) (Q : Option Value → Heap → List Loc → Prop) (kc ks : Nat) (s U : State) : Prop :=
  ∃ s₂ o, Steps tb e below U s₂ ∧ s₂.status = .running ∧ Ended s₂ below o ∧ ∃ v L, o = .returned v ∧ Q v s₂.heap L ∧ FrameEnd s o s₂ L kc ks
theorem Go.step {tb : Tables} {e : Env} {below : List Frame} {Q : Option Value → Heap → List Loc → Prop} {kc ks : Nat} {s U U' : State} (st : ∀ t, Steps tb e below U' t → Steps tb e below U t) (k : Go tb e below Q kc ks s U') : Go tb e below Q kc ks s U := by
  obtain ⟨s₂, o, h1, r⟩ := k
  exact ⟨s₂, o, st _ h1, r⟩
theorem Go.via {tb : Tables} {e : Env} {below : List Frame} {Q : Option Value → Heap → List Loc → Prop} {kc ks : Nat} {s U U' : State} (st : Steps tb e below U U') (k : Go tb e below Q kc ks s U') : Go tb e below Q kc ks s U := by
  obtain ⟨s₂, o, h1, r⟩ := k
  exact ⟨s₂, o, st.trans h1, r⟩
theorem Go.cast {tb : Tables} {e : Env} {below : List Frame} {Q : Option Value → Heap → List Loc → Prop} {kc ks : Nat} {s T : State} {g g' : JFrame} (q : g = g') (k : Go tb e below Q kc ks s (T.setTop g')) : Go tb e below Q kc ks s (T.setTop g) := q ▸ k
section Steps1
variable {p : Program} {l : Launch} {e : Env} {R : Room} {s : State} {m : MethodId} {args : Array Value} {below : List Frame} {meth : Method} {c : Code} {T : State} {locs : List Loc} {cells slots : Nat} {Q : Option Value → Heap → List Loc → Prop} {kc ks : Nat} {code : ByteArray} {pc pc' : Nat} {Ls Ls' : Array Slot} {st : List Value}
theorem iloadN (X : Stand p l e R s m args below meth c T locs cells slots) (hx : p.tables.exec = Jvm.exec) (hby : c.code = code) {k : Fin 4} {v : Int32} (hd : decode code pc = .ok (.iload_n k, 1)) (hl : Ls[k.val]? = some (.val (.int v))) (hp : pc + 1 = pc')
    (K : Go p.tables e below Q kc ks s (T.setTop (mkF m pc' Ls (.int v :: st)))) : Go p.tables e below Q kc ks s (T.setTop (mkF m pc Ls st)) := by
  subst hp
  exact Go.step (fun _ hr => XS.iloadN X.here hx rfl (hb hby hd) hl hr) K
theorem lloadN (X : Stand p l e R s m args below meth c T locs cells slots) (hx : p.tables.exec = Jvm.exec) (hby : c.code = code) {k : Fin 4} {v : Int64} (hd : decode code pc = .ok (.lload_n k, 1)) (hl : Ls[k.val]? = some (.val (.long v))) (hp : pc + 1 = pc')
    (K : Go p.tables e below Q kc ks s (T.setTop (mkF m pc' Ls (.long v :: st)))) : Go p.tables e below Q kc ks s (T.setTop (mkF m pc Ls st)) := by
  subst hp
  exact Go.step (fun _ hr => XS.lloadN X.here hx rfl (hb hby hd) hl hr) K
theorem aloadN (X : Stand p l e R s m args below meth c T locs cells slots) (hx : p.tables.exec = Jvm.exec) (hby : c.code = code) {k : Fin 4} {v : Value} (hd : decode code pc = .ok (.aload_n k, 1)) (hl : Ls[k.val]? = some (.val v)) (hv : v.isRef = true) (hp : pc + 1 = pc')
    (K : Go p.tables e below Q kc ks s (T.setTop (mkF m pc' Ls (v :: st)))) : Go p.tables e below Q kc ks s (T.setTop (mkF m pc Ls st)) := by
  subst hp
  exact Go.step (fun _ hr => XS.aloadN X.here hx rfl (hb hby hd) hl hv hr) K
theorem iload (X : Stand p l e R s m args below meth c T locs cells slots) (hx : p.tables.exec = Jvm.exec) (hby : c.code = code) {k : Nat} {v : Int32} (hd : decode code pc = .ok (.iload k, 2)) (hl : Ls[k]? = some (.val (.int v))) (hp : pc + 2 = pc')
    (K : Go p.tables e below Q kc ks s (T.setTop (mkF m pc' Ls (.int v :: st)))) : Go p.tables e below Q kc ks s (T.setTop (mkF m pc Ls st)) := by
  subst hp
  exact Go.step (fun _ hr => XS.iload X.here hx rfl (hb hby hd) hl hr) K
theorem lload (X : Stand p l e R s m args below meth c T locs cells slots) (hx : p.tables.exec = Jvm.exec) (hby : c.code = code) {k : Nat} {v : Int64} (hd : decode code pc = .ok (.lload k, 2)) (hl : Ls[k]? = some (.val (.long v))) (hp : pc + 2 = pc')
    (K : Go p.tables e below Q kc ks s (T.setTop (mkF m pc' Ls (.long v :: st)))) : Go p.tables e below Q kc ks s (T.setTop (mkF m pc Ls st)) := by
  subst hp
  exact Go.step (fun _ hr => XS.lload X.here hx rfl (hb hby hd) hl hr) K
theorem aload (X : Stand p l e R s m args below meth c T locs cells slots) (hx : p.tables.exec = Jvm.exec) (hby : c.code = code) {k : Nat} {v : Value} (hd : decode code pc = .ok (.aload k, 2)) (hl : Ls[k]? = some (.val v)) (hv : v.isRef = true) (hp : pc + 2 = pc')
    (K : Go p.tables e below Q kc ks s (T.setTop (mkF m pc' Ls (v :: st)))) : Go p.tables e below Q kc ks s (T.setTop (mkF m pc Ls st)) := by
  subst hp
  exact Go.step (fun _ hr => XS.aload X.here hx rfl (hb hby hd) hl hv hr) K
theorem istoreN (X : Stand p l e R s m args below meth c T locs cells slots) (hx : p.tables.exec = Jvm.exec) (hby : c.code = code) {k : Fin 4} {v : Int32} (hd : decode code pc = .ok (.istore_n k, 1)) (hl : storeLocals Ls k.val (.int v) = some Ls') (hp : pc + 1 = pc')
    (K : Go p.tables e below Q kc ks s (T.setTop (mkF m pc' Ls' st))) : Go p.tables e below Q kc ks s (T.setTop (mkF m pc Ls (.int v :: st))) := by
  subst hp
  exact Go.step (fun _ hr => XS.istoreN X.here hx rfl (hb hby hd) rfl hl hr) K
theorem lstoreN (X : Stand p l e R s m args below meth c T locs cells slots) (hx : p.tables.exec = Jvm.exec) (hby : c.code = code) {k : Fin 4} {v : Int64} (hd : decode code pc = .ok (.lstore_n k, 1)) (hl : storeLocals Ls k.val (.long v) = some Ls') (hp : pc + 1 = pc')
    (K : Go p.tables e below Q kc ks s (T.setTop (mkF m pc' Ls' st))) : Go p.tables e below Q kc ks s (T.setTop (mkF m pc Ls (.long v :: st))) := by
  subst hp
  exact Go.step (fun _ hr => XS.lstoreN X.here hx rfl (hb hby hd) rfl hl hr) K
theorem astoreN (X : Stand p l e R s m args below meth c T locs cells slots) (hx : p.tables.exec = Jvm.exec) (hby : c.code = code) {k : Fin 4} {v : Value} (hd : decode code pc = .ok (.astore_n k, 1)) (hv : v.isRef = true) (hl : storeLocals Ls k.val v = some Ls') (hp : pc + 1 = pc')
    (K : Go p.tables e below Q kc ks s (T.setTop (mkF m pc' Ls' st))) : Go p.tables e below Q kc ks s (T.setTop (mkF m pc Ls (v :: st))) := by
  subst hp
  exact Go.step (fun _ hr => XS.astoreN X.here hx rfl (hb hby hd) rfl hv hl hr) K
theorem istore (X : Stand p l e R s m args below meth c T locs cells slots) (hx : p.tables.exec = Jvm.exec) (hby : c.code = code) {k : Nat} {v : Int32} (hd : decode code pc = .ok (.istore k, 2)) (hl : storeLocals Ls k (.int v) = some Ls') (hp : pc + 2 = pc')
    (K : Go p.tables e below Q kc ks s (T.setTop (mkF m pc' Ls' st))) : Go p.tables e below Q kc ks s (T.setTop (mkF m pc Ls (.int v :: st))) := by
  subst hp
  exact Go.step (fun _ hr => XS.istore X.here hx rfl (hb hby hd) rfl hl hr) K
theorem lstore (X : Stand p l e R s m args below meth c T locs cells slots) (hx : p.tables.exec = Jvm.exec) (hby : c.code = code) {k : Nat} {v : Int64} (hd : decode code pc = .ok (.lstore k, 2)) (hl : storeLocals Ls k (.long v) = some Ls') (hp : pc + 2 = pc')
    (K : Go p.tables e below Q kc ks s (T.setTop (mkF m pc' Ls' st))) : Go p.tables e below Q kc ks s (T.setTop (mkF m pc Ls (.long v :: st))) := by
  subst hp
  exact Go.step (fun _ hr => XS.lstore X.here hx rfl (hb hby hd) rfl hl hr) K
theorem astore (X : Stand p l e R s m args below meth c T locs cells slots) (hx : p.tables.exec = Jvm.exec) (hby : c.code = code) {k : Nat} {v : Value} (hd : decode code pc = .ok (.astore k, 2)) (hv : v.isRef = true) (hl : storeLocals Ls k v = some Ls') (hp : pc + 2 = pc')
    (K : Go p.tables e below Q kc ks s (T.setTop (mkF m pc' Ls' st))) : Go p.tables e below Q kc ks s (T.setTop (mkF m pc Ls (v :: st))) := by
  subst hp
  exact Go.step (fun _ hr => XS.astore X.here hx rfl (hb hby hd) rfl hv hl hr) K
theorem iconst (X : Stand p l e R s m args below meth c T locs cells slots) (hx : p.tables.exec = Jvm.exec) (hby : c.code = code) {i : Int} {v : Int32} (hd : decode code pc = .ok (.iconst i, 1)) (hv : Int32.ofInt i = v) (hp : pc + 1 = pc')
    (K : Go p.tables e below Q kc ks s (T.setTop (mkF m pc' Ls (.int v :: st)))) : Go p.tables e below Q kc ks s (T.setTop (mkF m pc Ls st)) := by
  subst hp
  subst hv
  exact Go.step (fun _ hr => XS.iconst X.here hx rfl (hb hby hd)  hr) K
theorem bipush (X : Stand p l e R s m args below meth c T locs cells slots) (hx : p.tables.exec = Jvm.exec) (hby : c.code = code) {i : Int} {v : Int32} (hd : decode code pc = .ok (.bipush i, 2)) (hv : (Int8.ofInt i).toInt32 = v) (hp : pc + 2 = pc')
    (K : Go p.tables e below Q kc ks s (T.setTop (mkF m pc' Ls (.int v :: st)))) : Go p.tables e below Q kc ks s (T.setTop (mkF m pc Ls st)) := by
  subst hp
  subst hv
  exact Go.step (fun _ hr => XS.bipush X.here hx rfl (hb hby hd)  hr) K
theorem sipush (X : Stand p l e R s m args below meth c T locs cells slots) (hx : p.tables.exec = Jvm.exec) (hby : c.code = code) {i : Int} {v : Int32} (hd : decode code pc = .ok (.sipush i, 3)) (hv : (Int16.ofInt i).toInt32 = v) (hp : pc + 3 = pc')
    (K : Go p.tables e below Q kc ks s (T.setTop (mkF m pc' Ls (.int v :: st)))) : Go p.tables e below Q kc ks s (T.setTop (mkF m pc Ls st)) := by
  subst hp
  subst hv
  exact Go.step (fun _ hr => XS.sipush X.here hx rfl (hb hby hd)  hr) K
theorem lconst (X : Stand p l e R s m args below meth c T locs cells slots) (hx : p.tables.exec = Jvm.exec) (hby : c.code = code) {i : Fin 2} {v : Int64} (hd : decode code pc = .ok (.lconst i, 1)) (hv : Int64.ofNat i = v) (hp : pc + 1 = pc')
    (K : Go p.tables e below Q kc ks s (T.setTop (mkF m pc' Ls (.long v :: st)))) : Go p.tables e below Q kc ks s (T.setTop (mkF m pc Ls st)) := by
  subst hp
  subst hv
  exact Go.step (fun _ hr => XS.lconst X.here hx rfl (hb hby hd)  hr) K
theorem aconstNull (X : Stand p l e R s m args below meth c T locs cells slots) (hx : p.tables.exec = Jvm.exec) (hby : c.code = code) (hd : decode code pc = .ok (.aconst_null, 1)) (hp : pc + 1 = pc')
    (K : Go p.tables e below Q kc ks s (T.setTop (mkF m pc' Ls (.null :: st)))) : Go p.tables e below Q kc ks s (T.setTop (mkF m pc Ls st)) := by
  subst hp
  exact Go.step (fun _ hr => XS.aconstNull X.here hx rfl (hb hby hd)  hr) K
theorem iadd (X : Stand p l e R s m args below meth c T locs cells slots) (hx : p.tables.exec = Jvm.exec) (hby : c.code = code) {x y : Int32} (hd : decode code pc = .ok (.iadd, 1)) (hp : pc + 1 = pc')
    (K : Go p.tables e below Q kc ks s (T.setTop (mkF m pc' Ls (.int (x + y) :: st)))) : Go p.tables e below Q kc ks s (T.setTop (mkF m pc Ls (.int y :: .int x :: st))) := by
  subst hp
  exact Go.step (fun _ hr => XS.iadd X.here hx rfl (hb hby hd) rfl hr) K
theorem isub (X : Stand p l e R s m args below meth c T locs cells slots) (hx : p.tables.exec = Jvm.exec) (hby : c.code = code) {x y : Int32} (hd : decode code pc = .ok (.isub, 1)) (hp : pc + 1 = pc')
    (K : Go p.tables e below Q kc ks s (T.setTop (mkF m pc' Ls (.int (x - y) :: st)))) : Go p.tables e below Q kc ks s (T.setTop (mkF m pc Ls (.int y :: .int x :: st))) := by
  subst hp
  exact Go.step (fun _ hr => XS.isub X.here hx rfl (hb hby hd) rfl hr) K
theorem imul (X : Stand p l e R s m args below meth c T locs cells slots) (hx : p.tables.exec = Jvm.exec) (hby : c.code = code) {x y : Int32} (hd : decode code pc = .ok (.imul, 1)) (hp : pc + 1 = pc')
    (K : Go p.tables e below Q kc ks s (T.setTop (mkF m pc' Ls (.int (x * y) :: st)))) : Go p.tables e below Q kc ks s (T.setTop (mkF m pc Ls (.int y :: .int x :: st))) := by
  subst hp
  exact Go.step (fun _ hr => XS.imul X.here hx rfl (hb hby hd) rfl hr) K
theorem iand (X : Stand p l e R s m args below meth c T locs cells slots) (hx : p.tables.exec = Jvm.exec) (hby : c.code = code) {x y : Int32} (hd : decode code pc = .ok (.iand, 1)) (hp : pc + 1 = pc')
    (K : Go p.tables e below Q kc ks s (T.setTop (mkF m pc' Ls (.int (x &&& y) :: st)))) : Go p.tables e below Q kc ks s (T.setTop (mkF m pc Ls (.int y :: .int x :: st))) := by
  subst hp
  exact Go.step (fun _ hr => XS.iand X.here hx rfl (hb hby hd) rfl hr) K
theorem ior (X : Stand p l e R s m args below meth c T locs cells slots) (hx : p.tables.exec = Jvm.exec) (hby : c.code = code) {x y : Int32} (hd : decode code pc = .ok (.ior, 1)) (hp : pc + 1 = pc')
    (K : Go p.tables e below Q kc ks s (T.setTop (mkF m pc' Ls (.int (x ||| y) :: st)))) : Go p.tables e below Q kc ks s (T.setTop (mkF m pc Ls (.int y :: .int x :: st))) := by
  subst hp
  exact Go.step (fun _ hr => XS.ior X.here hx rfl (hb hby hd) rfl hr) K
theorem ixor (X : Stand p l e R s m args below meth c T locs cells slots) (hx : p.tables.exec = Jvm.exec) (hby : c.code = code) {x y : Int32} (hd : decode code pc = .ok (.ixor, 1)) (hp : pc + 1 = pc')
    (K : Go p.tables e below Q kc ks s (T.setTop (mkF m pc' Ls (.int (x ^^^ y) :: st)))) : Go p.tables e below Q kc ks s (T.setTop (mkF m pc Ls (.int y :: .int x :: st))) := by
  subst hp
  exact Go.step (fun _ hr => XS.ixor X.here hx rfl (hb hby hd) rfl hr) K
theorem ishl (X : Stand p l e R s m args below meth c T locs cells slots) (hx : p.tables.exec = Jvm.exec) (hby : c.code = code) {x y : Int32} (hd : decode code pc = .ok (.ishl, 1)) (hp : pc + 1 = pc')
    (K : Go p.tables e below Q kc ks s (T.setTop (mkF m pc' Ls (.int (x <<< (y &&& 31)) :: st)))) : Go p.tables e below Q kc ks s (T.setTop (mkF m pc Ls (.int y :: .int x :: st))) := by
  subst hp
  exact Go.step (fun _ hr => XS.ishl X.here hx rfl (hb hby hd) rfl hr) K
theorem ishr (X : Stand p l e R s m args below meth c T locs cells slots) (hx : p.tables.exec = Jvm.exec) (hby : c.code = code) {x y : Int32} (hd : decode code pc = .ok (.ishr, 1)) (hp : pc + 1 = pc')
    (K : Go p.tables e below Q kc ks s (T.setTop (mkF m pc' Ls (.int (x >>> (y &&& 31)) :: st)))) : Go p.tables e below Q kc ks s (T.setTop (mkF m pc Ls (.int y :: .int x :: st))) := by
  subst hp
  exact Go.step (fun _ hr => XS.ishr X.here hx rfl (hb hby hd) rfl hr) K
theorem iushr (X : Stand p l e R s m args below meth c T locs cells slots) (hx : p.tables.exec = Jvm.exec) (hby : c.code = code) {x y : Int32} (hd : decode code pc = .ok (.iushr, 1)) (hp : pc + 1 = pc')
    (K : Go p.tables e below Q kc ks s (T.setTop (mkF m pc' Ls (.int ((x.toUInt32 >>> (y &&& 31).toUInt32).toInt32) :: st)))) : Go p.tables e below Q kc ks s (T.setTop (mkF m pc Ls (.int y :: .int x :: st))) := by
  subst hp
  exact Go.step (fun _ hr => XS.iushr X.here hx rfl (hb hby hd) rfl hr) K
theorem idiv (X : Stand p l e R s m args below meth c T locs cells slots) (hx : p.tables.exec = Jvm.exec) (hby : c.code = code) {x y : Int32} (hd : decode code pc = .ok (.idiv, 1)) (hy : y ≠ 0) (hp : pc + 1 = pc')
    (K : Go p.tables e below Q kc ks s (T.setTop (mkF m pc' Ls (.int (x / y) :: st)))) : Go p.tables e below Q kc ks s (T.setTop (mkF m pc Ls (.int y :: .int x :: st))) := by
  subst hp
  exact Go.step (fun _ hr => XS.idiv X.here hx rfl (hb hby hd) rfl hy hr) K
theorem ladd (X : Stand p l e R s m args below meth c T locs cells slots) (hx : p.tables.exec = Jvm.exec) (hby : c.code = code) {x y : Int64} (hd : decode code pc = .ok (.ladd, 1)) (hp : pc + 1 = pc')
    (K : Go p.tables e below Q kc ks s (T.setTop (mkF m pc' Ls (.long (x + y) :: st)))) : Go p.tables e below Q kc ks s (T.setTop (mkF m pc Ls (.long y :: .long x :: st))) := by
  subst hp
  exact Go.step (fun _ hr => XS.ladd X.here hx rfl (hb hby hd) rfl hr) K
theorem lsub (X : Stand p l e R s m args below meth c T locs cells slots) (hx : p.tables.exec = Jvm.exec) (hby : c.code = code) {x y : Int64} (hd : decode code pc = .ok (.lsub, 1)) (hp : pc + 1 = pc')
    (K : Go p.tables e below Q kc ks s (T.setTop (mkF m pc' Ls (.long (x - y) :: st)))) : Go p.tables e below Q kc ks s (T.setTop (mkF m pc Ls (.long y :: .long x :: st))) := by
  subst hp
  exact Go.step (fun _ hr => XS.lsub X.here hx rfl (hb hby hd) rfl hr) K
theorem lmul (X : Stand p l e R s m args below meth c T locs cells slots) (hx : p.tables.exec = Jvm.exec) (hby : c.code = code) {x y : Int64} (hd : decode code pc = .ok (.lmul, 1)) (hp : pc + 1 = pc')
    (K : Go p.tables e below Q kc ks s (T.setTop (mkF m pc' Ls (.long (x * y) :: st)))) : Go p.tables e below Q kc ks s (T.setTop (mkF m pc Ls (.long y :: .long x :: st))) := by
  subst hp
  exact Go.step (fun _ hr => XS.lmul X.here hx rfl (hb hby hd) rfl hr) K
theorem land (X : Stand p l e R s m args below meth c T locs cells slots) (hx : p.tables.exec = Jvm.exec) (hby : c.code = code) {x y : Int64} (hd : decode code pc = .ok (.land, 1)) (hp : pc + 1 = pc')
    (K : Go p.tables e below Q kc ks s (T.setTop (mkF m pc' Ls (.long (x &&& y) :: st)))) : Go p.tables e below Q kc ks s (T.setTop (mkF m pc Ls (.long y :: .long x :: st))) := by
  subst hp
  exact Go.step (fun _ hr => XS.land X.here hx rfl (hb hby hd) rfl hr) K
theorem lor (X : Stand p l e R s m args below meth c T locs cells slots) (hx : p.tables.exec = Jvm.exec) (hby : c.code = code) {x y : Int64} (hd : decode code pc = .ok (.lor, 1)) (hp : pc + 1 = pc')
    (K : Go p.tables e below Q kc ks s (T.setTop (mkF m pc' Ls (.long (x ||| y) :: st)))) : Go p.tables e below Q kc ks s (T.setTop (mkF m pc Ls (.long y :: .long x :: st))) := by
  subst hp
  exact Go.step (fun _ hr => XS.lor X.here hx rfl (hb hby hd) rfl hr) K
theorem lxor (X : Stand p l e R s m args below meth c T locs cells slots) (hx : p.tables.exec = Jvm.exec) (hby : c.code = code) {x y : Int64} (hd : decode code pc = .ok (.lxor, 1)) (hp : pc + 1 = pc')
    (K : Go p.tables e below Q kc ks s (T.setTop (mkF m pc' Ls (.long (x ^^^ y) :: st)))) : Go p.tables e below Q kc ks s (T.setTop (mkF m pc Ls (.long y :: .long x :: st))) := by
  subst hp
  exact Go.step (fun _ hr => XS.lxor X.here hx rfl (hb hby hd) rfl hr) K
theorem ldiv (X : Stand p l e R s m args below meth c T locs cells slots) (hx : p.tables.exec = Jvm.exec) (hby : c.code = code) {x y : Int64} (hd : decode code pc = .ok (.ldiv, 1)) (hy : y ≠ 0) (hp : pc + 1 = pc')
    (K : Go p.tables e below Q kc ks s (T.setTop (mkF m pc' Ls (.long (x / y) :: st)))) : Go p.tables e below Q kc ks s (T.setTop (mkF m pc Ls (.long y :: .long x :: st))) := by
  subst hp
  exact Go.step (fun _ hr => XS.ldiv X.here hx rfl (hb hby hd) rfl hy hr) K
theorem lcmp (X : Stand p l e R s m args below meth c T locs cells slots) (hx : p.tables.exec = Jvm.exec) (hby : c.code = code) {x y : Int64} (hd : decode code pc = .ok (.lcmp, 1)) (hp : pc + 1 = pc')
    (K : Go p.tables e below Q kc ks s (T.setTop (mkF m pc' Ls (.int (lcmpW x y) :: st)))) : Go p.tables e below Q kc ks s (T.setTop (mkF m pc Ls (.long y :: .long x :: st))) := by
  subst hp
  exact Go.step (fun _ hr => XS.lcmp X.here hx rfl (hb hby hd) rfl hr) K
theorem ineg (X : Stand p l e R s m args below meth c T locs cells slots) (hx : p.tables.exec = Jvm.exec) (hby : c.code = code) {x : Int32} (hd : decode code pc = .ok (.ineg, 1)) (hp : pc + 1 = pc')
    (K : Go p.tables e below Q kc ks s (T.setTop (mkF m pc' Ls (.int (-x) :: st)))) : Go p.tables e below Q kc ks s (T.setTop (mkF m pc Ls (.int x :: st))) := by
  subst hp
  exact Go.step (fun _ hr => XS.ineg X.here hx rfl (hb hby hd) rfl hr) K
theorem lneg (X : Stand p l e R s m args below meth c T locs cells slots) (hx : p.tables.exec = Jvm.exec) (hby : c.code = code) {x : Int64} (hd : decode code pc = .ok (.lneg, 1)) (hp : pc + 1 = pc')
    (K : Go p.tables e below Q kc ks s (T.setTop (mkF m pc' Ls (.long (-x) :: st)))) : Go p.tables e below Q kc ks s (T.setTop (mkF m pc Ls (.long x :: st))) := by
  subst hp
  exact Go.step (fun _ hr => XS.lneg X.here hx rfl (hb hby hd) rfl hr) K
theorem i2l (X : Stand p l e R s m args below meth c T locs cells slots) (hx : p.tables.exec = Jvm.exec) (hby : c.code = code) {x : Int32} (hd : decode code pc = .ok (.i2l, 1)) (hp : pc + 1 = pc')
    (K : Go p.tables e below Q kc ks s (T.setTop (mkF m pc' Ls (.long x.toInt64 :: st)))) : Go p.tables e below Q kc ks s (T.setTop (mkF m pc Ls (.int x :: st))) := by
  subst hp
  exact Go.step (fun _ hr => XS.i2l X.here hx rfl (hb hby hd) rfl hr) K
theorem l2i (X : Stand p l e R s m args below meth c T locs cells slots) (hx : p.tables.exec = Jvm.exec) (hby : c.code = code) {x : Int64} (hd : decode code pc = .ok (.l2i, 1)) (hp : pc + 1 = pc')
    (K : Go p.tables e below Q kc ks s (T.setTop (mkF m pc' Ls (.int x.toInt32 :: st)))) : Go p.tables e below Q kc ks s (T.setTop (mkF m pc Ls (.long x :: st))) := by
  subst hp
  exact Go.step (fun _ hr => XS.l2i X.here hx rfl (hb hby hd) rfl hr) K
theorem i2c (X : Stand p l e R s m args below meth c T locs cells slots) (hx : p.tables.exec = Jvm.exec) (hby : c.code = code) {x : Int32} (hd : decode code pc = .ok (.i2c, 1)) (hp : pc + 1 = pc')
    (K : Go p.tables e below Q kc ks s (T.setTop (mkF m pc' Ls (.int x.toUInt32.toUInt16.toUInt32.toInt32 :: st)))) : Go p.tables e below Q kc ks s (T.setTop (mkF m pc Ls (.int x :: st))) := by
  subst hp
  exact Go.step (fun _ hr => XS.i2c X.here hx rfl (hb hby hd) rfl hr) K
theorem i2b (X : Stand p l e R s m args below meth c T locs cells slots) (hx : p.tables.exec = Jvm.exec) (hby : c.code = code) {x : Int32} (hd : decode code pc = .ok (.i2b, 1)) (hp : pc + 1 = pc')
    (K : Go p.tables e below Q kc ks s (T.setTop (mkF m pc' Ls (.int x.toInt8.toInt32 :: st)))) : Go p.tables e below Q kc ks s (T.setTop (mkF m pc Ls (.int x :: st))) := by
  subst hp
  exact Go.step (fun _ hr => XS.i2b X.here hx rfl (hb hby hd) rfl hr) K
theorem dup (X : Stand p l e R s m args below meth c T locs cells slots) (hx : p.tables.exec = Jvm.exec) (hby : c.code = code) {x : Value} (hd : decode code pc = .ok (.dup, 1)) (hc : x.category = 1) (hp : pc + 1 = pc')
    (K : Go p.tables e below Q kc ks s (T.setTop (mkF m pc' Ls (x :: x :: st)))) : Go p.tables e below Q kc ks s (T.setTop (mkF m pc Ls (x :: st))) := by
  subst hp
  exact Go.step (fun _ hr => XS.dup X.here hx rfl (hb hby hd) rfl hc hr) K
theorem pop (X : Stand p l e R s m args below meth c T locs cells slots) (hx : p.tables.exec = Jvm.exec) (hby : c.code = code) {x : Value} (hd : decode code pc = .ok (.pop, 1)) (hc : x.category = 1) (hp : pc + 1 = pc')
    (K : Go p.tables e below Q kc ks s (T.setTop (mkF m pc' Ls st))) : Go p.tables e below Q kc ks s (T.setTop (mkF m pc Ls (x :: st))) := by
  subst hp
  exact Go.step (fun _ hr => XS.pop X.here hx rfl (hb hby hd) rfl hc hr) K
theorem dupX1 (X : Stand p l e R s m args below meth c T locs cells slots) (hx : p.tables.exec = Jvm.exec) (hby : c.code = code) {x y : Value} (hd : decode code pc = .ok (.dup_x1, 1)) (hc : x.category = 1) (hc' : y.category = 1) (hp : pc + 1 = pc')
    (K : Go p.tables e below Q kc ks s (T.setTop (mkF m pc' Ls (x :: y :: x :: st)))) : Go p.tables e below Q kc ks s (T.setTop (mkF m pc Ls (x :: y :: st))) := by
  subst hp
  exact Go.step (fun _ hr => XS.dupX1 X.here hx rfl (hb hby hd) rfl hc hc' hr) K
theorem iinc (X : Stand p l e R s m args below meth c T locs cells slots) (hx : p.tables.exec = Jvm.exec) (hby : c.code = code) {k : Nat} {cst : Int} {x : Int32} (hd : decode code pc = .ok (.iinc k cst, 3)) (hl : Ls[k]? = some (.val (.int x))) (hl' : storeLocals Ls k (.int (x + Int32.ofInt cst)) = some Ls') (hp : pc + 3 = pc')
    (K : Go p.tables e below Q kc ks s (T.setTop (mkF m pc' Ls' st))) : Go p.tables e below Q kc ks s (T.setTop (mkF m pc Ls st)) := by
  subst hp
  exact Go.step (fun _ hr => XS.iinc X.here hx rfl (hb hby hd) hl hl' hr) K
theorem irem (X : Stand p l e R s m args below meth c T locs cells slots) (hx : p.tables.exec = Jvm.exec) (hby : c.code = code) {x y : Int32} (hd : decode code pc = .ok (.irem, 1)) (hy : y ≠ 0) (hp : pc + 1 = pc')
    (K : Go p.tables e below Q kc ks s (T.setTop (mkF m pc' Ls (.int (x % y) :: st)))) : Go p.tables e below Q kc ks s (T.setTop (mkF m pc Ls (.int y :: .int x :: st))) := by
  subst hp
  exact Go.step (fun _ hr => Jvm.RoadKit.iremM (g := mkF m pc Ls (.int y :: .int x :: st)) X hx rfl (hb hby hd) rfl hy hr) K
theorem goto (X : Stand p l e R s m args below meth c T locs cells slots) (hx : p.tables.exec = Jvm.exec) (hby : c.code = code) {o : Int} (hd : decode code pc = .ok (.goto o, 3)) (ho : 0 ≤ (pc : Int) + o) (hp : ((pc : Int) + o).toNat = pc')
    (K : Go p.tables e below Q kc ks s (T.setTop (mkF m pc' Ls st))) : Go p.tables e below Q kc ks s (T.setTop (mkF m pc Ls st)) :=
  Go.step (fun _ hr => XS.goto X.here hx rfl (pc0 := pc) (pc' := pc') rfl (hb hby hd)  ho hp hr) K
theorem ifYes (X : Stand p l e R s m args below meth c T locs cells slots) (hx : p.tables.exec = Jvm.exec) (hby : c.code = code) {cd : ClassFile.Cond} {x : Int32} {o : Int} (hd : decode code pc = .ok (.ifCond cd o, 3)) (hc : if_icmp.holds cd x 0 = true) (ho : 0 ≤ (pc : Int) + o) (hp : ((pc : Int) + o).toNat = pc')
    (K : Go p.tables e below Q kc ks s (T.setTop (mkF m pc' Ls st))) : Go p.tables e below Q kc ks s (T.setTop (mkF m pc Ls (.int x :: st))) :=
  Go.step (fun _ hr => XS.ifYes X.here hx rfl (pc0 := pc) (pc' := pc') rfl (hb hby hd) rfl ((if0 _ _).trans hc) ho hp hr) K
theorem ifNo (X : Stand p l e R s m args below meth c T locs cells slots) (hx : p.tables.exec = Jvm.exec) (hby : c.code = code) {cd : ClassFile.Cond} {x : Int32} {o : Int} (hd : decode code pc = .ok (.ifCond cd o, 3)) (hc : if_icmp.holds cd x 0 = false) (hp : pc + 3 = pc')
    (K : Go p.tables e below Q kc ks s (T.setTop (mkF m pc' Ls st))) : Go p.tables e below Q kc ks s (T.setTop (mkF m pc Ls (.int x :: st))) := by
  subst hp
  exact Go.step (fun _ hr => XS.ifNo X.here hx rfl (hb hby hd) rfl ((if0 _ _).trans hc) hr) K
theorem icmpYes (X : Stand p l e R s m args below meth c T locs cells slots) (hx : p.tables.exec = Jvm.exec) (hby : c.code = code) {cd : ClassFile.Cond} {x y : Int32} {o : Int} (hd : decode code pc = .ok (.if_icmp cd o, 3)) (hc : if_icmp.holds cd x y = true) (ho : 0 ≤ (pc : Int) + o) (hp : ((pc : Int) + o).toNat = pc')
    (K : Go p.tables e below Q kc ks s (T.setTop (mkF m pc' Ls st))) : Go p.tables e below Q kc ks s (T.setTop (mkF m pc Ls (.int y :: .int x :: st))) :=
  Go.step (fun _ hr => XS.icmpYes X.here hx rfl (pc0 := pc) (pc' := pc') rfl (hb hby hd) rfl hc ho hp hr) K
theorem icmpNo (X : Stand p l e R s m args below meth c T locs cells slots) (hx : p.tables.exec = Jvm.exec) (hby : c.code = code) {cd : ClassFile.Cond} {x y : Int32} {o : Int} (hd : decode code pc = .ok (.if_icmp cd o, 3)) (hc : if_icmp.holds cd x y = false) (hp : pc + 3 = pc')
    (K : Go p.tables e below Q kc ks s (T.setTop (mkF m pc' Ls st))) : Go p.tables e below Q kc ks s (T.setTop (mkF m pc Ls (.int y :: .int x :: st))) := by
  subst hp
  exact Go.step (fun _ hr => XS.icmpNo X.here hx rfl (hb hby hd) rfl hc hr) K
theorem ifnullYes (X : Stand p l e R s m args below meth c T locs cells slots) (hx : p.tables.exec = Jvm.exec) (hby : c.code = code) {o : Int} (hd : decode code pc = .ok (.ifnull o, 3)) (ho : 0 ≤ (pc : Int) + o) (hp : ((pc : Int) + o).toNat = pc')
    (K : Go p.tables e below Q kc ks s (T.setTop (mkF m pc' Ls st))) : Go p.tables e below Q kc ks s (T.setTop (mkF m pc Ls (.null :: st))) :=
  Go.step (fun _ hr => XS.ifnullYes X.here hx rfl (pc0 := pc) (pc' := pc') rfl (hb hby hd) rfl ho hp hr) K
theorem ifnullNo (X : Stand p l e R s m args below meth c T locs cells slots) (hx : p.tables.exec = Jvm.exec) (hby : c.code = code) {b : Addr} {o : Int} (hd : decode code pc = .ok (.ifnull o, 3)) (hp : pc + 3 = pc')
    (K : Go p.tables e below Q kc ks s (T.setTop (mkF m pc' Ls st))) : Go p.tables e below Q kc ks s (T.setTop (mkF m pc Ls (.ref b :: st))) := by
  subst hp
  exact Go.step (fun _ hr => XS.ifnullNo X.here hx rfl (hb hby hd) rfl hr) K
theorem ifnonnullYes (X : Stand p l e R s m args below meth c T locs cells slots) (hx : p.tables.exec = Jvm.exec) (hby : c.code = code) {b : Addr} {o : Int} (hd : decode code pc = .ok (.ifnonnull o, 3)) (ho : 0 ≤ (pc : Int) + o) (hp : ((pc : Int) + o).toNat = pc')
    (K : Go p.tables e below Q kc ks s (T.setTop (mkF m pc' Ls st))) : Go p.tables e below Q kc ks s (T.setTop (mkF m pc Ls (.ref b :: st))) :=
  Go.step (fun _ hr => XS.ifnonnullYes X.here hx rfl (pc0 := pc) (pc' := pc') rfl (hb hby hd) rfl ho hp hr) K
theorem ifnonnullNo (X : Stand p l e R s m args below meth c T locs cells slots) (hx : p.tables.exec = Jvm.exec) (hby : c.code = code) {o : Int} (hd : decode code pc = .ok (.ifnonnull o, 3)) (hp : pc + 3 = pc')
    (K : Go p.tables e below Q kc ks s (T.setTop (mkF m pc' Ls st))) : Go p.tables e below Q kc ks s (T.setTop (mkF m pc Ls (.null :: st))) := by
  subst hp
  exact Go.step (fun _ hr => XS.ifnonnullNo X.here hx rfl (hb hby hd) rfl hr) K
theorem acmp (X : Stand p l e R s m args below meth c T locs cells slots) (hx : p.tables.exec = Jvm.exec) (hby : c.code = code) {cd : ACond} {x y : Value} {o : Int} {same : Bool} (hd : decode code pc = .ok (.if_acmp cd o, 3)) (h1 : x.isRef = true) (h2 : y.isRef = true) (hq : decide (x = y) = same) (ho : 0 ≤ (pc : Int) + o) (hp : pc' = if acV cd same = true then ((pc : Int) + o).toNat else pc + 3)
    (K : Go p.tables e below Q kc ks s (T.setTop (mkF m pc' Ls st))) : Go p.tables e below Q kc ks s (T.setTop (mkF m pc Ls (y :: x :: st))) :=
  Go.step (fun _ hr => Jvm.RoadKit.acmp (g := mkF m pc Ls (y :: x :: st)) X hx rfl h1 h2 (pc0 := pc) (pc' := pc') (same := same) rfl (hb hby hd) rfl hq ho hp hr) K
theorem retZ (X : Stand p l e R s m args below meth c T locs cells slots) (hx : p.tables.exec = Jvm.exec) (hby : c.code = code) {t : FieldType} {z : Int32} (hret : meth.sig.returnType = some t) (ht : t = .boolean ∨ t = .byte ∨ t = .char ∨ t = .short) (hd : decode code pc = .ok (.ireturn, 1)) (hlk : meth.locks = false) (hkc : cells ≤ kc) (hks : slots ≤ ks) (hQ : Q (some (.int (nar t z))) T.heap locs) : Go p.tables e below Q kc ks s (T.setTop (mkF m pc Ls (.int z :: st))) := by
  obtain ⟨fs, hr, hrun, hended, hW, hsame⟩ := X.leave (v := some (.int (nar t z))) (fun h => by rw [hret] at h; cases h) hlk
  exact ⟨_, _, retN X hx hret ht (hb hby hd) hr, hrun, hended, _, _, rfl, hQ, ⟨_, rfl⟩, hW, hsame.mono hkc hks⟩
theorem retI (X : Stand p l e R s m args below meth c T locs cells slots) (hx : p.tables.exec = Jvm.exec) (hby : c.code = code) {z : Int32} (hret : meth.sig.returnType = some .int) (hd : decode code pc = .ok (.ireturn, 1)) (hlk : meth.locks = false) (hkc : cells ≤ kc) (hks : slots ≤ ks) (hQ : Q (some (.int z)) T.heap locs) : Go p.tables e below Q kc ks s (T.setTop (mkF m pc Ls (.int z :: st))) := by
  obtain ⟨fs, hr, hrun, hended, hW, hsame⟩ := X.leave (v := some (.int z)) (fun h => by rw [hret] at h; cases h) hlk
  exact ⟨_, _, Jvm.RoadKit.retOut X hx hret rfl (Or.inl ⟨rfl, Or.inl rfl, z, rfl⟩) (hb hby hd) hr, hrun, hended, _, _, rfl, hQ, ⟨_, rfl⟩, hW, hsame.mono hkc hks⟩
theorem retA (X : Stand p l e R s m args below meth c T locs cells slots) (hx : p.tables.exec = Jvm.exec) (hby : c.code = code) {t : FieldType} {w : Value} (hret : meth.sig.returnType = some t) (ht : t.isReference = true) (hw : w.isRef = true) (hn : narrow t w = w) (hd : decode code pc = .ok (.areturn, 1)) (hlk : meth.locks = false) (hkc : cells ≤ kc) (hks : slots ≤ ks) (hQ : Q (some w) T.heap locs) : Go p.tables e below Q kc ks s (T.setTop (mkF m pc Ls (w :: st))) := by
  obtain ⟨fs, hr, hrun, hended, hW, hsame⟩ := X.leave (v := some w) (fun h => by rw [hret] at h; cases h) hlk
  exact ⟨_, _, Jvm.RoadKit.retOut X hx hret hn (Or.inr (Or.inr (Or.inr (Or.inr ⟨rfl, ht, hw⟩)))) (hb hby hd) hr, hrun, hended, _, _, rfl, hQ, ⟨_, rfl⟩, hW, hsame.mono hkc hks⟩
theorem retV (X : Stand p l e R s m args below meth c T locs cells slots) (hx : p.tables.exec = Jvm.exec) (hby : c.code = code) (hret : meth.sig.returnType = none) (hd : decode code pc = .ok (.return_, 1)) (hlk : meth.locks = false) (hkc : cells ≤ kc) (hks : slots ≤ ks) (hQ : Q none T.heap locs) : Go p.tables e below Q kc ks s (T.setTop (mkF m pc Ls [])) := by
  obtain ⟨fs, hr, hrun, hended, hW, hsame⟩ := X.leave (v := none) (fun _ => rfl) hlk
  exact ⟨_, _, X.returnOut hx hret (hb hby hd) hr, hrun, hended, _, _, rfl, hQ, ⟨_, rfl⟩, hW, hsame.mono hkc hks⟩
end Steps1
section Words1
variable {args : Array Value} {first s : State} {o : Option Outcome} {idx : List Nat} {t : Term} {k : Int32}
theorem eqI_v (h : (Jvm.Cond.eq t (.int k)).value args first o s idx = some true) : t.eval args first o idx s = some (.int k) := by
  simp only [Jvm.Cond.value, Term.eval] at h
  cases ht : t.eval args first o idx s with
  | none => simp [ht] at h
  | some x => cases x <;> simp [ht] at h ⊢; exact h
end Words1
end Jvm.OG
namespace Jvm.OG
open Sem ClassFile Op Lib Jvm.Stand Jvm.Free Jvm.LawKit Jvm.RoadKit
section Laws2
variable {p : Program} {l : Launch} {e : Env} {R : Room} {s : State} {m : MethodId} {args : Array Value} {below : List Frame} {meth : Method} {c : Code} {T : State} {locs : List Loc} {cells slots : Nat} {Q : Option Value → Heap → List Loc → Prop} {kc ks : Nat} {code : ByteArray} {pc pc' : Nat} {Ls Ls' : Array Slot} {st : List Value} {Z : State} {a0 : Array Value} {h : Heap}
theorem gS (X : Stand p l e R s m args below meth c T locs cells slots) (hx : p.tables.exec = Jvm.exec) (hZ : Z.Warmed39 s.vm) (hby : c.code = code) {own : String} {index : Nat} (hown : s.vm.findClass own = some m.cls) {R0 O n d : String} (w : (Cond.fieldLink own index R0 n d).before a0 Z = true) (via : Via Z R0 O n d) (eT : T.heap = h) {v : Value} (F : Sta Z h O n d v) (hd : decode code pc = .ok (.getstatic index, 3)) (hp : pc + 3 = pc')
    (K : ∀ T', Stand p l e R s m args below meth c T' locs cells slots → T'.heap = h → Go p.tables e below Q kc ks s (T'.setTop (mkF m pc' Ls (v :: st)))) : Go p.tables e below Q kc ks s (T.setTop (mkF m pc Ls st)) := by
  subst hp
  obtain ⟨T', X', e', st'⟩ := getS2 X hx hZ hown (host := "") (Or.inl w) via eT F (g := mkF m pc Ls st) rfl (hb hby hd)
  exact Go.step st' (K T' X' e')
theorem gF (X : Stand p l e R s m args below meth c T locs cells slots) (hx : p.tables.exec = Jvm.exec) (hZ : Z.Warmed39 s.vm) (hby : c.code = code) {own : String} {index : Nat} (hown : s.vm.findClass own = some m.cls) {R0 O n d : String} (w : (Cond.fieldLink own index R0 n d).before a0 Z = true) (via : Via Z R0 O n d) (eT : T.heap = h) {a : Addr} {v : Value} (F : Fld Z h a O n d v) (hd : decode code pc = .ok (.getfield index, 3)) (hp : pc + 3 = pc')
    (K : ∀ T', Stand p l e R s m args below meth c T' locs cells slots → T'.heap = h → Go p.tables e below Q kc ks s (T'.setTop (mkF m pc' Ls (v :: st)))) : Go p.tables e below Q kc ks s (T.setTop (mkF m pc Ls (.ref a :: st))) := by
  subst hp
  obtain ⟨T', X', e', st'⟩ := getF X hx hZ hown (host := "") (Or.inl w) via eT F (g := mkF m pc Ls (.ref a :: st)) rfl rfl (hb hby hd)
  exact Go.step st' (K T' X' e')
theorem gSN (X : Stand p l e R s m args below meth c T locs cells slots) (hx : p.tables.exec = Jvm.exec) (hZ : Z.Warmed39 s.vm) (hby : c.code = code) {own : String} {index : Nat} (hown : s.vm.findClass own = some m.cls) {R0 O n d host : String} (w : (Cond.fieldLinkNest own index R0 n d host).before a0 Z = true) (via : Via Z R0 O n d) (eT : T.heap = h) {v : Value} (F : Sta Z h O n d v) (hd : decode code pc = .ok (.getstatic index, 3)) (hp : pc + 3 = pc')
    (K : ∀ T', Stand p l e R s m args below meth c T' locs cells slots → T'.heap = h → Go p.tables e below Q kc ks s (T'.setTop (mkF m pc' Ls (v :: st)))) : Go p.tables e below Q kc ks s (T.setTop (mkF m pc Ls st)) := by
  subst hp
  obtain ⟨T', X', e', st'⟩ := getS2 X hx hZ hown (Or.inr w) via eT F (g := mkF m pc Ls st) rfl (hb hby hd)
  exact Go.step st' (K T' X' e')
theorem gFN (X : Stand p l e R s m args below meth c T locs cells slots) (hx : p.tables.exec = Jvm.exec) (hZ : Z.Warmed39 s.vm) (hby : c.code = code) {own : String} {index : Nat} (hown : s.vm.findClass own = some m.cls) {R0 O n d host : String} (w : (Cond.fieldLinkNest own index R0 n d host).before a0 Z = true) (via : Via Z R0 O n d) (eT : T.heap = h) {a : Addr} {v : Value} (F : Fld Z h a O n d v) (hd : decode code pc = .ok (.getfield index, 3)) (hp : pc + 3 = pc')
    (K : ∀ T', Stand p l e R s m args below meth c T' locs cells slots → T'.heap = h → Go p.tables e below Q kc ks s (T'.setTop (mkF m pc' Ls (v :: st)))) : Go p.tables e below Q kc ks s (T.setTop (mkF m pc Ls (.ref a :: st))) := by
  subst hp
  obtain ⟨T', X', e', st'⟩ := getF X hx hZ hown (Or.inr w) via eT F (g := mkF m pc Ls (.ref a :: st)) rfl rfl (hb hby hd)
  exact Go.step st' (K T' X' e')
theorem pF (X : Stand p l e R s m args below meth c T locs cells slots) (hx : p.tables.exec = Jvm.exec) (hZ : Z.Warmed39 s.vm) (hby : c.code = code) {own : String} {index : Nat} (hown : s.vm.findClass own = some m.cls) {R0 O n d : String} (w : (Cond.fieldLink own index R0 n d).before a0 Z = true) (via : Via Z R0 O n d) (eT : T.heap = h) {C : String} {kk : Nat} {ty : FieldType} {a : Addr} {v old : Value} (F : Fld Z h a O n d old) (E : Exa Z h a C) (L : (Cond.lays C O n d).before a0 Z = true ∨ ((Cond.laysFinal C O n d).before a0 Z = true ∧ own = O ∧ meth.name = "<init>")) (wi : (Cond.instantiable C kk).before a0 Z = true) (hty : parseFieldDescriptor d = some ty) (hn : narrow ty v = v) (hf : fits ty v = true) (hd : decode code pc = .ok (.putfield index, 3)) (hp : pc + 3 = pc')
    (K : ∀ T' h', Stand p l e R s m args below meth c T' (locs ++ [⟨a, Jvm.RoadKit.slotOf Z O n d⟩]) cells slots → T'.heap = h' → Wr h h' a (Jvm.RoadKit.slotOf Z O n d) v → Go p.tables e below Q kc ks s (T'.setTop (mkF m pc' Ls st))) : Go p.tables e below Q kc ks s (T.setTop (mkF m pc Ls (v :: .ref a :: st))) := by
  subst hp
  obtain ⟨T', h', X', e', W', st'⟩ := putF X hx hZ hown (host := "") (Or.inl w) via eT F E L wi hty hn hf (g := mkF m pc Ls (v :: .ref a :: st)) rfl rfl (hb hby hd)
  exact Go.step st' (K T' h' X' e' W')
theorem pFN (X : Stand p l e R s m args below meth c T locs cells slots) (hx : p.tables.exec = Jvm.exec) (hZ : Z.Warmed39 s.vm) (hby : c.code = code) {own : String} {index : Nat} (hown : s.vm.findClass own = some m.cls) {R0 O n d : String} (w : (Cond.fieldLink own index R0 n d).before a0 Z = true) (via : Via Z R0 O n d) (eT : T.heap = h) {C : String} {kk : Nat} {ty : FieldType} {a : Addr} {v v' old : Value} (F : Fld Z h a O n d old) (E : Exa Z h a C) (L : (Cond.lays C O n d).before a0 Z = true ∨ ((Cond.laysFinal C O n d).before a0 Z = true ∧ own = O ∧ meth.name = "<init>")) (wi : (Cond.instantiable C kk).before a0 Z = true) (hty : parseFieldDescriptor d = some ty) (hn : narrow ty v = v') (hf : fits ty v' = true) (hd : decode code pc = .ok (.putfield index, 3)) (hp : pc + 3 = pc')
    (K : ∀ T' h', Stand p l e R s m args below meth c T' (locs ++ [⟨a, Jvm.RoadKit.slotOf Z O n d⟩]) cells slots → T'.heap = h' → Wr h h' a (Jvm.RoadKit.slotOf Z O n d) v' → Go p.tables e below Q kc ks s (T'.setTop (mkF m pc' Ls st))) : Go p.tables e below Q kc ks s (T.setTop (mkF m pc Ls (v :: .ref a :: st))) := by
  subst hp
  obtain ⟨T', h', X', e', W', st'⟩ := putFN X hx hZ hown w via eT F E L wi hty hn hf (g := mkF m pc Ls (v :: .ref a :: st)) rfl rfl (hb hby hd)
  exact Go.step st' (K T' h' X' e' W')
theorem nO (X : Stand p l e R s m args below meth c T locs cells slots) (hx : p.tables.exec = Jvm.exec) (hZ : Z.Warmed39 s.vm) (hby : c.code = code) {own : String} {index : Nat} (hown : s.vm.findClass own = some m.cls) {C : String} {n : Nat} (w : (Cond.classLink own index C).before a0 Z = true) (wi : (Cond.instantiable C n).before a0 Z = true) (wz : (Cond.initialized C).before a0 Z = true) (eT : T.heap = h) (hd : decode code pc = .ok (.new index, 3)) (hc : cells + 1 ≤ R.cells) (hl : slots + n ≤ R.slots) (hp : pc + 3 = pc')
    (K : ∀ T' h' b, b = h.size → Stand p l e R s m args below meth c T' locs (cells + 1) (slots + n) → T'.heap = h' → Ext h h' → Exa Z h' b C → (∀ {O nm d : String} {ty : FieldType}, Laid Z a0 C O nm d → parseFieldDescriptor d = some ty → Fld Z h' b O nm d (defaultValue ty)) → Go p.tables e below Q kc ks s (T'.setTop (mkF m pc' Ls (.ref b :: st)))) : Go p.tables e below Q kc ks s (T.setTop (mkF m pc Ls st)) := by
  subst hp
  obtain ⟨T', h', X', e', E', A', D', -, st'⟩ := newO X hx hZ hown w wi wz eT (g := mkF m pc Ls st) rfl (hb hby hd) hc hl
  exact Go.step st' (K T' h' _ rfl X' e' E' A' D')
theorem iO (X : Stand p l e R s m args below meth c T locs cells slots) (hx : p.tables.exec = Jvm.exec) (hZ : Z.Warmed39 s.vm) (hby : c.code = code) {own : String} {index : Nat} (hown : s.vm.findClass own = some m.cls) (hsz : Ls.size = c.maxLocals) (w1 : (Cond.methodLink own index Lib.objectInit).before a0 Z = true) (w2 : (Cond.instanceMethod Lib.objectInit).before a0 Z = true) (w3 : (Cond.code Lib.objectInit ⟨#[0xb1]⟩ 1 none).before a0 Z = true) (eT : T.heap = h) {a : Addr} {W : Nat} (hW : (st.map fun v => v.category).sum = W) (hf : 1 ≤ R.frames) (hl : W + 12 ≤ R.locals) (hd : decode code pc = .ok (.invokespecial index, 3)) (hp : pc + 3 = pc')
    (K : ∀ T', Stand p l e R s m args below meth c T' locs cells slots → T'.heap = h → Go p.tables e below Q kc ks s (T'.setTop (mkF m pc' Ls st))) : Go p.tables e below Q kc ks s (T.setTop (mkF m pc Ls (.ref a :: st))) := by
  subst hp hW
  obtain ⟨T', X', e', st'⟩ := initO X hx hZ hown w1 w2 w3 eT (g := mkF m pc Ls (.ref a :: st)) rfl hsz rfl (hb hby hd) hf (W := (st.map fun v => v.category).sum) (by show 2 * 0 + _ ≤ _; omega) hl
  exact Go.step st' (K T' X' e')
theorem ldcI (X : Stand p l e R s m args below meth c T locs cells slots) (hx : p.tables.exec = Jvm.exec) (hZ : Z.Warmed39 s.vm) (hby : c.code = code) {own : String} {index : Nat} (hown : s.vm.findClass own = some m.cls) {v : Int32} (w : (Cond.constant own index v).before a0 Z = true) (hd : decode code pc = .ok (.ldc index, 2)) (hp : pc + 2 = pc') (K : Go p.tables e below Q kc ks s (T.setTop (mkF m pc' Ls (.int v :: st)))) : Go p.tables e below Q kc ks s (T.setTop (mkF m pc Ls st)) := by
  subst hp
  exact Go.step (fun _ hr => Jvm.Stand.ldcI (g := mkF m pc Ls st) X hx hown (mv hZ w) rfl (hb hby hd) hr) K
theorem ldcWI (X : Stand p l e R s m args below meth c T locs cells slots) (hx : p.tables.exec = Jvm.exec) (hZ : Z.Warmed39 s.vm) (hby : c.code = code) {own : String} {index : Nat} (hown : s.vm.findClass own = some m.cls) {v : Int32} (w : (Cond.constant own index v).before a0 Z = true) (hd : decode code pc = .ok (.ldc_w index, 3)) (hp : pc + 3 = pc') (K : Go p.tables e below Q kc ks s (T.setTop (mkF m pc' Ls (.int v :: st)))) : Go p.tables e below Q kc ks s (T.setTop (mkF m pc Ls st)) := by
  subst hp
  exact Go.step (fun _ hr => Jvm.Stand.ldcWI (g := mkF m pc Ls st) X hx hown (mv hZ w) rfl (hb hby hd) hr) K
theorem ldc2J (X : Stand p l e R s m args below meth c T locs cells slots) (hx : p.tables.exec = Jvm.exec) (hZ : Z.Warmed39 s.vm) (hby : c.code = code) {own : String} {index : Nat} (hown : s.vm.findClass own = some m.cls) {v : Int64} (w : (Cond.constantLong own index v).before a0 Z = true) (hd : decode code pc = .ok (.ldc2_w index, 3)) (hp : pc + 3 = pc') (K : Go p.tables e below Q kc ks s (T.setTop (mkF m pc' Ls (.long v :: st)))) : Go p.tables e below Q kc ks s (T.setTop (mkF m pc Ls st)) := by
  subst hp
  exact Go.step (fun _ hr => Jvm.Stand.ldc2J (g := mkF m pc Ls st) X hx hown (mv hZ w) rfl (hb hby hd) hr) K
theorem cY (X : Stand p l e R s m args below meth c T locs cells slots) (hx : p.tables.exec = Jvm.exec) (hZ : Z.Warmed39 s.vm) (hby : c.code = code) {own : String} {index : Nat} (hown : s.vm.findClass own = some m.cls) {K0 : String} (w : (Cond.classLink own index K0).before a0 Z = true) (eT : T.heap = h) {a : Addr} (F : Jvm.RoadKit.Ins Z h a K0 true) (hd : decode code pc = .ok (.checkcast index, 3)) (hp : pc + 3 = pc')
    (K : ∀ T', Stand p l e R s m args below meth c T' locs cells slots → T'.heap = h → Go p.tables e below Q kc ks s (T'.setTop (mkF m pc' Ls (.ref a :: st)))) : Go p.tables e below Q kc ks s (T.setTop (mkF m pc Ls (.ref a :: st))) := by
  subst hp
  obtain ⟨T', X', e', st'⟩ := castY X hx hZ hown w eT F (g := mkF m pc Ls (.ref a :: st)) rfl rfl (hb hby hd)
  exact Go.step st' (K T' X' e')
theorem iY (X : Stand p l e R s m args below meth c T locs cells slots) (hx : p.tables.exec = Jvm.exec) (hZ : Z.Warmed39 s.vm) (hby : c.code = code) {own : String} {index : Nat} (hown : s.vm.findClass own = some m.cls) {K0 : String} (w : (Cond.classLink own index K0).before a0 Z = true) (eT : T.heap = h) {a : Addr} (F : Jvm.RoadKit.Ins Z h a K0 true) (hd : decode code pc = .ok (.instanceof index, 3)) (hp : pc + 3 = pc')
    (K : ∀ T', Stand p l e R s m args below meth c T' locs cells slots → T'.heap = h → Go p.tables e below Q kc ks s (T'.setTop (mkF m pc' Ls (.int 1 :: st)))) : Go p.tables e below Q kc ks s (T.setTop (mkF m pc Ls (.ref a :: st))) := by
  subst hp
  obtain ⟨T', X', e', st'⟩ := instY X hx hZ hown w eT F (g := mkF m pc Ls (.ref a :: st)) rfl rfl (hb hby hd)
  exact Go.step st' (K T' X' e')
theorem nR (X : Stand p l e R s m args below meth c T locs cells slots) (hx : p.tables.exec = Jvm.exec) (hZ : Z.Warmed39 s.vm) (hby : c.code = code) {own : String} {index : Nat} (hown : s.vm.findClass own = some m.cls) {C : String} (w1 : (Cond.classLink own index C).before a0 Z = true) (w2 : (Cond.arrayOver (.object C)).before a0 Z = true) (eT : T.heap = h) {n : Int32} (hn : ¬ n < 0) {cap : Nat} (hcap : n.toNatClampNeg ≤ cap) (hb' : cap * 8 ≤ 536870912) (hc : cells + 1 ≤ R.cells) (hl : slots + cap ≤ R.slots) (hd : decode code pc = .ok (.anewarray index, 3)) (hp : pc + 3 = pc')
    (K : ∀ T' h' cA b, b = h.size → Stand p l e R s m args below meth c T' locs (cells + 1) (slots + cap) → T'.heap = h' → Ext h h' → Arv Z h' b cA (.object C) n [] .null → Ovr Z cA C → Go p.tables e below Q kc ks s (T'.setTop (mkF m pc' Ls (.ref b :: st)))) : Go p.tables e below Q kc ks s (T.setTop (mkF m pc Ls (.int n :: st))) := by
  subst hp
  obtain ⟨T', h', cA, X', e', E', A', O', st'⟩ := newR X hx hZ hown w1 w2 eT (g := mkF m pc Ls (.int n :: st)) rfl (hb hby hd) rfl hn hcap hb' hc hl
  exact Go.step st' (K T' h' cA _ rfl X' e' E' (Arv.new A' hn) O')
theorem nP (X : Stand p l e R s m args below meth c T locs cells slots) (hx : p.tables.exec = Jvm.exec) (hZ : Z.Warmed39 s.vm) (hby : c.code = code) {aty : ArrayType} (w : (Cond.arrayClass (newarray.typeOf aty)).before a0 Z = true) (eT : T.heap = h) {n : Int32} (hn : ¬ n < 0) {cap : Nat} (hcap : n.toNatClampNeg ≤ cap) (hb' : cap * 8 ≤ 536870912) (hc : cells + 1 ≤ R.cells) (hl : slots + cap ≤ R.slots) (hd : decode code pc = .ok (.newarray aty, 2)) (hp : pc + 2 = pc')
    (K : ∀ T' h' cA b, b = h.size → Stand p l e R s m args below meth c T' locs (cells + 1) (slots + cap) → T'.heap = h' → Ext h h' → Arv Z h' b cA (newarray.typeOf aty) n [] (defaultValue (newarray.typeOf aty)) → Go p.tables e below Q kc ks s (T'.setTop (mkF m pc' Ls (.ref b :: st)))) : Go p.tables e below Q kc ks s (T.setTop (mkF m pc Ls (.int n :: st))) := by
  subst hp
  obtain ⟨T', h', cA, X', e', E', A', st'⟩ := newP X hx hZ w eT (g := mkF m pc Ls (.int n :: st)) rfl (hb hby hd) rfl hn hcap hb' hc hl
  exact Go.step st' (K T' h' cA _ rfl X' e' E' (Arv.new A' hn))
theorem sC (X : Stand p l e R s m args below meth c T locs cells slots) (hx : p.tables.exec = Jvm.exec) (hZ : Z.Warmed39 s.vm) (hby : c.code = code) (eT : T.heap = h) {a : Addr} {k : ClassId} {z : Int32} {vs : List Value} {dv : Value} (A : Arv Z h a k .char z vs dv) {j x : Int32} (i : Nat) (hj : ¬ j < 0 ∧ j < z) (hi : j.toNatClampNeg = i) (hil : i < vs.length) (hd : decode code pc = .ok (.castore, 1)) (hp : pc + 1 = pc')
    (K : ∀ T' h', Stand p l e R s m args below meth c T' (locs ++ [⟨a, j.toNatClampNeg⟩]) cells slots → T'.heap = h' → Wr h h' a j.toNatClampNeg (.int (nar .char x)) → Arv Z h' a k .char z (vs.set i (.int (nar .char x))) dv → Go p.tables e below Q kc ks s (T'.setTop (mkF m pc' Ls st))) : Go p.tables e below Q kc ks s (T.setTop (mkF m pc Ls (.int x :: .int j :: .ref a :: st))) := by
  subst hp
  obtain ⟨cl, A1, q1, S1, N1, H1, G1⟩ := A
  obtain ⟨T', h', X', e', W', st'⟩ := stC X hx hZ eT A1 (inb_of S1 hj) (g := mkF m pc Ls (.int x :: .int j :: .ref a :: st)) rfl rfl (hb hby hd)
  exact Go.step st' (K T' h' X' e' W' (Arv.set A1 q1 S1 N1 H1 G1 (fits_nar_char x) W' i hi hil))
theorem sB (X : Stand p l e R s m args below meth c T locs cells slots) (hx : p.tables.exec = Jvm.exec) (hZ : Z.Warmed39 s.vm) (hby : c.code = code) (eT : T.heap = h) {a : Addr} {k : ClassId} {z : Int32} {vs : List Value} {dv : Value} (A : Arv Z h a k .byte z vs dv) {j x : Int32} (i : Nat) (hj : ¬ j < 0 ∧ j < z) (hi : j.toNatClampNeg = i) (hil : i < vs.length) (hd : decode code pc = .ok (.bastore, 1)) (hp : pc + 1 = pc')
    (K : ∀ T' h', Stand p l e R s m args below meth c T' (locs ++ [⟨a, j.toNatClampNeg⟩]) cells slots → T'.heap = h' → Wr h h' a j.toNatClampNeg (.int (nar .byte x)) → Arv Z h' a k .byte z (vs.set i (.int (nar .byte x))) dv → Go p.tables e below Q kc ks s (T'.setTop (mkF m pc' Ls st))) : Go p.tables e below Q kc ks s (T.setTop (mkF m pc Ls (.int x :: .int j :: .ref a :: st))) := by
  subst hp
  obtain ⟨cl, A1, q1, S1, N1, H1, G1⟩ := A
  obtain ⟨T', h', X', e', W', st'⟩ := stB X hx hZ eT A1 (inb_of S1 hj) (g := mkF m pc Ls (.int x :: .int j :: .ref a :: st)) rfl rfl (hb hby hd)
  exact Go.step st' (K T' h' X' e' W' (Arv.set A1 q1 S1 N1 H1 G1 (fits_nar_byte x) W' i hi hil))
theorem sI (X : Stand p l e R s m args below meth c T locs cells slots) (hx : p.tables.exec = Jvm.exec) (hZ : Z.Warmed39 s.vm) (hby : c.code = code) (eT : T.heap = h) {a : Addr} {k : ClassId} {z : Int32} {vs : List Value} {dv : Value} (A : Arv Z h a k .int z vs dv) {j x : Int32} (i : Nat) (hj : ¬ j < 0 ∧ j < z) (hi : j.toNatClampNeg = i) (hil : i < vs.length) (hd : decode code pc = .ok (.iastore, 1)) (hp : pc + 1 = pc')
    (K : ∀ T' h', Stand p l e R s m args below meth c T' (locs ++ [⟨a, j.toNatClampNeg⟩]) cells slots → T'.heap = h' → Wr h h' a j.toNatClampNeg (.int x) → Arv Z h' a k .int z (vs.set i (.int x)) dv → Go p.tables e below Q kc ks s (T'.setTop (mkF m pc' Ls st))) : Go p.tables e below Q kc ks s (T.setTop (mkF m pc Ls (.int x :: .int j :: .ref a :: st))) := by
  subst hp
  obtain ⟨cl, A1, q1, S1, N1, H1, G1⟩ := A
  obtain ⟨T', h', X', e', W', st'⟩ := stI X hx hZ eT A1 (inb_of S1 hj) (g := mkF m pc Ls (.int x :: .int j :: .ref a :: st)) rfl rfl (hb hby hd)
  exact Go.step st' (K T' h' X' e' W' (Arv.set A1 q1 S1 N1 H1 G1 (rfl) W' i hi hil))
theorem sR (X : Stand p l e R s m args below meth c T locs cells slots) (hx : p.tables.exec = Jvm.exec) (hZ : Z.Warmed39 s.vm) (hby : c.code = code) (eT : T.heap = h) {a : Addr} {C : String} {k : ClassId} {z : Int32} {vs : List Value} {dv : Value} (A : Arv Z h a k (.object C) z vs dv) {j : Int32} {v : Value} (hv : fits (.object C) v = true) (i : Nat) (hj : ¬ j < 0 ∧ j < z) (hi : j.toNatClampNeg = i) (hil : i < vs.length) (F : ∀ cl, Arr Z h a cl (.object C) → cl.cls = k → Sto Z h a v) (hd : decode code pc = .ok (.aastore, 1)) (hp : pc + 1 = pc')
    (K : ∀ T' h', Stand p l e R s m args below meth c T' (locs ++ [⟨a, j.toNatClampNeg⟩]) cells slots → T'.heap = h' → Wr h h' a j.toNatClampNeg v → Arv Z h' a k (.object C) z (vs.set i v) dv → Go p.tables e below Q kc ks s (T'.setTop (mkF m pc' Ls st))) : Go p.tables e below Q kc ks s (T.setTop (mkF m pc Ls (v :: .int j :: .ref a :: st))) := by
  subst hp
  obtain ⟨cl, A1, q1, S1, N1, H1, G1⟩ := A
  obtain ⟨T', h', X', e', W', st'⟩ := stR X hx hZ eT A1 (inb_of S1 hj) rfl (F cl A1 q1) (g := mkF m pc Ls (v :: .int j :: .ref a :: st)) rfl rfl (hb hby hd)
  exact Go.step st' (K T' h' X' e' W' (Arv.set A1 q1 S1 N1 H1 G1 hv W' i hi hil))
theorem lR (X : Stand p l e R s m args below meth c T locs cells slots) (hx : p.tables.exec = Jvm.exec) (hZ : Z.Warmed39 s.vm) (hby : c.code = code) {ty : FieldType} (hty : ty.isReference = true) (eT : T.heap = h) {a : Addr} {k : ClassId} {z : Int32} {vs : List Value} {dv : Value} (A : Arv Z h a k ty z vs dv) {j : Int32} {v : Value} (hj : ¬ j < 0 ∧ j < z) (hv : vs.getD j.toNatClampNeg dv = v) (hd : decode code pc = .ok (.aaload, 1)) (hp : pc + 1 = pc')
    (K : Go p.tables e below Q kc ks s (T.setTop (mkF m pc' Ls (v :: st)))) : Go p.tables e below Q kc ks s (T.setTop (mkF m pc Ls (.int j :: .ref a :: st))) := by
  subst hp
  obtain ⟨cl, A1, q1, S1, N1, H1, G1⟩ := A
  exact Go.step (fun t hr => X.aaload hx (j := j) (v := v) (by rw [eT]; exact A1.1) (State.isArrayOf_alike hZ.alike A1.2.1) hty A1.2.2 (inb_of S1 hj) (Has.at H1 (inb_of S1 hj) hv) (g := mkF m pc Ls (.int j :: .ref a :: st)) rfl rfl (hb hby hd) t hr) K
theorem lC (X : Stand p l e R s m args below meth c T locs cells slots) (hx : p.tables.exec = Jvm.exec) (hZ : Z.Warmed39 s.vm) (hby : c.code = code) (eT : T.heap = h) {a : Addr} {k : ClassId} {z : Int32} {vs : List Value} {dv : Value} (A : Arv Z h a k .char z vs dv) {j : Int32} {v : Int32} (hj : ¬ j < 0 ∧ j < z) (hv : vs.getD j.toNatClampNeg dv = (.int v)) (hd : decode code pc = .ok (.caload, 1)) (hp : pc + 1 = pc')
    (K : Go p.tables e below Q kc ks s (T.setTop (mkF m pc' Ls ((.int v) :: st)))) : Go p.tables e below Q kc ks s (T.setTop (mkF m pc Ls (.int j :: .ref a :: st))) := by
  subst hp
  obtain ⟨cl, A1, q1, S1, N1, H1, G1⟩ := A
  exact Go.step (fun t hr => X.caload hx (j := j) (v := (.int v)) (by rw [eT]; exact A1.1) (State.isArrayOf_alike hZ.alike A1.2.1) A1.2.2 (inb_of S1 hj) (Has.at H1 (inb_of S1 hj) hv) (g := mkF m pc Ls (.int j :: .ref a :: st)) rfl rfl (hb hby hd) t hr) K
theorem lB (X : Stand p l e R s m args below meth c T locs cells slots) (hx : p.tables.exec = Jvm.exec) (hZ : Z.Warmed39 s.vm) (hby : c.code = code) (eT : T.heap = h) {a : Addr} {k : ClassId} {z : Int32} {vs : List Value} {dv : Value} (A : Arv Z h a k .byte z vs dv) {j : Int32} {v : Int32} (hj : ¬ j < 0 ∧ j < z) (hv : vs.getD j.toNatClampNeg dv = (.int v)) (hd : decode code pc = .ok (.baload, 1)) (hp : pc + 1 = pc')
    (K : Go p.tables e below Q kc ks s (T.setTop (mkF m pc' Ls ((.int v) :: st)))) : Go p.tables e below Q kc ks s (T.setTop (mkF m pc Ls (.int j :: .ref a :: st))) := by
  subst hp
  obtain ⟨cl, A1, q1, S1, N1, H1, G1⟩ := A
  exact Go.step (fun t hr => X.baloadBytes hx (j := j) (v := (.int v)) (by rw [eT]; exact A1.1) (State.isArrayOf_alike hZ.alike A1.2.1) A1.2.2 (inb_of S1 hj) (Has.at H1 (inb_of S1 hj) hv) (g := mkF m pc Ls (.int j :: .ref a :: st)) rfl rfl (hb hby hd) t hr) K
theorem lI (X : Stand p l e R s m args below meth c T locs cells slots) (hx : p.tables.exec = Jvm.exec) (hZ : Z.Warmed39 s.vm) (hby : c.code = code) (eT : T.heap = h) {a : Addr} {k : ClassId} {z : Int32} {vs : List Value} {dv : Value} (A : Arv Z h a k .int z vs dv) {j : Int32} {v : Int32} (hj : ¬ j < 0 ∧ j < z) (hv : vs.getD j.toNatClampNeg dv = (.int v)) (hd : decode code pc = .ok (.iaload, 1)) (hp : pc + 1 = pc')
    (K : Go p.tables e below Q kc ks s (T.setTop (mkF m pc' Ls ((.int v) :: st)))) : Go p.tables e below Q kc ks s (T.setTop (mkF m pc Ls (.int j :: .ref a :: st))) := by
  subst hp
  obtain ⟨cl, A1, q1, S1, N1, H1, G1⟩ := A
  exact Go.step (fun t hr => X.iaload hx (j := j) (v := (.int v)) (by rw [eT]; exact A1.1) (State.isArrayOf_alike hZ.alike A1.2.1) A1.2.2 (inb_of S1 hj) (Has.at H1 (inb_of S1 hj) hv) (g := mkF m pc Ls (.int j :: .ref a :: st)) rfl rfl (hb hby hd) t hr) K
theorem aL (X : Stand p l e R s m args below meth c T locs cells slots) (hx : p.tables.exec = Jvm.exec) (hZ : Z.Warmed39 s.vm) (hby : c.code = code) (eT : T.heap = h) {a : Addr} {ty : FieldType} {k : ClassId} {z : Int32} {vs : List Value} {dv : Value} (A : Arv Z h a k ty z vs dv) (hd : decode code pc = .ok (.arraylength, 1)) (hp : pc + 1 = pc')
    (K : Go p.tables e below Q kc ks s (T.setTop (mkF m pc' Ls (.int z :: st)))) : Go p.tables e below Q kc ks s (T.setTop (mkF m pc Ls (.ref a :: st))) := by
  subst hp
  obtain ⟨cl, A1, q1, S1, N1, H1, G1⟩ := A
  refine Go.step (fun t hr => X.arraylength hx (by rw [eT]; exact A1.1) (State.isArrayOf_alike hZ.alike A1.2.1) (g := mkF m pc Ls (.ref a :: st)) rfl rfl (hb hby hd) t hr) ?_
  rw [len_of S1 N1]
  exact K
theorem cV (X : Stand p l e R s m args below meth c T locs cells slots) (hx : p.tables.exec = Jvm.exec) (hZ : Z.Warmed39 s.vm) (hby : c.code = code) (hsz : Ls.size = c.maxLocals) {own : String} {index : Nat} (hown : s.vm.findClass own = some m.cls) {C : String} {y z : MethodName} {bytes : ByteArray} {maxL : Nat} {ret : Option FieldType} {rm : Room} {as' : Array Value} {Qc : Option Value → Heap → List Loc → Prop} (wl : (Cond.methodLink own index y).before a0 Z = true) (wd : (Cond.declares y).before a0 Z = true) (hnf : NotFace s y) (ws : (Cond.selects C y z).before a0 Z = true) (wi : (Cond.instanceMethod z).before a0 Z = true) (wc : (Cond.code z bytes maxL ret).before a0 Z = true) (wz : (Cond.initialized z.cls).before a0 Z = true) (hy : y.cls ≠ "java/lang/invoke/MethodHandle" ∧ y.cls ≠ "java/lang/invoke/VarHandle") (hM : MetFree l z (head1 [Cond.code z bytes maxL ret] rm) (fun a U => a = as' ∧ Z.Warmed39 U.vm ∧ U.heap = h) (fun _ _ _ _ _ => True) (fun _ U o U' => ∃ v L, o = .returned v ∧ Qc v U'.heap L ∧ FrameEnd U o U' L rm.cells rm.slots)) {b : Addr} (E : Exa Z h b C) (eT : T.heap = h) {argsL stk : List Value} {ps : List FieldType} {r : Option FieldType} (hpd : parseMethodDescriptor y.desc = some ⟨ps, r⟩) (hpl : argsL.length = ps.length) (has : as' = (Value.ref b :: argsL).toArray) (hstk : stk = argsL.reverse ++ .ref b :: st) {W : Nat} (hW : (st.map fun v => v.category).sum = W) (hf : rm.frames + 1 ≤ R.frames) (hl : W + (maxL + 11) + rm.locals ≤ R.locals) (hcl : cells + rm.cells ≤ R.cells) (hsl : slots + rm.slots ≤ R.slots) (hd : decode code pc = .ok (.invokevirtual index, 3)) (hp : pc + 3 = pc')
    (K : ∀ T' L v, Stand p l e R s m args below meth c T' (locs ++ L) (cells + rm.cells) (slots + rm.slots) → Qc v T'.heap L → Go p.tables e below Q kc ks s (T'.setTop (mkF m pc' Ls (v.toList ++ st)))) : Go p.tables e below Q kc ks s (T.setTop (mkF m pc Ls stk)) := by
  subst hp has hstk hW
  obtain ⟨cq, kq, qa, qb, qc⟩ := isOf hZ eT E
  obtain ⟨_, _, ⟨T1, L1, k1, n1⟩, -, X1, ⟨Lc1, hQ1, l1, y1, z1⟩, st1⟩ := X.virtualBack hx (y := y) (z := z) hown (mvT hZ wl) (mvT hZ wd) hnf (mvT hZ ws) (mvT hZ wi) hy (backOf (W := (st.map fun v => v.category).sum) hM hZ wc wz hf hl) qa qc (g := mkF m pc Ls (argsL.reverse ++ .ref b :: st)) rfl hsz (Steps.refl _) (argsL := argsL) (rest := st) (lenOf hpd hpl) rfl (by show 2 * 0 + _ ≤ _; omega) (hb hby hd) (fun _ _ => ⟨rfl, eT, hcl, hsl⟩)
  dsimp only [Pt.U, Pt.locs, Pt.cells, Pt.slots] at X1 l1 y1 z1 st1 hQ1
  subst l1 y1 z1
  exact Go.via st1 (K _ _ _ X1 hQ1)
theorem cI (X : Stand p l e R s m args below meth c T locs cells slots) (hx : p.tables.exec = Jvm.exec) (hZ : Z.Warmed39 s.vm) (hby : c.code = code) (hsz : Ls.size = c.maxLocals) {own : String} {index : Nat} (hown : s.vm.findClass own = some m.cls) {C : String} {count : Nat} {xi y : MethodName} {bytes : ByteArray} {maxL : Nat} {ret : Option FieldType} {rm : Room} {as' : Array Value} {Qc : Option Value → Heap → List Loc → Prop} (wl : (Cond.methodLink own index xi).before a0 Z = true) (wd : (Cond.declares xi).before a0 Z = true) (wf : (Cond.interfaceMethod xi.cls xi.cls xi.name xi.desc).before a0 Z = true) (hwf : ((Cond.interfaceMethod xi.cls xi.cls xi.name xi.desc).onTables && (Cond.interfaceMethod xi.cls xi.cls xi.name xi.desc).keepsFace) = true) (ws : (Cond.selects C xi y).before a0 Z = true) (wi : (Cond.instanceMethod y).before a0 Z = true) (wp : (Cond.publicMethod y).before a0 Z = true) (wu : (Cond.unhidden C xi.name xi.desc).before a0 Z = true) (wct : (Cond.castable C xi.cls).before a0 Z = true) (wc : (Cond.code y bytes maxL ret).before a0 Z = true) (wz : (Cond.initialized y.cls).before a0 Z = true) (hy : xi.cls ≠ "java/lang/invoke/MethodHandle" ∧ xi.cls ≠ "java/lang/invoke/VarHandle") (hM : MetFree l y (head1 [Cond.code y bytes maxL ret] rm) (fun a U => a = as' ∧ Z.Warmed39 U.vm ∧ U.heap = h) (fun _ _ _ _ _ => True) (fun _ U o U' => ∃ v L, o = .returned v ∧ Qc v U'.heap L ∧ FrameEnd U o U' L rm.cells rm.slots)) {b : Addr} (E : Exa Z h b C) (eT : T.heap = h) {argsL stk : List Value} {ps : List FieldType} {r : Option FieldType} (hpd : parseMethodDescriptor xi.desc = some ⟨ps, r⟩) (hpl : argsL.length = ps.length) (has : as' = (Value.ref b :: argsL).toArray) (hstk : stk = argsL.reverse ++ .ref b :: st) {W : Nat} (hW : (st.map fun v => v.category).sum = W) (hf : rm.frames + 1 ≤ R.frames) (hl : W + (maxL + 11) + rm.locals ≤ R.locals) (hcl : cells + rm.cells ≤ R.cells) (hsl : slots + rm.slots ≤ R.slots) (hd : decode code pc = .ok (.invokeinterface index count, 5)) (hp : pc + 5 = pc')
    (K : ∀ T' L v, Stand p l e R s m args below meth c T' (locs ++ L) (cells + rm.cells) (slots + rm.slots) → Qc v T'.heap L → Go p.tables e below Q kc ks s (T'.setTop (mkF m pc' Ls (v.toList ++ st)))) : Go p.tables e below Q kc ks s (T.setTop (mkF m pc Ls stk)) := by
  subst hp has hstk hW
  obtain ⟨cq, kq, qa, qb, qc⟩ := isOf hZ eT E
  obtain ⟨_, _, ⟨T1, L1, k1, n1⟩, -, X1, ⟨Lc1, hQ1, l1, y1, z1⟩, st1⟩ := X.interfaceBack hx (xi := xi) (y := y) hown (mvT hZ wl) (mvT hZ wd) (mvT hZ wf hwf) (mvT hZ ws) (mvT hZ wi) (mvT hZ wp) (mvT hZ wu) (mvT hZ wct) hy (backOf (W := (st.map fun v => v.category).sum) hM hZ wc wz hf hl) qa qb qc (g := mkF m pc Ls (argsL.reverse ++ .ref b :: st)) rfl hsz (Steps.refl _) (argsL := argsL) (rest := st) (lenOf hpd hpl) rfl (by show 2 * 0 + _ ≤ _; omega) (hb hby hd) (fun _ _ => ⟨rfl, eT, hcl, hsl⟩)
  dsimp only [Pt.U, Pt.locs, Pt.cells, Pt.slots] at X1 l1 y1 z1 st1 hQ1
  subst l1 y1 z1
  exact Go.via st1 (K _ _ _ X1 hQ1)
theorem cS (X : Stand p l e R s m args below meth c T locs cells slots) (hx : p.tables.exec = Jvm.exec) (hZ : Z.Warmed39 s.vm) (hby : c.code = code) (hsz : Ls.size = c.maxLocals) {own : String} {index : Nat} (hown : s.vm.findClass own = some m.cls) {y : MethodName} {bytes : ByteArray} {maxL : Nat} {ret : Option FieldType} {rm : Room} {as' : Array Value} {Qc : Option Value → Heap → List Loc → Prop} (wl : (Cond.methodLink own index y).before a0 Z = true) (wst : (Cond.static y).before a0 Z = true) (wc : (Cond.code y bytes maxL ret).before a0 Z = true) (wz : (Cond.initialized y.cls).before a0 Z = true) (hy : y.cls ≠ "java/lang/invoke/MethodHandle" ∧ y.cls ≠ "java/lang/invoke/VarHandle") (hM : MetFree l y (head1 [Cond.code y bytes maxL ret] rm) (fun a U => a = as' ∧ Z.Warmed39 U.vm ∧ U.heap = h) (fun _ _ _ _ _ => True) (fun _ U o U' => ∃ v L, o = .returned v ∧ Qc v U'.heap L ∧ FrameEnd U o U' L rm.cells rm.slots)) (eT : T.heap = h) {argsL stk : List Value} {ps : List FieldType} {r : Option FieldType} (hpd : parseMethodDescriptor y.desc = some ⟨ps, r⟩) (hpl : argsL.length = ps.length) (has : as' = (argsL).toArray) (hstk : stk = argsL.reverse ++ st) {W : Nat} (hW : (st.map fun v => v.category).sum = W) (hf : rm.frames + 1 ≤ R.frames) (hl : W + (maxL + 11) + rm.locals ≤ R.locals) (hcl : cells + rm.cells ≤ R.cells) (hsl : slots + rm.slots ≤ R.slots) (hd : decode code pc = .ok (.invokestatic index, 3)) (hp : pc + 3 = pc')
    (K : ∀ T' L v, Stand p l e R s m args below meth c T' (locs ++ L) (cells + rm.cells) (slots + rm.slots) → Qc v T'.heap L → Go p.tables e below Q kc ks s (T'.setTop (mkF m pc' Ls (v.toList ++ st)))) : Go p.tables e below Q kc ks s (T.setTop (mkF m pc Ls stk)) := by
  subst hp has hstk hW
  obtain ⟨_, _, ⟨T1, L1, k1, n1⟩, -, X1, ⟨Lc1, hQ1, l1, y1, z1⟩, st1⟩ := Jvm.LawKit.callS X hx (y := y) hown (mvT hZ wl) (mvT hZ wst) (mvT hZ wz) (mvT hZ wc) hy (backOf (W := (st.map fun v => v.category).sum) hM hZ wc wz hf hl) (g := mkF m pc Ls (argsL.reverse ++ st)) rfl hsz (argsL := argsL) (rest := st) (lenOf hpd hpl) rfl (by show 2 * 0 + _ ≤ _; omega) (hb hby hd) (fun _ _ => ⟨rfl, eT, hcl, hsl⟩)
  dsimp only [Pt.U, Pt.locs, Pt.cells, Pt.slots] at X1 l1 y1 z1 st1 hQ1
  subst l1 y1 z1
  exact Go.step st1 (K _ _ _ X1 hQ1)
theorem cN (X : Stand p l e R s m args below meth c T locs cells slots) (hx : p.tables.exec = Jvm.exec) (hZ : Z.Warmed39 s.vm) (hby : c.code = code) (hsz : Ls.size = c.maxLocals) {own : String} {index : Nat} (hown : s.vm.findClass own = some m.cls) {y : MethodName} {bytes : ByteArray} {maxL : Nat} {ret : Option FieldType} {rm : Room} {as' : Array Value} {Qc : Option Value → Heap → List Loc → Prop} (hyi : y.name = "<init>") (hrn : ret = none) (wl : (Cond.methodLink own index y).before a0 Z = true) (wi : (Cond.instanceMethod y).before a0 Z = true) (wc : (Cond.code y bytes maxL ret).before a0 Z = true) (wz : (Cond.initialized y.cls).before a0 Z = true) (hy : y.cls ≠ "java/lang/invoke/MethodHandle" ∧ y.cls ≠ "java/lang/invoke/VarHandle") (hM : MetFree l y (head1 [Cond.code y bytes maxL ret] rm) (fun a U => a = as' ∧ Z.Warmed39 U.vm ∧ U.heap = h) (fun _ _ _ _ _ => True) (fun _ U o U' => ∃ v L, o = .returned v ∧ Qc v U'.heap L ∧ FrameEnd U o U' L rm.cells rm.slots)) {b : Addr} (eT : T.heap = h) {argsL stk : List Value} {ps : List FieldType} {r : Option FieldType} (hpd : parseMethodDescriptor y.desc = some ⟨ps, r⟩) (hpl : argsL.length = ps.length) (has : as' = (Value.ref b :: argsL).toArray) (hstk : stk = argsL.reverse ++ .ref b :: st) {W : Nat} (hW : (st.map fun v => v.category).sum = W) (hf : rm.frames + 1 ≤ R.frames) (hl : W + (maxL + 11) + rm.locals ≤ R.locals) (hcl : cells + rm.cells ≤ R.cells) (hsl : slots + rm.slots ≤ R.slots) (hd : decode code pc = .ok (.invokespecial index, 3)) (hp : pc + 3 = pc')
    (K : ∀ T' L v, Stand p l e R s m args below meth c T' (locs ++ L) (cells + rm.cells) (slots + rm.slots) → Qc v T'.heap L → Go p.tables e below Q kc ks s (T'.setTop (mkF m pc' Ls (v.toList ++ st)))) : Go p.tables e below Q kc ks s (T.setTop (mkF m pc Ls stk)) := by
  subst hp has hstk hW hrn
  obtain ⟨_, _, ⟨T1, L1, k1, n1⟩, -, X1, ⟨Lc1, hQ1, l1, y1, z1⟩, st1⟩ := X.specialBack hx (y := y) hyi hown (mvT hZ wl) (mvT hZ wi) (mvT hZ wc) hy (backOf (W := (st.map fun v => v.category).sum) hM hZ wc wz hf hl) (g := mkF m pc Ls (argsL.reverse ++ .ref b :: st)) rfl hsz (Steps.refl _) (a := b) (argsL := argsL) (rest := st) (lenOf hpd hpl) rfl (by show 2 * 0 + _ ≤ _; omega) (hb hby hd) (fun _ _ => ⟨rfl, eT, hcl, hsl⟩)
  dsimp only [Pt.U, Pt.locs, Pt.cells, Pt.slots] at X1 l1 y1 z1 st1 hQ1
  subst l1 y1 z1
  exact Go.via st1 (K _ _ _ X1 hQ1)
theorem cP (X : Stand p l e R s m args below meth c T locs cells slots) (hx : p.tables.exec = Jvm.exec) (hZ : Z.Warmed39 s.vm) (hby : c.code = code) (hsz : Ls.size = c.maxLocals) {own : String} {index : Nat} (hown : s.vm.findClass own = some m.cls) {C : String} {y : MethodName} {bytes : ByteArray} {maxL : Nat} {ret : Option FieldType} {rm : Room} {as' : Array Value} {Qc : Option Value → Heap → List Loc → Prop} (wl : (Cond.methodLink own index y).before a0 Z = true) (wi : (Cond.instanceMethod y).before a0 Z = true) (ws : (Cond.selects y.cls y y).before a0 Z = true) (wp : (Cond.privateMethod y).before a0 Z = true) (wc : (Cond.code y bytes maxL ret).before a0 Z = true) (wz : (Cond.initialized y.cls).before a0 Z = true) (hy : y.cls ≠ "java/lang/invoke/MethodHandle" ∧ y.cls ≠ "java/lang/invoke/VarHandle") (hM : MetFree l y (head1 [Cond.code y bytes maxL ret] rm) (fun a U => a = as' ∧ Z.Warmed39 U.vm ∧ U.heap = h) (fun _ _ _ _ _ => True) (fun _ U o U' => ∃ v L, o = .returned v ∧ Qc v U'.heap L ∧ FrameEnd U o U' L rm.cells rm.slots)) {b : Addr} (E : Exa Z h b C) (eT : T.heap = h) {argsL stk : List Value} {ps : List FieldType} {r : Option FieldType} (hpd : parseMethodDescriptor y.desc = some ⟨ps, r⟩) (hpl : argsL.length = ps.length) (has : as' = (Value.ref b :: argsL).toArray) (hstk : stk = argsL.reverse ++ .ref b :: st) {W : Nat} (hW : (st.map fun v => v.category).sum = W) (hf : rm.frames + 1 ≤ R.frames) (hl : W + (maxL + 11) + rm.locals ≤ R.locals) (hcl : cells + rm.cells ≤ R.cells) (hsl : slots + rm.slots ≤ R.slots) (hd : decode code pc = .ok (.invokevirtual index, 3)) (hp : pc + 3 = pc')
    (K : ∀ T' L v, Stand p l e R s m args below meth c T' (locs ++ L) (cells + rm.cells) (slots + rm.slots) → Qc v T'.heap L → Go p.tables e below Q kc ks s (T'.setTop (mkF m pc' Ls (v.toList ++ st)))) : Go p.tables e below Q kc ks s (T.setTop (mkF m pc Ls stk)) := by
  subst hp has hstk hW
  obtain ⟨cq, qa, qb⟩ := E.cell
  obtain ⟨_, _, ⟨T1, L1, k1, n1⟩, -, X1, ⟨Lc1, hQ1, l1, y1, z1⟩, st1⟩ := X.privateBack hx (y := y) hown (mvT hZ wl) (mvT hZ wi) (mvT hZ ws) (Cond.privateMethod_at (mvP hZ wp (args := #[]))) (mvT hZ wc) hy (backOf (W := (st.map fun v => v.category).sum) hM hZ wc wz hf hl) (g := mkF m pc Ls (argsL.reverse ++ .ref b :: st)) rfl hsz (Steps.refl _) (a := b) (by rw [eT]; exact qa) qb (argsL := argsL) (rest := st) (lenOf hpd hpl) rfl (by show 2 * 0 + _ ≤ _; omega) (hb hby hd) (fun _ _ => ⟨rfl, eT, hcl, hsl⟩)
  dsimp only [Pt.U, Pt.locs, Pt.cells, Pt.slots] at X1 l1 y1 z1 st1 hQ1
  subst l1 y1 z1
  exact Go.via st1 (K _ _ _ X1 hQ1)
theorem cU (X : Stand p l e R s m args below meth c T locs cells slots) (hx : p.tables.exec = Jvm.exec) (hZ : Z.Warmed39 s.vm) (hby : c.code = code) (hsz : Ls.size = c.maxLocals) {own : String} {index : Nat} (hown : s.vm.findClass own = some m.cls) {C : String} {y : MethodName} {bytes : ByteArray} {maxL : Nat} {ret : Option FieldType} {rm : Room} {as' : Array Value} {Qc : Option Value → Heap → List Loc → Prop} (wl : (Cond.methodLink own index y).before a0 Z = true) (wsm : (Cond.sameMethod y.cls y.cls y.name y.desc).before a0 Z = true) (wi : (Cond.instanceMethod y).before a0 Z = true) (wsc : (Cond.superclass own y.cls).before a0 Z = true) (hne : y.name ≠ "<init>") (wc : (Cond.code y bytes maxL ret).before a0 Z = true) (wz : (Cond.initialized y.cls).before a0 Z = true) (hM : MetFree l y (head1 [Cond.code y bytes maxL ret] rm) (fun a U => a = as' ∧ Z.Warmed39 U.vm ∧ U.heap = h) (fun _ _ _ _ _ => True) (fun _ U o U' => ∃ v L, o = .returned v ∧ Qc v U'.heap L ∧ FrameEnd U o U' L rm.cells rm.slots)) {b : Addr} (E : Exa Z h b C) (eT : T.heap = h) {argsL stk : List Value} {ps : List FieldType} {r : Option FieldType} (hpd : parseMethodDescriptor y.desc = some ⟨ps, r⟩) (hpl : argsL.length = ps.length) (has : as' = (Value.ref b :: argsL).toArray) (hstk : stk = argsL.reverse ++ .ref b :: st) {W : Nat} (hW : (st.map fun v => v.category).sum = W) (hf : rm.frames + 1 ≤ R.frames) (hl : W + (maxL + 11) + rm.locals ≤ R.locals) (hcl : cells + rm.cells ≤ R.cells) (hsl : slots + rm.slots ≤ R.slots) (hd : decode code pc = .ok (.invokespecial index, 3)) (hp : pc + 3 = pc')
    (K : ∀ T' L v, Stand p l e R s m args below meth c T' (locs ++ L) (cells + rm.cells) (slots + rm.slots) → Qc v T'.heap L → Go p.tables e below Q kc ks s (T'.setTop (mkF m pc' Ls (v.toList ++ st)))) : Go p.tables e below Q kc ks s (T.setTop (mkF m pc Ls stk)) := by
  subst hp has hstk hW
  obtain ⟨_, _, ⟨T1, L1, k1, n1⟩, -, X1, ⟨Lc1, hQ1, l1, y1, z1⟩, st1⟩ := superBack X hx hZ (y := y) hown wl wsm wi wsc hne (backOf (W := (st.map fun v => v.category).sum) hM hZ wc wz hf hl) eT (Ins.self E) (g := mkF m pc Ls (argsL.reverse ++ .ref b :: st)) rfl hsz wc (argsL := argsL) (rest := st) (lenOf hpd hpl) rfl (by show 2 * 0 + _ ≤ _; omega) (hb hby hd) (fun _ _ => ⟨rfl, eT, hcl, hsl⟩)
  dsimp only [Pt.U, Pt.locs, Pt.cells, Pt.slots] at X1 l1 y1 z1 st1 hQ1
  subst l1 y1 z1
  exact Go.via st1 (K _ _ _ X1 hQ1)
end Laws2
end Jvm.OG
namespace Jvm.Pilot.@@N@@
open Jvm Jvm.ClassFile Sem Op Lib Jvm.Free Jvm.Stand Jvm.LawKit Jvm.RoadKit Bundle Jvm.Pilot.@@N@@.Jvm.D
theorem own_pd_0 : parseMethodDescriptor "(II)Z" = some ⟨[.int, .int], some .boolean⟩ := by decide +kernel
theorem own_d (a b : Int32) : (lcmpW (a.toInt64 - b.toInt64) (0 : Int64)) < (0 : Int32) ↔ a < b := by
  rw [lw_lt, Int64.lt_iff_toInt_lt, Int32.lt_iff_toInt_lt]
  have h1 := a.toInt_lt; have h2 := a.le_toInt; have h3 := b.toInt_lt; have h4 := b.le_toInt
  have e : (a.toInt64 - b.toInt64).toInt = a.toInt - b.toInt := by
    rw [Int64.toInt_sub, Int32.toInt_toInt64, Int32.toInt_toInt64]
    exact Int.bmod_eq_of_le (by omega) (by omega)
  rw [e]
  show _ < (0 : Int) ↔ _
  omega
theorem own_d_contains_0 : decode prog_8_method_4_code 0 = .ok (.aload_n 0, 1) := by decide +kernel
theorem own_d_contains_1 : decode prog_8_method_4_code 1 = .ok (.getstatic 3, 3) := by decide +kernel
theorem own_d_contains_4 : decode prog_8_method_4_code 4 = .ok (.if_acmp .ne 16, 3) := by decide +kernel
theorem own_d_contains_7 : decode prog_8_method_4_code 7 = .ok (.iload_n 1, 1) := by decide +kernel
theorem own_d_contains_8 : decode prog_8_method_4_code 8 = .ok (.iload_n 2, 1) := by decide +kernel
theorem own_d_contains_9 : decode prog_8_method_4_code 9 = .ok (.if_icmp .lt 7, 3) := by decide +kernel
theorem own_d_contains_12 : decode prog_8_method_4_code 12 = .ok (.iconst 1, 1) := by decide +kernel
theorem own_d_contains_13 : decode prog_8_method_4_code 13 = .ok (.goto 17, 3) := by decide +kernel
theorem own_d_contains_16 : decode prog_8_method_4_code 16 = .ok (.iconst 0, 1) := by decide +kernel
theorem own_d_contains_17 : decode prog_8_method_4_code 17 = .ok (.goto 13, 3) := by decide +kernel
theorem own_d_contains_20 : decode prog_8_method_4_code 20 = .ok (.iload_n 1, 1) := by decide +kernel
theorem own_d_contains_21 : decode prog_8_method_4_code 21 = .ok (.iload_n 2, 1) := by decide +kernel
theorem own_d_contains_22 : decode prog_8_method_4_code 22 = .ok (.if_icmp .ge 7, 3) := by decide +kernel
theorem own_d_contains_25 : decode prog_8_method_4_code 25 = .ok (.iconst 1, 1) := by decide +kernel
theorem own_d_contains_26 : decode prog_8_method_4_code 26 = .ok (.goto 4, 3) := by decide +kernel
theorem own_d_contains_29 : decode prog_8_method_4_code 29 = .ok (.iconst 0, 1) := by decide +kernel
theorem own_d_contains_30 : decode prog_8_method_4_code 30 = .ok (.ireturn, 1) := by decide +kernel
theorem own_pn_contains : plainName "com/example/latchwire/latchwire/condition/ConditionalOnJava$Range" = true := by first | (simp [plainName, overriddenIn]; done) | decide +kernel
theorem own_ef_contains (m : MethodId) (x0 : Addr) (x1 : Int32) (x2 : Int32)  : entryFrame m #[(.ref x0), (.int x1), (.int x2)] 3 = mkF m 0 #[.val (.ref x0), .val (.int x1), .val (.int x2)] [] := by first | (simp [entryFrame, mkF, argsToLocals, Value.category]; done) | rfl
def own_Q_contains (Z : State) (a1 : Addr) (p2 : Int32) (p3 : Int32) (w4 : Addr) (r : Int32) (h0 : Heap) (n0 : Nat) (v : Option Value) (h : Heap) (L : List Loc) : Prop := v = some (.int r) ∧ Fr n0 L ∧ h = h0
set_option maxRecDepth 65536 in
set_option maxHeartbeats 40000000 in
theorem own_rm_contains (l : Launch) (Z : State) (a0 : Array Value) (hw : ∀ d ∈ tables_1, d.before a0 Z = true) (ws : List Jvm.Cond) (a1 : Addr) (p2 : Int32) (p3 : Int32) (w4 : Addr) (r : Int32) (h0 : Heap) (n0 : Nat) (Z0 : n0 ≤ h0.size) (S_E : Sta Z h0 "com/example/latchwire/latchwire/condition/ConditionalOnJava$Range" "EQUAL_OR_NEWER" "Lcom/example/latchwire/latchwire/condition/ConditionalOnJava$Range;" (.ref w4)) (hr : (if a1 = w4 then (if p2 < p3 then (0 : Int32) else 1) else (if p2 < p3 then 1 else 0)) = r) :
    MetFree l (⟨"com/example/latchwire/latchwire/condition/ConditionalOnJava$Range", "contains", "(II)Z"⟩ : MethodName) (head1 (Jvm.Cond.code (⟨"com/example/latchwire/latchwire/condition/ConditionalOnJava$Range", "contains", "(II)Z"⟩ : MethodName) prog_8_method_4_code 3 (some .boolean) :: ws) ({ frames := 0, cells := 0, slots := 0, locals := 0 } : Room)) (fun a U => a = #[(.ref a1), (.int p2), (.int p3)] ∧ Z.Warmed39 U.vm ∧ U.heap = h0) (fun _ _ _ _ _ => True) (fun _ U o U' => ∃ v L, o = .returned v ∧ own_Q_contains Z a1 p2 p3 w4 r h0 n0 v U'.heap L ∧ FrameEnd U o U' L ({ frames := 0, cells := 0, slots := 0, locals := 0 } : Room).cells ({ frames := 0, cells := 0, slots := 0, locals := 0 } : Room).slots) := by
  refine MetFree.of_bodySF (plainFor_of_name own_pn_contains) hisR ?_
  intro p e s m args below meth c s₁ Bd hml0 hP hK
  obtain ⟨rfl, hZ, hh⟩ := hP
  have hx := Bd.exec
  have hby := Bd.bytes
  have hml : c.maxLocals = 3 := hml0
  have hown : s.vm.findClass "com/example/latchwire/latchwire/condition/ConditionalOnJava$Range" = some m.cls := findClass_of_methodNamed Bd.named
  have hnm := (name_of_methodNamed Bd.named Bd.method).1
  have X0 : Stand p l e ({ frames := 0, cells := 0, slots := 0, locals := 0 } : Room) s m #[(.ref a1), (.int p2), (.int p3)] below meth c s₁ [] 0 0 := Stand.of_body Bd
  have e0 : s₁.heap = h0 := by rw [← hh, Bd.state]; rfl
  have N0 := Fr.nil n0
  show OG.Go p.tables e below (own_Q_contains Z a1 p2 p3 w4 r h0 n0) ({ frames := 0, cells := 0, slots := 0, locals := 0 } : Room).cells ({ frames := 0, cells := 0, slots := 0, locals := 0 } : Room).slots s (s₁.setTop (entryFrame m #[(.ref a1), (.int p2), (.int p3)] 3))
  refine OG.Go.cast (own_ef_contains m a1 p2 p3) ?_
  refine OG.aloadN X0 hx hby own_d_contains_0 rfl rfl rfl ?_
  refine OG.gS X0 hx hZ hby hown (hw _ (List.mem_of_getElem? (i := 10) rfl)) Via.refl e0 S_E own_d_contains_1 rfl ?_
  intro T1 X1 e1
  by_cases ha4_2 : a1 = w4
  · refine OG.acmp (pc' := 7) (same := true) X1 hx hby own_d_contains_4 rfl rfl (decide_eq_true (congrArg Value.ref ha4_2)) (by decide) (by decide) ?_
    refine OG.iloadN X1 hx hby own_d_contains_7 rfl rfl ?_
    refine OG.iloadN X1 hx hby own_d_contains_8 rfl rfl ?_
    by_cases hc9_3 : p2 < p3
    · refine OG.icmpYes (pc' := 16) X1 hx hby own_d_contains_9 (tlt hc9_3).1 (by decide) (by decide) ?_
      refine OG.iconst (v := (0 : Int32)) X1 hx hby own_d_contains_16 (by decide) rfl ?_
      refine OG.goto (pc' := 30) X1 hx hby own_d_contains_17 (by decide) (by decide) ?_
      refine OG.retZ X1 hx hby Bd.returns (by simp) own_d_contains_30 Bd.notSynchronized (by decide) (by decide) ?_
      exact ⟨by subst hr; simp [nar, ha4_2, hc9_3], N0, e1⟩
    · refine OG.icmpNo X1 hx hby own_d_contains_9 (flt hc9_3).1 rfl ?_
      refine OG.iconst (v := (1 : Int32)) X1 hx hby own_d_contains_12 (by decide) rfl ?_
      refine OG.goto (pc' := 30) X1 hx hby own_d_contains_13 (by decide) (by decide) ?_
      refine OG.retZ X1 hx hby Bd.returns (by simp) own_d_contains_30 Bd.notSynchronized (by decide) (by decide) ?_
      exact ⟨by subst hr; simp [nar, ha4_2, hc9_3], N0, e1⟩
  · refine OG.acmp (pc' := 20) (same := false) X1 hx hby own_d_contains_4 rfl rfl (decide_eq_false fun q => ha4_2 (Value.ref.inj q)) (by decide) (by decide) ?_
    refine OG.iloadN X1 hx hby own_d_contains_20 rfl rfl ?_
    refine OG.iloadN X1 hx hby own_d_contains_21 rfl rfl ?_
    by_cases hc22_4 : p2 < p3
    · refine OG.icmpNo X1 hx hby own_d_contains_22 (tlt hc22_4).2.1 rfl ?_
      refine OG.iconst (v := (1 : Int32)) X1 hx hby own_d_contains_25 (by decide) rfl ?_
      refine OG.goto (pc' := 30) X1 hx hby own_d_contains_26 (by decide) (by decide) ?_
      refine OG.retZ X1 hx hby Bd.returns (by simp) own_d_contains_30 Bd.notSynchronized (by decide) (by decide) ?_
      exact ⟨by subst hr; simp [nar, ha4_2, hc22_4], N0, e1⟩
    · refine OG.icmpYes (pc' := 29) X1 hx hby own_d_contains_22 (flt hc22_4).2.1 (by decide) (by decide) ?_
      refine OG.iconst (v := (0 : Int32)) X1 hx hby own_d_contains_29 (by decide) rfl ?_
      refine OG.retZ X1 hx hby Bd.returns (by simp) own_d_contains_30 Bd.notSynchronized (by decide) (by decide) ?_
      exact ⟨by subst hr; simp [nar, ha4_2, hc22_4], N0, e1⟩
theorem own_pn_law : plainName "com/example/latchwire/latchwire/condition/RangeContainsPinLaw" = true := by first | (simp [plainName, overriddenIn]; done) | decide +kernel
theorem own_ef_law (m : MethodId) (x0 : Int32) (x1 : Int32)  : entryFrame m #[(.int x0), (.int x1)] maxLocals = mkF m 0 #[.val (.int x0), .val (.int x1), .unset, .unset, .unset, .unset, .unset, .unset, .unset, .unset] [] := by first | (simp [entryFrame, mkF, argsToLocals, Value.category, maxLocals]; done) | rfl
def own_Q_law (Z : State) (p1 : Int32) (p2 : Int32) (w3 : Addr) (w5 : Addr) (h0 : Heap) (n0 : Nat) (v : Option Value) (h : Heap) (L : List Loc) : Prop := v = some (.int (1 : Int32)) ∧ Fr n0 L
set_option maxRecDepth 65536 in
set_option maxHeartbeats 40000000 in
theorem own_rm_law (l : Launch) (Z : State) (a0 : Array Value) (hw : ∀ d ∈ tables_1, d.before a0 Z = true) (ws : List Jvm.Cond) (p1 : Int32) (p2 : Int32) (w3 : Addr) (w5 : Addr) (h0 : Heap) (n0 : Nat) (Z0 : n0 ≤ h0.size) (S_E : Sta Z h0 "com/example/latchwire/latchwire/condition/ConditionalOnJava$Range" "EQUAL_OR_NEWER" "Lcom/example/latchwire/latchwire/condition/ConditionalOnJava$Range;" (.ref w3)) (S_O : Sta Z h0 "com/example/latchwire/latchwire/condition/ConditionalOnJava$Range" "OLDER_THAN" "Lcom/example/latchwire/latchwire/condition/ConditionalOnJava$Range;" (.ref w5)) (E_E : Exa Z h0 w3 "com/example/latchwire/latchwire/condition/ConditionalOnJava$Range") (E_O : Exa Z h0 w5 "com/example/latchwire/latchwire/condition/ConditionalOnJava$Range") (hne : ¬ (w5 = w3)) :
    MetFree l x (head1 (Jvm.Cond.code x code maxLocals ret :: ws) room_1) (fun a U => a = #[(.int p1), (.int p2)] ∧ Z.Warmed39 U.vm ∧ U.heap = h0) (fun _ _ _ _ _ => True) (fun _ U o U' => ∃ v L, o = .returned v ∧ own_Q_law Z p1 p2 w3 w5 h0 n0 v U'.heap L ∧ FrameEnd U o U' L room_1.cells room_1.slots) := by
  refine MetFree.of_bodySF (plainFor_of_name own_pn_law) hisR ?_
  intro p e s m args below meth c s₁ Bd hml0 hP hK
  obtain ⟨rfl, hZ, hh⟩ := hP
  have hx := Bd.exec
  have hby := Bd.bytes
  have hml : c.maxLocals = 10 := hml0
  have hown : s.vm.findClass "com/example/latchwire/latchwire/condition/RangeContainsPinLaw" = some m.cls := findClass_of_methodNamed Bd.named
  have hnm := (name_of_methodNamed Bd.named Bd.method).1
  have X0 : Stand p l e room_1 s m #[(.int p1), (.int p2)] below meth c s₁ [] 0 0 := Stand.of_body Bd
  have e0 : s₁.heap = h0 := by rw [← hh, Bd.state]; rfl
  have N0 := Fr.nil n0
  show OG.Go p.tables e below (own_Q_law Z p1 p2 w3 w5 h0 n0) room_1.cells room_1.slots s (s₁.setTop (entryFrame m #[(.int p1), (.int p2)] maxLocals))
  refine OG.Go.cast (own_ef_law m p1 p2) ?_
  by_cases hlt : p1 < p2
  · refine OG.gS X0 hx hZ hby hown (hw _ (List.mem_of_getElem? (i := 0) rfl)) Via.refl e0 S_E at_0 rfl ?_
    intro T1 X1 e1
    refine OG.astoreN (Ls' := #[.val (.int p1), .val (.int p2), .val (.ref w3), .unset, .unset, .unset, .unset, .unset, .unset, .unset]) X1 hx hby at_3 rfl rfl rfl ?_
    refine OG.gS X1 hx hZ hby hown (hw _ (List.mem_of_getElem? (i := 3) rfl)) Via.refl e1 S_O at_4 rfl ?_
    intro T2 X2 e2
    refine OG.astoreN (Ls' := #[.val (.int p1), .val (.int p2), .val (.ref w3), .val (.ref w5), .unset, .unset, .unset, .unset, .unset, .unset]) X2 hx hby at_7 rfl rfl rfl ?_
    refine OG.aloadN X2 hx hby at_8 rfl rfl rfl ?_
    refine OG.iloadN X2 hx hby at_9 rfl rfl ?_
    refine OG.iloadN X2 hx hby at_10 rfl rfl ?_
    refine OG.cV X2 hx hZ hby (by rw [hml]; rfl) hown (y := (⟨"com/example/latchwire/latchwire/condition/ConditionalOnJava$Range", "contains", "(II)Z"⟩ : MethodName)) (z := (⟨"com/example/latchwire/latchwire/condition/ConditionalOnJava$Range", "contains", "(II)Z"⟩ : MethodName)) (hw _ (List.mem_of_getElem? (i := 5) rfl)) (hw _ (List.mem_of_getElem? (i := 6) rfl)) (notFace_of_selects (args := #[]) (mvT hZ (hw _ (List.mem_of_getElem? (i := 8) rfl)))) (hw _ (List.mem_of_getElem? (i := 8) rfl)) (hw _ (List.mem_of_getElem? (i := 7) rfl)) (hw _ (List.mem_of_getElem? (i := 9) rfl)) (hw _ (List.mem_of_getElem? (i := 1) rfl)) (by decide) (own_rm_contains l Z a0 hw [] w3 p1 p2 w3 (0 : Int32) h0 n0 Z0 S_E (by simp [hlt])) E_E e2 (argsL := [(.int p1), (.int p2)]) (stk := [(.int p2), (.int p1), (.ref w3)]) (st := []) own_pd_0 rfl rfl rfl (W := 0) rfl (by decide) (by decide) (by decide) (by decide) at_11 rfl ?_
    intro T3 L3 v3 X3 q3
    obtain ⟨rfl, N3, e3⟩ := q3
    have M3 := Fr.app N0 N3
    show OG.Go _ _ _ _ _ _ _ (T3.setTop (mkF m 14 #[.val (.int p1), .val (.int p2), .val (.ref w3), .val (.ref w5), .unset, .unset, .unset, .unset, .unset, .unset] [(.int (0 : Int32))]))
    refine OG.istore (Ls' := #[.val (.int p1), .val (.int p2), .val (.ref w3), .val (.ref w5), .val (.int (0 : Int32)), .unset, .unset, .unset, .unset, .unset]) X3 hx hby at_14 rfl rfl ?_
    refine OG.aloadN X3 hx hby at_16 rfl rfl rfl ?_
    refine OG.iloadN X3 hx hby at_17 rfl rfl ?_
    refine OG.iloadN X3 hx hby at_18 rfl rfl ?_
    refine OG.cV X3 hx hZ hby (by rw [hml]; rfl) hown (y := (⟨"com/example/latchwire/latchwire/condition/ConditionalOnJava$Range", "contains", "(II)Z"⟩ : MethodName)) (z := (⟨"com/example/latchwire/latchwire/condition/ConditionalOnJava$Range", "contains", "(II)Z"⟩ : MethodName)) (hw _ (List.mem_of_getElem? (i := 5) rfl)) (hw _ (List.mem_of_getElem? (i := 6) rfl)) (notFace_of_selects (args := #[]) (mvT hZ (hw _ (List.mem_of_getElem? (i := 8) rfl)))) (hw _ (List.mem_of_getElem? (i := 8) rfl)) (hw _ (List.mem_of_getElem? (i := 7) rfl)) (hw _ (List.mem_of_getElem? (i := 9) rfl)) (hw _ (List.mem_of_getElem? (i := 1) rfl)) (by decide) (own_rm_contains l Z a0 hw [] w5 p1 p2 w3 (1 : Int32) h0 n0 Z0 S_E (by simp [hne, hlt])) E_O e3 (argsL := [(.int p1), (.int p2)]) (stk := [(.int p2), (.int p1), (.ref w5)]) (st := []) own_pd_0 rfl rfl rfl (W := 0) rfl (by decide) (by decide) (by decide) (by decide) at_19 rfl ?_
    intro T4 L4 v4 X4 q4
    obtain ⟨rfl, N4, e4⟩ := q4
    have M4 := Fr.app M3 N4
    show OG.Go _ _ _ _ _ _ _ (T4.setTop (mkF m 22 #[.val (.int p1), .val (.int p2), .val (.ref w3), .val (.ref w5), .val (.int (0 : Int32)), .unset, .unset, .unset, .unset, .unset] [(.int (1 : Int32))]))
    refine OG.istore (Ls' := #[.val (.int p1), .val (.int p2), .val (.ref w3), .val (.ref w5), .val (.int (0 : Int32)), .val (.int (1 : Int32)), .unset, .unset, .unset, .unset]) X4 hx hby at_22 rfl rfl ?_
    refine OG.aloadN X4 hx hby at_24 rfl rfl rfl ?_
    refine OG.iloadN X4 hx hby at_25 rfl rfl ?_
    refine OG.iloadN X4 hx hby at_26 rfl rfl ?_
    refine OG.cV X4 hx hZ hby (by rw [hml]; rfl) hown (y := (⟨"com/example/latchwire/latchwire/condition/ConditionalOnJava$Range", "contains", "(II)Z"⟩ : MethodName)) (z := (⟨"com/example/latchwire/latchwire/condition/ConditionalOnJava$Range", "contains", "(II)Z"⟩ : MethodName)) (hw _ (List.mem_of_getElem? (i := 5) rfl)) (hw _ (List.mem_of_getElem? (i := 6) rfl)) (notFace_of_selects (args := #[]) (mvT hZ (hw _ (List.mem_of_getElem? (i := 8) rfl)))) (hw _ (List.mem_of_getElem? (i := 8) rfl)) (hw _ (List.mem_of_getElem? (i := 7) rfl)) (hw _ (List.mem_of_getElem? (i := 9) rfl)) (hw _ (List.mem_of_getElem? (i := 1) rfl)) (by decide) (own_rm_contains l Z a0 hw [] w3 p2 p2 w3 (1 : Int32) h0 n0 Z0 S_E (by simp)) E_E e4 (argsL := [(.int p2), (.int p2)]) (stk := [(.int p2), (.int p2), (.ref w3)]) (st := []) own_pd_0 rfl rfl rfl (W := 0) rfl (by decide) (by decide) (by decide) (by decide) at_27 rfl ?_
    intro T5 L5 v5 X5 q5
    obtain ⟨rfl, N5, e5⟩ := q5
    have M5 := Fr.app M4 N5
    show OG.Go _ _ _ _ _ _ _ (T5.setTop (mkF m 30 #[.val (.int p1), .val (.int p2), .val (.ref w3), .val (.ref w5), .val (.int (0 : Int32)), .val (.int (1 : Int32)), .unset, .unset, .unset, .unset] [(.int (1 : Int32))]))
    refine OG.istore (Ls' := #[.val (.int p1), .val (.int p2), .val (.ref w3), .val (.ref w5), .val (.int (0 : Int32)), .val (.int (1 : Int32)), .val (.int (1 : Int32)), .unset, .unset, .unset]) X5 hx hby at_30 rfl rfl ?_
    refine OG.aloadN X5 hx hby at_32 rfl rfl rfl ?_
    refine OG.iloadN X5 hx hby at_33 rfl rfl ?_
    refine OG.iloadN X5 hx hby at_34 rfl rfl ?_
    refine OG.cV X5 hx hZ hby (by rw [hml]; rfl) hown (y := (⟨"com/example/latchwire/latchwire/condition/ConditionalOnJava$Range", "contains", "(II)Z"⟩ : MethodName)) (z := (⟨"com/example/latchwire/latchwire/condition/ConditionalOnJava$Range", "contains", "(II)Z"⟩ : MethodName)) (hw _ (List.mem_of_getElem? (i := 5) rfl)) (hw _ (List.mem_of_getElem? (i := 6) rfl)) (notFace_of_selects (args := #[]) (mvT hZ (hw _ (List.mem_of_getElem? (i := 8) rfl)))) (hw _ (List.mem_of_getElem? (i := 8) rfl)) (hw _ (List.mem_of_getElem? (i := 7) rfl)) (hw _ (List.mem_of_getElem? (i := 9) rfl)) (hw _ (List.mem_of_getElem? (i := 1) rfl)) (by decide) (own_rm_contains l Z a0 hw [] w5 p2 p2 w3 (0 : Int32) h0 n0 Z0 S_E (by simp [hne])) E_O e5 (argsL := [(.int p2), (.int p2)]) (stk := [(.int p2), (.int p2), (.ref w5)]) (st := []) own_pd_0 rfl rfl rfl (W := 0) rfl (by decide) (by decide) (by decide) (by decide) at_35 rfl ?_
    intro T6 L6 v6 X6 q6
    obtain ⟨rfl, N6, e6⟩ := q6
    have M6 := Fr.app M5 N6
    show OG.Go _ _ _ _ _ _ _ (T6.setTop (mkF m 38 #[.val (.int p1), .val (.int p2), .val (.ref w3), .val (.ref w5), .val (.int (0 : Int32)), .val (.int (1 : Int32)), .val (.int (1 : Int32)), .unset, .unset, .unset] [(.int (0 : Int32))]))
    refine OG.istore (Ls' := #[.val (.int p1), .val (.int p2), .val (.ref w3), .val (.ref w5), .val (.int (0 : Int32)), .val (.int (1 : Int32)), .val (.int (1 : Int32)), .val (.int (0 : Int32)), .unset, .unset]) X6 hx hby at_38 rfl rfl ?_
    refine OG.iloadN X6 hx hby at_40 rfl rfl ?_
    refine OG.i2l X6 hx hby at_41 rfl ?_
    refine OG.iloadN X6 hx hby at_42 rfl rfl ?_
    refine OG.i2l X6 hx hby at_43 rfl ?_
    refine OG.lsub X6 hx hby at_44 rfl ?_
    refine OG.lstore (Ls' := #[.val (.int p1), .val (.int p2), .val (.ref w3), .val (.ref w5), .val (.int (0 : Int32)), .val (.int (1 : Int32)), .val (.int (1 : Int32)), .val (.int (0 : Int32)), .val (.long (p1.toInt64 - p2.toInt64)), .second]) X6 hx hby at_45 rfl rfl ?_
    refine OG.iload X6 hx hby at_47 rfl rfl ?_
    refine OG.lload X6 hx hby at_49 rfl rfl ?_
    refine OG.lconst (v := (0 : Int64)) X6 hx hby at_51 (by decide) rfl ?_
    refine OG.lcmp X6 hx hby at_52 rfl ?_
    refine OG.ifYes (pc' := 60) X6 hx hby at_53 (tlt ((own_d p1 p2).mpr hlt)).1 (by decide) (by decide) ?_
    refine OG.iconst (v := (0 : Int32)) X6 hx hby at_60 (by decide) rfl ?_
    refine OG.icmpNo X6 hx hby at_61 (teq (by decide)).2 rfl ?_
    refine OG.iload X6 hx hby at_64 rfl rfl ?_
    refine OG.lload X6 hx hby at_66 rfl rfl ?_
    refine OG.lconst (v := (0 : Int64)) X6 hx hby at_68 (by decide) rfl ?_
    refine OG.lcmp X6 hx hby at_69 rfl ?_
    refine OG.ifNo X6 hx hby at_70 (tlt ((own_d p1 p2).mpr hlt)).2.1 rfl ?_
    refine OG.iconst (v := (1 : Int32)) X6 hx hby at_73 (by decide) rfl ?_
    refine OG.goto (pc' := 78) X6 hx hby at_74 (by decide) (by decide) ?_
    refine OG.icmpNo X6 hx hby at_78 (teq (by decide)).2 rfl ?_
    refine OG.iload X6 hx hby at_81 rfl rfl ?_
    refine OG.ifNo X6 hx hby at_83 (feq (by decide)).1 rfl ?_
    refine OG.iload X6 hx hby at_86 rfl rfl ?_
    refine OG.ifNo X6 hx hby at_88 (teq (by decide)).2 rfl ?_
    refine OG.iconst (v := (1 : Int32)) X6 hx hby at_91 (by decide) rfl ?_
    refine OG.goto (pc' := 96) X6 hx hby at_92 (by decide) (by decide) ?_
    refine OG.retZ X6 hx hby Bd.returns (by simp) at_96 Bd.notSynchronized (by decide) (by decide) ?_
    exact ⟨rfl, M6⟩
  · refine OG.gS X0 hx hZ hby hown (hw _ (List.mem_of_getElem? (i := 0) rfl)) Via.refl e0 S_E at_0 rfl ?_
    intro T7 X7 e7
    refine OG.astoreN (Ls' := #[.val (.int p1), .val (.int p2), .val (.ref w3), .unset, .unset, .unset, .unset, .unset, .unset, .unset]) X7 hx hby at_3 rfl rfl rfl ?_
    refine OG.gS X7 hx hZ hby hown (hw _ (List.mem_of_getElem? (i := 3) rfl)) Via.refl e7 S_O at_4 rfl ?_
    intro T8 X8 e8
    refine OG.astoreN (Ls' := #[.val (.int p1), .val (.int p2), .val (.ref w3), .val (.ref w5), .unset, .unset, .unset, .unset, .unset, .unset]) X8 hx hby at_7 rfl rfl rfl ?_
    refine OG.aloadN X8 hx hby at_8 rfl rfl rfl ?_
    refine OG.iloadN X8 hx hby at_9 rfl rfl ?_
    refine OG.iloadN X8 hx hby at_10 rfl rfl ?_
    refine OG.cV X8 hx hZ hby (by rw [hml]; rfl) hown (y := (⟨"com/example/latchwire/latchwire/condition/ConditionalOnJava$Range", "contains", "(II)Z"⟩ : MethodName)) (z := (⟨"com/example/latchwire/latchwire/condition/ConditionalOnJava$Range", "contains", "(II)Z"⟩ : MethodName)) (hw _ (List.mem_of_getElem? (i := 5) rfl)) (hw _ (List.mem_of_getElem? (i := 6) rfl)) (notFace_of_selects (args := #[]) (mvT hZ (hw _ (List.mem_of_getElem? (i := 8) rfl)))) (hw _ (List.mem_of_getElem? (i := 8) rfl)) (hw _ (List.mem_of_getElem? (i := 7) rfl)) (hw _ (List.mem_of_getElem? (i := 9) rfl)) (hw _ (List.mem_of_getElem? (i := 1) rfl)) (by decide) (own_rm_contains l Z a0 hw [] w3 p1 p2 w3 (1 : Int32) h0 n0 Z0 S_E (by simp [hlt])) E_E e8 (argsL := [(.int p1), (.int p2)]) (stk := [(.int p2), (.int p1), (.ref w3)]) (st := []) own_pd_0 rfl rfl rfl (W := 0) rfl (by decide) (by decide) (by decide) (by decide) at_11 rfl ?_
    intro T9 L9 v9 X9 q9
    obtain ⟨rfl, N9, e9⟩ := q9
    have M9 := Fr.app N0 N9
    show OG.Go _ _ _ _ _ _ _ (T9.setTop (mkF m 14 #[.val (.int p1), .val (.int p2), .val (.ref w3), .val (.ref w5), .unset, .unset, .unset, .unset, .unset, .unset] [(.int (1 : Int32))]))
    refine OG.istore (Ls' := #[.val (.int p1), .val (.int p2), .val (.ref w3), .val (.ref w5), .val (.int (1 : Int32)), .unset, .unset, .unset, .unset, .unset]) X9 hx hby at_14 rfl rfl ?_
    refine OG.aloadN X9 hx hby at_16 rfl rfl rfl ?_
    refine OG.iloadN X9 hx hby at_17 rfl rfl ?_
    refine OG.iloadN X9 hx hby at_18 rfl rfl ?_
    refine OG.cV X9 hx hZ hby (by rw [hml]; rfl) hown (y := (⟨"com/example/latchwire/latchwire/condition/ConditionalOnJava$Range", "contains", "(II)Z"⟩ : MethodName)) (z := (⟨"com/example/latchwire/latchwire/condition/ConditionalOnJava$Range", "contains", "(II)Z"⟩ : MethodName)) (hw _ (List.mem_of_getElem? (i := 5) rfl)) (hw _ (List.mem_of_getElem? (i := 6) rfl)) (notFace_of_selects (args := #[]) (mvT hZ (hw _ (List.mem_of_getElem? (i := 8) rfl)))) (hw _ (List.mem_of_getElem? (i := 8) rfl)) (hw _ (List.mem_of_getElem? (i := 7) rfl)) (hw _ (List.mem_of_getElem? (i := 9) rfl)) (hw _ (List.mem_of_getElem? (i := 1) rfl)) (by decide) (own_rm_contains l Z a0 hw [] w5 p1 p2 w3 (0 : Int32) h0 n0 Z0 S_E (by simp [hne, hlt])) E_O e9 (argsL := [(.int p1), (.int p2)]) (stk := [(.int p2), (.int p1), (.ref w5)]) (st := []) own_pd_0 rfl rfl rfl (W := 0) rfl (by decide) (by decide) (by decide) (by decide) at_19 rfl ?_
    intro T10 L10 v10 X10 q10
    obtain ⟨rfl, N10, e10⟩ := q10
    have M10 := Fr.app M9 N10
    show OG.Go _ _ _ _ _ _ _ (T10.setTop (mkF m 22 #[.val (.int p1), .val (.int p2), .val (.ref w3), .val (.ref w5), .val (.int (1 : Int32)), .unset, .unset, .unset, .unset, .unset] [(.int (0 : Int32))]))
    refine OG.istore (Ls' := #[.val (.int p1), .val (.int p2), .val (.ref w3), .val (.ref w5), .val (.int (1 : Int32)), .val (.int (0 : Int32)), .unset, .unset, .unset, .unset]) X10 hx hby at_22 rfl rfl ?_
    refine OG.aloadN X10 hx hby at_24 rfl rfl rfl ?_
    refine OG.iloadN X10 hx hby at_25 rfl rfl ?_
    refine OG.iloadN X10 hx hby at_26 rfl rfl ?_
    refine OG.cV X10 hx hZ hby (by rw [hml]; rfl) hown (y := (⟨"com/example/latchwire/latchwire/condition/ConditionalOnJava$Range", "contains", "(II)Z"⟩ : MethodName)) (z := (⟨"com/example/latchwire/latchwire/condition/ConditionalOnJava$Range", "contains", "(II)Z"⟩ : MethodName)) (hw _ (List.mem_of_getElem? (i := 5) rfl)) (hw _ (List.mem_of_getElem? (i := 6) rfl)) (notFace_of_selects (args := #[]) (mvT hZ (hw _ (List.mem_of_getElem? (i := 8) rfl)))) (hw _ (List.mem_of_getElem? (i := 8) rfl)) (hw _ (List.mem_of_getElem? (i := 7) rfl)) (hw _ (List.mem_of_getElem? (i := 9) rfl)) (hw _ (List.mem_of_getElem? (i := 1) rfl)) (by decide) (own_rm_contains l Z a0 hw [] w3 p2 p2 w3 (1 : Int32) h0 n0 Z0 S_E (by simp)) E_E e10 (argsL := [(.int p2), (.int p2)]) (stk := [(.int p2), (.int p2), (.ref w3)]) (st := []) own_pd_0 rfl rfl rfl (W := 0) rfl (by decide) (by decide) (by decide) (by decide) at_27 rfl ?_
    intro T11 L11 v11 X11 q11
    obtain ⟨rfl, N11, e11⟩ := q11
    have M11 := Fr.app M10 N11
    show OG.Go _ _ _ _ _ _ _ (T11.setTop (mkF m 30 #[.val (.int p1), .val (.int p2), .val (.ref w3), .val (.ref w5), .val (.int (1 : Int32)), .val (.int (0 : Int32)), .unset, .unset, .unset, .unset] [(.int (1 : Int32))]))
    refine OG.istore (Ls' := #[.val (.int p1), .val (.int p2), .val (.ref w3), .val (.ref w5), .val (.int (1 : Int32)), .val (.int (0 : Int32)), .val (.int (1 : Int32)), .unset, .unset, .unset]) X11 hx hby at_30 rfl rfl ?_
    refine OG.aloadN X11 hx hby at_32 rfl rfl rfl ?_
    refine OG.iloadN X11 hx hby at_33 rfl rfl ?_
    refine OG.iloadN X11 hx hby at_34 rfl rfl ?_
    refine OG.cV X11 hx hZ hby (by rw [hml]; rfl) hown (y := (⟨"com/example/latchwire/latchwire/condition/ConditionalOnJava$Range", "contains", "(II)Z"⟩ : MethodName)) (z := (⟨"com/example/latchwire/latchwire/condition/ConditionalOnJava$Range", "contains", "(II)Z"⟩ : MethodName)) (hw _ (List.mem_of_getElem? (i := 5) rfl)) (hw _ (List.mem_of_getElem? (i := 6) rfl)) (notFace_of_selects (args := #[]) (mvT hZ (hw _ (List.mem_of_getElem? (i := 8) rfl)))) (hw _ (List.mem_of_getElem? (i := 8) rfl)) (hw _ (List.mem_of_getElem? (i := 7) rfl)) (hw _ (List.mem_of_getElem? (i := 9) rfl)) (hw _ (List.mem_of_getElem? (i := 1) rfl)) (by decide) (own_rm_contains l Z a0 hw [] w5 p2 p2 w3 (0 : Int32) h0 n0 Z0 S_E (by simp [hne])) E_O e11 (argsL := [(.int p2), (.int p2)]) (stk := [(.int p2), (.int p2), (.ref w5)]) (st := []) own_pd_0 rfl rfl rfl (W := 0) rfl (by decide) (by decide) (by decide) (by decide) at_35 rfl ?_
    intro T12 L12 v12 X12 q12
    obtain ⟨rfl, N12, e12⟩ := q12
    have M12 := Fr.app M11 N12
    show OG.Go _ _ _ _ _ _ _ (T12.setTop (mkF m 38 #[.val (.int p1), .val (.int p2), .val (.ref w3), .val (.ref w5), .val (.int (1 : Int32)), .val (.int (0 : Int32)), .val (.int (1 : Int32)), .unset, .unset, .unset] [(.int (0 : Int32))]))
    refine OG.istore (Ls' := #[.val (.int p1), .val (.int p2), .val (.ref w3), .val (.ref w5), .val (.int (1 : Int32)), .val (.int (0 : Int32)), .val (.int (1 : Int32)), .val (.int (0 : Int32)), .unset, .unset]) X12 hx hby at_38 rfl rfl ?_
    refine OG.iloadN X12 hx hby at_40 rfl rfl ?_
    refine OG.i2l X12 hx hby at_41 rfl ?_
    refine OG.iloadN X12 hx hby at_42 rfl rfl ?_
    refine OG.i2l X12 hx hby at_43 rfl ?_
    refine OG.lsub X12 hx hby at_44 rfl ?_
    refine OG.lstore (Ls' := #[.val (.int p1), .val (.int p2), .val (.ref w3), .val (.ref w5), .val (.int (1 : Int32)), .val (.int (0 : Int32)), .val (.int (1 : Int32)), .val (.int (0 : Int32)), .val (.long (p1.toInt64 - p2.toInt64)), .second]) X12 hx hby at_45 rfl rfl ?_
    refine OG.iload X12 hx hby at_47 rfl rfl ?_
    refine OG.lload X12 hx hby at_49 rfl rfl ?_
    refine OG.lconst (v := (0 : Int64)) X12 hx hby at_51 (by decide) rfl ?_
    refine OG.lcmp X12 hx hby at_52 rfl ?_
    refine OG.ifNo X12 hx hby at_53 (flt (fun q => hlt ((own_d p1 p2).mp q))).1 rfl ?_
    refine OG.iconst (v := (1 : Int32)) X12 hx hby at_56 (by decide) rfl ?_
    refine OG.goto (pc' := 61) X12 hx hby at_57 (by decide) (by decide) ?_
    refine OG.icmpNo X12 hx hby at_61 (teq (by decide)).2 rfl ?_
    refine OG.iload X12 hx hby at_64 rfl rfl ?_
    refine OG.lload X12 hx hby at_66 rfl rfl ?_
    refine OG.lconst (v := (0 : Int64)) X12 hx hby at_68 (by decide) rfl ?_
    refine OG.lcmp X12 hx hby at_69 rfl ?_
    refine OG.ifYes (pc' := 77) X12 hx hby at_70 (flt (fun q => hlt ((own_d p1 p2).mp q))).2.1 (by decide) (by decide) ?_
    refine OG.iconst (v := (0 : Int32)) X12 hx hby at_77 (by decide) rfl ?_
    refine OG.icmpNo X12 hx hby at_78 (teq (by decide)).2 rfl ?_
    refine OG.iload X12 hx hby at_81 rfl rfl ?_
    refine OG.ifNo X12 hx hby at_83 (feq (by decide)).1 rfl ?_
    refine OG.iload X12 hx hby at_86 rfl rfl ?_
    refine OG.ifNo X12 hx hby at_88 (teq (by decide)).2 rfl ?_
    refine OG.iconst (v := (1 : Int32)) X12 hx hby at_91 (by decide) rfl ?_
    refine OG.goto (pc' := 96) X12 hx hby at_92 (by decide) (by decide) ?_
    refine OG.retZ X12 hx hby Bd.returns (by simp) at_96 Bd.notSynchronized (by decide) (by decide) ?_
    exact ⟨rfl, M12⟩
set_option maxRecDepth 65536 in
set_option maxHeartbeats 40000000 in
theorem comes_1 {Post : Tables → Env → Array Value → State → Outcome → State → Prop} (hpost : ∀ tb e args s v u, (limb_1_1.after args s (.returned v) u = true ∧ limb_1_2.after args s (.returned v) u = true ∧ True) → FrameEnd s (.returned v) u (Jvm.fieldLocs frame_1_writes args s ++ Jvm.arrayLocs frame_1_arrays args s ++ Jvm.staticLocs frame_1_statics s) 0 0 → Post tb e args s (.returned v) u) :
    ArmFor flags0 classFile x code maxLocals ret World_1 tables_1 room_1 Calls_1 rest_1 Pre_1 Post := by
  intro l hfl _ _ p e ha hc hk s m args below hf hA hF happ hP
  obtain ⟨hcalls, hrest, hpre⟩ := hP
  obtain ⟨-, -, -, hnamed, -, -, -, hat⟩ := (Spec.applies_iff hf).mp happ
  obtain ⟨hg, hn⟩ := and_e (Cond.before_iff.mp (show (Jvm.Cond.and given_1 narrow_1).before args s = true from hpre))
  obtain ⟨gc, gr0⟩ := and_e hg
  obtain ⟨ga0, gr1⟩ := and_e gr0
  obtain ⟨w0, w1, rfl⟩ : ∃ w0 w1 : Value, args = #[w0, w1] := by
    have hs : args.size = 2 := by simpa [Cond.value, given_1] using gc
    obtain ⟨L⟩ := args
    match L, hs with
    | [w0, w1], _ => exact ⟨w0, w1, rfl⟩
  have hw := fun d (hd : d ∈ tables_1) => atoms_spec (ws := Jvm.Cond.code x code maxLocals ret :: tables_1) hat d (List.mem_cons_of_mem _ hd)
  have hfit : Fit s := fun {y c} hc i hi => by
    obtain ⟨ha, rfl⟩ := Array.getElem?_eq_some_iff.mp hc
    have q := List.all_eq_true.mp ((Array.all_eq_true_iff_forall_mem.mp hF) _ (Array.getElem_mem ha)) i (List.mem_range.mpr hi)
    simpa [Array.getElem?_eq_getElem hi] using q
  obtain ⟨i0, ei0⟩ := is_v ga0
  obtain rfl : w0 = (.int i0) := Option.some.inj ei0
  obtain ⟨i1, ei1⟩ := is_v gr1
  obtain rfl : w1 = (.int i1) := Option.some.inj ei1
  obtain ⟨cj0, cr0⟩ := and_e hn
  obtain ⟨cj1, cr1⟩ := and_e cr0
  obtain ⟨cj2, cr2⟩ := and_e cr1
  obtain ⟨w_EQUAL_OR_NEWER, ev_EQUAL_OR_NEWER⟩ := exa_v cj0
  have E_EQUAL_OR_NEWER := Exa.start ev_EQUAL_OR_NEWER cj0
  have S_EQUAL_OR_NEWER := Sta.start ev_EQUAL_OR_NEWER (Or.inr ⟨(hw _ (List.mem_of_getElem? (i := 1) rfl)), (hw _ (List.mem_of_getElem? (i := 2) rfl))⟩)
  obtain ⟨w_OLDER_THAN, ev_OLDER_THAN⟩ := exa_v cj1
  have E_OLDER_THAN := Exa.start ev_OLDER_THAN cj1
  have S_OLDER_THAN := Sta.start ev_OLDER_THAN (Or.inr ⟨(hw _ (List.mem_of_getElem? (i := 1) rfl)), (hw _ (List.mem_of_getElem? (i := 4) rfl))⟩)
  have F_OLDER_THAN_ordinal := Fld.start ((fld_at ev_OLDER_THAN).symm.trans (OG.eqI_v cj2))
  have F_EQUAL_OR_NEWER_ordinal := Fld.start ((fld_at ev_EQUAL_OR_NEWER).symm.trans (OG.eqI_v cr2))
  have hne : ¬ (w_OLDER_THAN = w_EQUAL_OR_NEWER) := Fld.ne F_OLDER_THAN_ordinal F_EQUAL_OR_NEWER_ordinal (by decide)
  obtain ⟨n, o, h1, h2, h3, _, L, rfl, ⟨rfl, N⟩, hq⟩ := own_rm_law l s _ hw tables_1 i0 i1 w_EQUAL_OR_NEWER w_OLDER_THAN s.heap s.heap.size (Nat.le_refl _) S_EQUAL_OR_NEWER S_OLDER_THAN E_EQUAL_OR_NEWER E_OLDER_THAN hne p e ha hc hk s m _ below hf ((Spec.applies_iff_loose hf).mp happ).1 ⟨rfl, State.Warmed39.refl s, rfl⟩ trivial
  refine ⟨n, _, h1, h2, h3, hpost _ _ _ _ _ _ ⟨Cond.after_iff.mpr rfl, Cond.after_iff.mpr (eq_i res_at (Term.int_eval (1)) rfl), trivial⟩ ⟨hq.1, hq.2.1, (hq.2.2.sift fun y hy => Or.inr (N y hy)).mono (by decide) (by decide)⟩⟩
theorem main_1_1 : Claimed_1_1 := comes_1 fun _ _ _ _ _ _ h hF => ⟨h.1, hF⟩
theorem main_1_2 : Claimed_1_2 := comes_1 fun _ _ _ _ _ _ h hF => ⟨h.2.1, hF⟩
end Jvm.Pilot.@@N@@
namespace Jvm.Pilot.@@N@@
open Jvm Jvm.ClassFile Sem Op Lib Jvm.Free Jvm.Stand Jvm.Pilot.@@N@@.Jvm.D
/-! MADE BY PROGRAM (witnessworld.py) out of the Statement's table words and the real class files: 12 classes; the members and pool entries that the words name. The judged class is class 1, her method 1. -/
namespace start1
open Jvm.ClassFile
def u (s : String) : CpInfo := .utf8 (stringToUtf16 s)
/-- a pool by its gaps: so many unusable entries, then the entry; so many at the end -/
def gap : Nat → List CpInfo → List CpInfo
  | 0, r => r
  | n + 1, r => .unusable :: gap n r
def poolList (es : List (Nat × CpInfo)) (last : Nat) : List CpInfo := es.foldr (fun e r => gap e.1 (e.2 :: r)) (gap last [])
def pool (es : List (Nat × CpInfo)) (last : Nat) : Array CpInfo := ⟨poolList es last⟩
def fileOf (pool : Array CpInfo) (this : Nat) (attrs : Array Attribute := #[]) (ms : Array MethodInfo := #[]) (fl : Nat := 33) (sup : Nat := 0) (ifs : Array Nat := #[]) (fds : Array FieldInfo := #[]) : ClassFile where
  minorVersion := 0
  majorVersion := 65
  constantPool := pool
  accessFlags := fl
  thisClass := this
  superClass := sup
  interfaces := ifs
  fields := fds
  methods := ms
  attributes := attrs
def plain (name : String) (sup : Option ClassId) : Class where
  name := name
  kind := .ordinary
  loader := none
  accessFlags := 33
  super := sup
  interfaces := #[]
  cf := none
  fields := #[]
  methods := #[]
  instanceTypes := #[]
  staticTypes := #[]
  resolved := #[]
  callSites := []
  init := .initialized
  statics := none
  mirror := none

def pool0 : Array CpInfo := pool [(5, u "<init>"), (0, u "()V"), (1, .class_ 10), (1, u "java/lang/Object")] 113

def k0m0 : Method := { name := "<init>", desc := "()V", sig := { parameters := [], returnType := none }, accessFlags := 1, code := none }
/-- java/lang/Object -/
def k0 : Class := { plain "java/lang/Object" none with
  accessFlags := 33
  interfaces := #[]
  cf := some (fileOf pool0 8 #[] #[{ accessFlags := 1, nameIndex := 5, descriptorIndex := 6, attributes := #[] }] 33 0 #[] #[])
  fields := #[]
  methods := #[k0m0]
  instanceTypes := #[]
  staticTypes := #[]
  resolved := Array.replicate 124 none
  statics := none }

def pool1 : Array CpInfo := pool [(2, .class_ 4), (1, u "java/lang/Object"), (0, u "<init>"), (0, u "()V"), (0, .fieldref 8 9), (0, .class_ 10), (0, .nameAndType 11 12), (0, u "com/example/latchwire/latchwire/condition/ConditionalOnJava$Range"), (0, u "EQUAL_OR_NEWER"), (0, u "Lcom/example/latchwire/latchwire/condition/ConditionalOnJava$Range;"), (0, .fieldref 8 14), (0, .nameAndType 15 12), (0, u "OLDER_THAN"), (0, .methodref 8 17), (0, .nameAndType 18 19), (0, u "contains"), (0, u "(II)Z"), (0, .class_ 21), (0, u "com/example/latchwire/latchwire/condition/RangeContainsPinLaw"), (2, u "law")] 7

def k1m0 : Method := { name := "<init>", desc := "()V", sig := { parameters := [], returnType := none }, accessFlags := 1, code := none }
def k1c1 : Code := { maxStack := 5, maxLocals := 10, code := code, exceptionTable := #[], attributes := #[] }
def k1m1 : Method := { name := "law", desc := "(II)Z", sig := { parameters := [.int, .int], returnType := some .boolean }, accessFlags := 9, code := some k1c1 }
/-- com/example/latchwire/latchwire/condition/RangeContainsPinLaw -/
def k1 : Class := { plain "com/example/latchwire/latchwire/condition/RangeContainsPinLaw" (some 0) with
  accessFlags := 49
  interfaces := #[]
  cf := some (fileOf pool1 20 #[] #[{ accessFlags := 1, nameIndex := 5, descriptorIndex := 6, attributes := #[] }, { accessFlags := 9, nameIndex := 24, descriptorIndex := 19, attributes := #[] }] 49 2 #[] #[])
  fields := #[]
  methods := #[k1m0, k1m1]
  instanceTypes := #[]
  staticTypes := #[]
  resolved := Array.replicate 32 none
  statics := none }

def pool2 : Array CpInfo := pool [(1, .class_ 2), (0, u "java/lang/constant/Constable"), (0, .class_ 4), (0, u "java/lang/Object")] 6

/-- java/lang/constant/Constable -/
def k2 : Class := { plain "java/lang/constant/Constable" (some 0) with
  accessFlags := 1537
  interfaces := #[]
  cf := some (fileOf pool2 1 #[] #[] 1537 3 #[] #[])
  fields := #[]
  methods := #[]
  instanceTypes := #[]
  staticTypes := #[]
  resolved := Array.replicate 11 none
  statics := none }

def pool3 : Array CpInfo := pool [(1, .class_ 2), (0, u "java/lang/Comparable"), (0, .class_ 4), (0, u "java/lang/Object")] 7

/-- java/lang/Comparable -/
def k3 : Class := { plain "java/lang/Comparable" (some 0) with
  accessFlags := 1537
  interfaces := #[]
  cf := some (fileOf pool3 1 #[] #[] 1537 3 #[] #[])
  fields := #[]
  methods := #[]
  instanceTypes := #[]
  staticTypes := #[]
  resolved := Array.replicate 12 none
  statics := none }

def pool4 : Array CpInfo := pool [(1, .class_ 2), (0, u "java/io/Serializable"), (0, .class_ 4), (0, u "java/lang/Object")] 2

/-- java/io/Serializable -/
def k4 : Class := { plain "java/io/Serializable" (some 0) with
  accessFlags := 1537
  interfaces := #[]
  cf := some (fileOf pool4 1 #[] #[] 1537 3 #[] #[])
  fields := #[]
  methods := #[]
  instanceTypes := #[]
  staticTypes := #[]
  resolved := Array.replicate 7 none
  statics := none }

def pool5 : Array CpInfo := pool [(2, .class_ 4), (1, u "java/lang/Enum"), (0, u "name"), (0, u "Ljava/lang/String;"), (2, u "ordinal"), (0, u "I"), (1, .class_ 14), (1, u "java/lang/Object"), (4, u "hash"), (86, .class_ 108), (1, u "java/lang/Enum$EnumDesc"), (2, .class_ 112), (0, u "java/lang/constant/Constable"), (0, .class_ 114), (0, u "java/lang/Comparable"), (0, .class_ 116), (0, u "java/io/Serializable")] 87

/-- java/lang/Enum -/
def k5 : Class := { plain "java/lang/Enum" (some 0) with
  accessFlags := 1057
  interfaces := #[2, 3, 4]
  cf := some (fileOf pool5 2 #[.nestMembers #[106]] #[] 1057 12 #[111, 113, 115] #[{ accessFlags := 18, nameIndex := 5, descriptorIndex := 6, attributes := #[] }, { accessFlags := 18, nameIndex := 9, descriptorIndex := 10, attributes := #[] }, { accessFlags := 2, nameIndex := 19, descriptorIndex := 10, attributes := #[] }])
  fields := #[{ name := "name", type := (.object "java/lang/String"), accessFlags := 18, slot := 0, constantValue := 0 }, { name := "ordinal", type := .int, accessFlags := 18, slot := 1, constantValue := 0 }, { name := "hash", type := .int, accessFlags := 2, slot := 2, constantValue := 0 }]
  methods := #[]
  instanceTypes := #[(.object "java/lang/String"), .int, .int]
  staticTypes := #[]
  resolved := Array.replicate 204 none
  statics := none }

def pool6 : Array CpInfo := pool [(1, .class_ 2), (0, u "com/example/latchwire/latchwire/condition/ConditionalOnJava$Range"), (0, .fieldref 1 4), (0, .nameAndType 5 6), (0, u "EQUAL_OR_NEWER"), (0, u "Lcom/example/latchwire/latchwire/condition/ConditionalOnJava$Range;"), (2, u "OLDER_THAN"), (2, u "$VALUES"), (0, u "[Lcom/example/latchwire/latchwire/condition/ConditionalOnJava$Range;"), (6, .class_ 22), (1, u "java/lang/Enum"), (8, u "description"), (0, u "Ljava/lang/String;"), (20, u "contains"), (0, u "(II)Z"), (8, .class_ 64), (0, u "com/example/latchwire/latchwire/condition/ConditionalOnJava")] 2

def k6c0 : Code := { maxStack := 2, maxLocals := 3, code := prog_8_method_4_code, exceptionTable := #[], attributes := #[] }
def k6m0 : Method := { name := "contains", desc := "(II)Z", sig := { parameters := [.int, .int], returnType := some .boolean }, accessFlags := 0, code := some k6c0 }
/-- com/example/latchwire/latchwire/condition/ConditionalOnJava$Range -/
def k6 : Class := { plain "com/example/latchwire/latchwire/condition/ConditionalOnJava$Range" (some 5) with
  accessFlags := 16433
  interfaces := #[]
  cf := some (fileOf pool6 1 #[.nestHost 63] #[{ accessFlags := 0, nameIndex := 53, descriptorIndex := 54, attributes := #[] }] 16433 20 #[] #[{ accessFlags := 16409, nameIndex := 5, descriptorIndex := 6, attributes := #[] }, { accessFlags := 16409, nameIndex := 9, descriptorIndex := 6, attributes := #[] }, { accessFlags := 18, nameIndex := 31, descriptorIndex := 32, attributes := #[] }, { accessFlags := 4122, nameIndex := 12, descriptorIndex := 13, attributes := #[] }])
  fields := #[{ name := "EQUAL_OR_NEWER", type := (.object "com/example/latchwire/latchwire/condition/ConditionalOnJava$Range"), accessFlags := 16409, slot := 0, constantValue := 0 }, { name := "OLDER_THAN", type := (.object "com/example/latchwire/latchwire/condition/ConditionalOnJava$Range"), accessFlags := 16409, slot := 1, constantValue := 0 }, { name := "description", type := (.object "java/lang/String"), accessFlags := 18, slot := 3, constantValue := 0 }, { name := "$VALUES", type := (.array (.object "com/example/latchwire/latchwire/condition/ConditionalOnJava$Range")), accessFlags := 4122, slot := 2, constantValue := 0 }]
  methods := #[k6m0]
  instanceTypes := #[(.object "java/lang/String"), .int, .int, (.object "java/lang/String")]
  staticTypes := #[(.object "com/example/latchwire/latchwire/condition/ConditionalOnJava$Range"), (.object "com/example/latchwire/latchwire/condition/ConditionalOnJava$Range"), (.array (.object "com/example/latchwire/latchwire/condition/ConditionalOnJava$Range"))]
  resolved := Array.replicate 67 none
  statics := some 0 }

def pool7 : Array CpInfo := pool [(1, u "java/lang/Cloneable"), (0, .class_ 1), (0, u "java/lang/Object"), (0, .class_ 3)] 3

/-- java/lang/Cloneable -/
def k7 : Class := { plain "java/lang/Cloneable" (some 0) with
  accessFlags := 1537
  interfaces := #[]
  cf := some (fileOf pool7 2 #[] #[] 1537 4 #[] #[])
  fields := #[]
  methods := #[]
  instanceTypes := #[]
  staticTypes := #[]
  resolved := Array.replicate 8 none
  statics := none }

/-- the primitive byte -/
def k8 : Class := { plain "byte" none with kind := .primitive 'B', accessFlags := 0x411 }
/-- [B -/
def k9 : Class := { plain "[B" (some 0) with kind := .array 8 .byte, interfaces := #[7, 4], accessFlags := 1041 }

/-- the primitive int -/
def k10 : Class := { plain "int" none with kind := .primitive 'I', accessFlags := 0x411 }
/-- [I -/
def k11 : Class := { plain "[I" (some 0) with kind := .array 10 .int, interfaces := #[7, 4], accessFlags := 1041 }

def heap : Heap := #[{ cls := 6, slots := #[.ref 1, .ref 2, .null], vm := .statics 6 },
  { cls := 6, slots := #[.null, .int 0, .int 0, .null], vm := .none },
  { cls := 6, slots := #[.null, .int 1, .int 0, .null], vm := .none }]
def classes : Array Class := #[k0, k1, k2, k3, k4, k5, k6, k7, k8, k9, k10, k11]
def interned : List (Array UInt16 × Addr) := []
def slotsUsed : Nat := 11
def theMethod : MethodId := ⟨1, 1⟩
def args0 : Array Value := #[.int 5, .int 3]
def aboutOver (below : List Frame) : State where
  vm := { classes := classes, interned := interned.toArray }
  heap := heap
  slotsUsed := slotsUsed
  threads := #[{ frames := .invoking theMethod args0 :: below }]
def below0 : List Frame := [.native { method := ⟨0, 0⟩, args := #[] }]
def about1 : State := aboutOver below0
def p0 : Program := .bare "" "" ""
def e0 : Env := launch0.env 0 0 0
theorem w_frames : about1.frames = Frame.invoking theMethod args0 :: below0 := rfl
set_option maxRecDepth 65536 in
theorem w_args : argsFit about1.vm theMethod args0 = true := by decide +kernel
set_option maxRecDepth 65536 in
theorem w_heap : heapFits about1 = true := by decide +kernel
set_option maxRecDepth 65536 in
theorem w_runnable : about1.curStatus? = some .runnable := by decide +kernel
set_option maxRecDepth 65536 in
theorem w_alone : about1.alone = true := by decide +kernel
set_option maxRecDepth 65536 in
theorem w_named : about1.methodNamed? x = some theMethod := by decide +kernel
set_option maxRecDepth 65536 in
theorem w_hears : about1.hears theMethod below0 = true := by decide +kernel
set_option maxRecDepth 65536 in
theorem w_ripe : about1.ripe theMethod args0 below0 = true := by decide +kernel
theorem w_running : about1.status = .running := rfl
set_option maxRecDepth 65536 in
theorem w_room : about1.hasRoom e0.platform room_1 = true :=
  launch0.hasRoom_least _ room_1 (by decide +kernel) (by decide +kernel) (by decide +kernel) (by decide +kernel) (by decide +kernel) (by decide +kernel)
theorem allAtoms_all (ts : List Jvm.Cond) (a : Array Jvm.Value) (st : Jvm.State) : (allAtoms ts).before a st = ts.all (fun c => c.before a st) := by
  induction ts with
  | nil => rfl
  | cons c t ih =>
    show (Jvm.Cond.and c (allAtoms t)).before a st = _
    rw [Jvm.Cond.before_and, ih, List.all_cons]
def words1 : List Jvm.Cond := Jvm.Cond.code x code maxLocals ret :: tables_1
/-- a 'code' word, met by the world's own term for the bytes: nothing is compared byte by byte -/
theorem code_word {y : MethodName} {bytes : ByteArray} {mx : Nat} {rt : Option FieldType} {a : Array Value} {s : State} {m : MethodId} {meth : Method} {c : Code} (h1 : s.methodNamed? y = some m) (h2 : s.vm.method? m = some meth) (h3 : meth.code = some c) (h4 : c.code = bytes)
    (h5 : (c.maxLocals == mx && c.exceptionTable.isEmpty && decide (c.maxStack ≤ mostOperands) && decide (meth.sig.returnType = rt) && !meth.locks && decide (parseMethodDescriptor y.desc = some meth.sig)) = true) : (Jvm.Cond.code y bytes mx rt).before a s = true := by
  simp only [Bool.and_eq_true, beq_iff_eq, Bool.not_eq_true', decide_eq_true_eq] at h5
  obtain ⟨⟨⟨⟨⟨g1, g2⟩, g3⟩, g4⟩, g5⟩, g6⟩ := h5
  simp [Cond.before, Cond.holds, Cond.value, h1, h2, h3, h4, g1, g2, g3, g4, g5, g6]
def isCode : Jvm.Cond → Bool
  | .code _ _ _ _ => true
  | _ => false
theorem all_split {L : List Jvm.Cond} {P : Jvm.Cond → Bool} (h1 : L.all (fun c => isCode c || P c) = true) (h2 : ∀ c ∈ L.filter isCode, P c = true) : L.all P = true := by
  refine List.all_eq_true.mpr fun c hc => ?_
  have h := List.all_eq_true.mp h1 c hc
  rcases Bool.eq_false_or_eq_true (isCode c) with hi | hi
  · exact h2 c (List.mem_filter.mpr ⟨hc, hi⟩)
  · simpa [hi] using h
set_option maxRecDepth 65536 in
theorem w_c0 : (Jvm.Cond.code x code maxLocals ret).before args0 about1 = true := code_word (m := ⟨1, 1⟩) (meth := k1m1) (c := k1c1) (by decide +kernel) rfl rfl rfl (by decide +kernel)
set_option maxRecDepth 65536 in
theorem w_c1 : (Jvm.Cond.code ({ cls := "com/example/latchwire/latchwire/condition/ConditionalOnJava$Range", name := "contains", desc := "(II)Z" } : Jvm.MethodName) prog_8_method_4_code (3 : Nat) (Option.some Jvm.ClassFile.FieldType.boolean)).before args0 about1 = true := code_word (m := ⟨6, 0⟩) (meth := k6m0) (c := k6c0) (by decide +kernel) rfl rfl rfl (by decide +kernel)
def codes1 : List Jvm.Cond := [Jvm.Cond.code x code maxLocals ret, Jvm.Cond.code ({ cls := "com/example/latchwire/latchwire/condition/ConditionalOnJava$Range", name := "contains", desc := "(II)Z" } : Jvm.MethodName) prog_8_method_4_code (3 : Nat) (Option.some Jvm.ClassFile.FieldType.boolean)]
set_option maxRecDepth 65536 in
theorem codes_eq : words1.filter isCode = codes1 := rfl
theorem w_codes : ∀ c ∈ words1.filter isCode, c.before args0 about1 = true := by
  rw [codes_eq]
  intro c hc
  simp only [codes1, List.mem_cons, List.not_mem_nil, or_false] at hc
  rcases hc with rfl | rfl
  · exact w_c0
  · exact w_c1
set_option maxRecDepth 65536 in
theorem w_t1 : words1.all (fun c => isCode c || c.before args0 about1) = true := by decide +kernel
theorem w_tables : (allAtoms (Jvm.Cond.code x code maxLocals ret :: tables_1)).before args0 about1 = true := by
  rw [allAtoms_all]
  show words1.all (fun c => c.before args0 about1) = true
  refine all_split ?_ w_codes
  rw [w_t1]
set_option maxRecDepth 65536 in
theorem w_case : (Jvm.Cond.and given_1 narrow_1).before args0 about1 = true := by decide +kernel
theorem w_applies : (headSpec (Jvm.Cond.code x code maxLocals ret :: tables_1) room_1).applies x e0.platform about1 = true :=
  (Spec.applies_iff w_frames).mpr ⟨w_running, w_runnable, w_alone, w_named, w_hears, w_ripe, w_room, w_tables⟩
theorem atStart : AtStart classFile x code maxLocals ret World_1 tables_1 room_1 Calls_1 rest_1 Pre_1 launch0 p0 e0 about1 theMethod args0 below0 :=
  ⟨lists_1, trivial, launch0.admits_env _ _ _, launch0.least_env, fairChoices_fair.cas, fairChoices_fair.clock, w_frames, w_args, w_heap, w_applies, trivial, trivial, w_case⟩
end start1
theorem witness_1 : WitnessClaimed_1 := ⟨start1.p0, start1.e0, start1.about1, start1.theMethod, start1.args0, start1.below0, start1.atStart⟩
end Jvm.Pilot.@@N@@
