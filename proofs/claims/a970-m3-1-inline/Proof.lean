import JvmDerived
import JvmDerived.Pilot.@@N@@Statement
import JvmDerived.Pilot.@@N@@Code
set_option linter.unusedVariables false
set_option linter.unusedSimpArgs false
@@BLOCK:NumsL.lean.txt@@
namespace Jvm.OG
open Sem ClassFile Op Lib Jvm.Stand Jvm.Free Jvm.LawKit Jvm.RoadKit
/-- from U the run comes to the method's return, with Q of what it returns, the heap there and the places written -/
def Go (tb : Tables) (e : Env) (below : List Frame) (G : Outcome → State → Option Value → List Loc → Prop) (U : State) : Prop :=
  ∃ s₂ o, Steps tb e below U s₂ ∧ s₂.status = .running ∧ Ended s₂ below o ∧ ∃ v L, o = .returned v ∧ G o s₂ v L
/-- the end of a body that loads no String constant -/
def GP (Q : Option Value → Heap → List Loc → Prop) (kc ks : Nat) (s : State) (o : Outcome) (t : State) (v : Option Value) (L : List Loc) : Prop := Q v t.heap L ∧ FrameEnd s o t L kc ks
theorem Go.step {tb : Tables} {e : Env} {below : List Frame} {G : Outcome → State → Option Value → List Loc → Prop} {U U' : State} (st : ∀ t, Steps tb e below U' t → Steps tb e below U t) (k : Go tb e below G U') : Go tb e below G U := by
  obtain ⟨s₂, o, h1, r⟩ := k
  exact ⟨s₂, o, st _ h1, r⟩
theorem Go.via {tb : Tables} {e : Env} {below : List Frame} {G : Outcome → State → Option Value → List Loc → Prop} {U U' : State} (st : Steps tb e below U U') (k : Go tb e below G U') : Go tb e below G U := by
  obtain ⟨s₂, o, h1, r⟩ := k
  exact ⟨s₂, o, st.trans h1, r⟩
theorem Go.cast {tb : Tables} {e : Env} {below : List Frame} {G : Outcome → State → Option Value → List Loc → Prop} {T : State} {g g' : JFrame} (q : g = g') (k : Go tb e below G (T.setTop g')) : Go tb e below G (T.setTop g) := q ▸ k
section Steps1
variable {p : Program} {l : Launch} {e : Env} {R : Room} {s : State} {m : MethodId} {args : Array Value} {below : List Frame} {meth : Method} {c : Code} {T : State} {locs : List Loc} {cells slots : Nat} {G : Outcome → State → Option Value → List Loc → Prop} {Q : Option Value → Heap → List Loc → Prop} {kc ks : Nat} {code : ByteArray} {pc pc' : Nat} {Ls Ls' : Array Slot} {st : List Value}
theorem iloadN (X : Stand p l e R s m args below meth c T locs cells slots) (hx : p.tables.exec = Jvm.exec) (hby : c.code = code) {k : Fin 4} {v : Int32} (hd : decode code pc = .ok (.iload_n k, 1)) (hl : Ls[k.val]? = some (.val (.int v))) (hp : pc + 1 = pc')
    (K : Go p.tables e below G (T.setTop (mkF m pc' Ls (.int v :: st)))) : Go p.tables e below G (T.setTop (mkF m pc Ls st)) := by
  subst hp
  exact Go.step (fun _ hr => XS.iloadN X.here hx rfl (hb hby hd) hl hr) K
theorem lloadN (X : Stand p l e R s m args below meth c T locs cells slots) (hx : p.tables.exec = Jvm.exec) (hby : c.code = code) {k : Fin 4} {v : Int64} (hd : decode code pc = .ok (.lload_n k, 1)) (hl : Ls[k.val]? = some (.val (.long v))) (hp : pc + 1 = pc')
    (K : Go p.tables e below G (T.setTop (mkF m pc' Ls (.long v :: st)))) : Go p.tables e below G (T.setTop (mkF m pc Ls st)) := by
  subst hp
  exact Go.step (fun _ hr => XS.lloadN X.here hx rfl (hb hby hd) hl hr) K
theorem aloadN (X : Stand p l e R s m args below meth c T locs cells slots) (hx : p.tables.exec = Jvm.exec) (hby : c.code = code) {k : Fin 4} {v : Value} (hd : decode code pc = .ok (.aload_n k, 1)) (hl : Ls[k.val]? = some (.val v)) (hv : v.isRef = true) (hp : pc + 1 = pc')
    (K : Go p.tables e below G (T.setTop (mkF m pc' Ls (v :: st)))) : Go p.tables e below G (T.setTop (mkF m pc Ls st)) := by
  subst hp
  exact Go.step (fun _ hr => XS.aloadN X.here hx rfl (hb hby hd) hl hv hr) K
theorem iload (X : Stand p l e R s m args below meth c T locs cells slots) (hx : p.tables.exec = Jvm.exec) (hby : c.code = code) {k : Nat} {v : Int32} (hd : decode code pc = .ok (.iload k, 2)) (hl : Ls[k]? = some (.val (.int v))) (hp : pc + 2 = pc')
    (K : Go p.tables e below G (T.setTop (mkF m pc' Ls (.int v :: st)))) : Go p.tables e below G (T.setTop (mkF m pc Ls st)) := by
  subst hp
  exact Go.step (fun _ hr => XS.iload X.here hx rfl (hb hby hd) hl hr) K
theorem lload (X : Stand p l e R s m args below meth c T locs cells slots) (hx : p.tables.exec = Jvm.exec) (hby : c.code = code) {k : Nat} {v : Int64} (hd : decode code pc = .ok (.lload k, 2)) (hl : Ls[k]? = some (.val (.long v))) (hp : pc + 2 = pc')
    (K : Go p.tables e below G (T.setTop (mkF m pc' Ls (.long v :: st)))) : Go p.tables e below G (T.setTop (mkF m pc Ls st)) := by
  subst hp
  exact Go.step (fun _ hr => XS.lload X.here hx rfl (hb hby hd) hl hr) K
theorem aload (X : Stand p l e R s m args below meth c T locs cells slots) (hx : p.tables.exec = Jvm.exec) (hby : c.code = code) {k : Nat} {v : Value} (hd : decode code pc = .ok (.aload k, 2)) (hl : Ls[k]? = some (.val v)) (hv : v.isRef = true) (hp : pc + 2 = pc')
    (K : Go p.tables e below G (T.setTop (mkF m pc' Ls (v :: st)))) : Go p.tables e below G (T.setTop (mkF m pc Ls st)) := by
  subst hp
  exact Go.step (fun _ hr => XS.aload X.here hx rfl (hb hby hd) hl hv hr) K
theorem istoreN (X : Stand p l e R s m args below meth c T locs cells slots) (hx : p.tables.exec = Jvm.exec) (hby : c.code = code) {k : Fin 4} {v : Int32} (hd : decode code pc = .ok (.istore_n k, 1)) (hl : storeLocals Ls k.val (.int v) = some Ls') (hp : pc + 1 = pc')
    (K : Go p.tables e below G (T.setTop (mkF m pc' Ls' st))) : Go p.tables e below G (T.setTop (mkF m pc Ls (.int v :: st))) := by
  subst hp
  exact Go.step (fun _ hr => XS.istoreN X.here hx rfl (hb hby hd) rfl hl hr) K
theorem lstoreN (X : Stand p l e R s m args below meth c T locs cells slots) (hx : p.tables.exec = Jvm.exec) (hby : c.code = code) {k : Fin 4} {v : Int64} (hd : decode code pc = .ok (.lstore_n k, 1)) (hl : storeLocals Ls k.val (.long v) = some Ls') (hp : pc + 1 = pc')
    (K : Go p.tables e below G (T.setTop (mkF m pc' Ls' st))) : Go p.tables e below G (T.setTop (mkF m pc Ls (.long v :: st))) := by
  subst hp
  exact Go.step (fun _ hr => XS.lstoreN X.here hx rfl (hb hby hd) rfl hl hr) K
theorem astoreN (X : Stand p l e R s m args below meth c T locs cells slots) (hx : p.tables.exec = Jvm.exec) (hby : c.code = code) {k : Fin 4} {v : Value} (hd : decode code pc = .ok (.astore_n k, 1)) (hv : v.isRef = true) (hl : storeLocals Ls k.val v = some Ls') (hp : pc + 1 = pc')
    (K : Go p.tables e below G (T.setTop (mkF m pc' Ls' st))) : Go p.tables e below G (T.setTop (mkF m pc Ls (v :: st))) := by
  subst hp
  exact Go.step (fun _ hr => XS.astoreN X.here hx rfl (hb hby hd) rfl hv hl hr) K
theorem istore (X : Stand p l e R s m args below meth c T locs cells slots) (hx : p.tables.exec = Jvm.exec) (hby : c.code = code) {k : Nat} {v : Int32} (hd : decode code pc = .ok (.istore k, 2)) (hl : storeLocals Ls k (.int v) = some Ls') (hp : pc + 2 = pc')
    (K : Go p.tables e below G (T.setTop (mkF m pc' Ls' st))) : Go p.tables e below G (T.setTop (mkF m pc Ls (.int v :: st))) := by
  subst hp
  exact Go.step (fun _ hr => XS.istore X.here hx rfl (hb hby hd) rfl hl hr) K
theorem lstore (X : Stand p l e R s m args below meth c T locs cells slots) (hx : p.tables.exec = Jvm.exec) (hby : c.code = code) {k : Nat} {v : Int64} (hd : decode code pc = .ok (.lstore k, 2)) (hl : storeLocals Ls k (.long v) = some Ls') (hp : pc + 2 = pc')
    (K : Go p.tables e below G (T.setTop (mkF m pc' Ls' st))) : Go p.tables e below G (T.setTop (mkF m pc Ls (.long v :: st))) := by
  subst hp
  exact Go.step (fun _ hr => XS.lstore X.here hx rfl (hb hby hd) rfl hl hr) K
theorem astore (X : Stand p l e R s m args below meth c T locs cells slots) (hx : p.tables.exec = Jvm.exec) (hby : c.code = code) {k : Nat} {v : Value} (hd : decode code pc = .ok (.astore k, 2)) (hv : v.isRef = true) (hl : storeLocals Ls k v = some Ls') (hp : pc + 2 = pc')
    (K : Go p.tables e below G (T.setTop (mkF m pc' Ls' st))) : Go p.tables e below G (T.setTop (mkF m pc Ls (v :: st))) := by
  subst hp
  exact Go.step (fun _ hr => XS.astore X.here hx rfl (hb hby hd) rfl hv hl hr) K
theorem iconst (X : Stand p l e R s m args below meth c T locs cells slots) (hx : p.tables.exec = Jvm.exec) (hby : c.code = code) {i : Int} {v : Int32} (hd : decode code pc = .ok (.iconst i, 1)) (hv : Int32.ofInt i = v) (hp : pc + 1 = pc')
    (K : Go p.tables e below G (T.setTop (mkF m pc' Ls (.int v :: st)))) : Go p.tables e below G (T.setTop (mkF m pc Ls st)) := by
  subst hp
  subst hv
  exact Go.step (fun _ hr => XS.iconst X.here hx rfl (hb hby hd)  hr) K
theorem bipush (X : Stand p l e R s m args below meth c T locs cells slots) (hx : p.tables.exec = Jvm.exec) (hby : c.code = code) {i : Int} {v : Int32} (hd : decode code pc = .ok (.bipush i, 2)) (hv : (Int8.ofInt i).toInt32 = v) (hp : pc + 2 = pc')
    (K : Go p.tables e below G (T.setTop (mkF m pc' Ls (.int v :: st)))) : Go p.tables e below G (T.setTop (mkF m pc Ls st)) := by
  subst hp
  subst hv
  exact Go.step (fun _ hr => XS.bipush X.here hx rfl (hb hby hd)  hr) K
theorem sipush (X : Stand p l e R s m args below meth c T locs cells slots) (hx : p.tables.exec = Jvm.exec) (hby : c.code = code) {i : Int} {v : Int32} (hd : decode code pc = .ok (.sipush i, 3)) (hv : (Int16.ofInt i).toInt32 = v) (hp : pc + 3 = pc')
    (K : Go p.tables e below G (T.setTop (mkF m pc' Ls (.int v :: st)))) : Go p.tables e below G (T.setTop (mkF m pc Ls st)) := by
  subst hp
  subst hv
  exact Go.step (fun _ hr => XS.sipush X.here hx rfl (hb hby hd)  hr) K
theorem lconst (X : Stand p l e R s m args below meth c T locs cells slots) (hx : p.tables.exec = Jvm.exec) (hby : c.code = code) {i : Fin 2} {v : Int64} (hd : decode code pc = .ok (.lconst i, 1)) (hv : Int64.ofNat i = v) (hp : pc + 1 = pc')
    (K : Go p.tables e below G (T.setTop (mkF m pc' Ls (.long v :: st)))) : Go p.tables e below G (T.setTop (mkF m pc Ls st)) := by
  subst hp
  subst hv
  exact Go.step (fun _ hr => XS.lconst X.here hx rfl (hb hby hd)  hr) K
theorem aconstNull (X : Stand p l e R s m args below meth c T locs cells slots) (hx : p.tables.exec = Jvm.exec) (hby : c.code = code) (hd : decode code pc = .ok (.aconst_null, 1)) (hp : pc + 1 = pc')
    (K : Go p.tables e below G (T.setTop (mkF m pc' Ls (.null :: st)))) : Go p.tables e below G (T.setTop (mkF m pc Ls st)) := by
  subst hp
  exact Go.step (fun _ hr => XS.aconstNull X.here hx rfl (hb hby hd)  hr) K
theorem iadd (X : Stand p l e R s m args below meth c T locs cells slots) (hx : p.tables.exec = Jvm.exec) (hby : c.code = code) {x y : Int32} (hd : decode code pc = .ok (.iadd, 1)) (hp : pc + 1 = pc')
    (K : Go p.tables e below G (T.setTop (mkF m pc' Ls (.int (x + y) :: st)))) : Go p.tables e below G (T.setTop (mkF m pc Ls (.int y :: .int x :: st))) := by
  subst hp
  exact Go.step (fun _ hr => XS.iadd X.here hx rfl (hb hby hd) rfl hr) K
theorem isub (X : Stand p l e R s m args below meth c T locs cells slots) (hx : p.tables.exec = Jvm.exec) (hby : c.code = code) {x y : Int32} (hd : decode code pc = .ok (.isub, 1)) (hp : pc + 1 = pc')
    (K : Go p.tables e below G (T.setTop (mkF m pc' Ls (.int (x - y) :: st)))) : Go p.tables e below G (T.setTop (mkF m pc Ls (.int y :: .int x :: st))) := by
  subst hp
  exact Go.step (fun _ hr => XS.isub X.here hx rfl (hb hby hd) rfl hr) K
theorem imul (X : Stand p l e R s m args below meth c T locs cells slots) (hx : p.tables.exec = Jvm.exec) (hby : c.code = code) {x y : Int32} (hd : decode code pc = .ok (.imul, 1)) (hp : pc + 1 = pc')
    (K : Go p.tables e below G (T.setTop (mkF m pc' Ls (.int (x * y) :: st)))) : Go p.tables e below G (T.setTop (mkF m pc Ls (.int y :: .int x :: st))) := by
  subst hp
  exact Go.step (fun _ hr => XS.imul X.here hx rfl (hb hby hd) rfl hr) K
theorem iand (X : Stand p l e R s m args below meth c T locs cells slots) (hx : p.tables.exec = Jvm.exec) (hby : c.code = code) {x y : Int32} (hd : decode code pc = .ok (.iand, 1)) (hp : pc + 1 = pc')
    (K : Go p.tables e below G (T.setTop (mkF m pc' Ls (.int (x &&& y) :: st)))) : Go p.tables e below G (T.setTop (mkF m pc Ls (.int y :: .int x :: st))) := by
  subst hp
  exact Go.step (fun _ hr => XS.iand X.here hx rfl (hb hby hd) rfl hr) K
theorem ior (X : Stand p l e R s m args below meth c T locs cells slots) (hx : p.tables.exec = Jvm.exec) (hby : c.code = code) {x y : Int32} (hd : decode code pc = .ok (.ior, 1)) (hp : pc + 1 = pc')
    (K : Go p.tables e below G (T.setTop (mkF m pc' Ls (.int (x ||| y) :: st)))) : Go p.tables e below G (T.setTop (mkF m pc Ls (.int y :: .int x :: st))) := by
  subst hp
  exact Go.step (fun _ hr => XS.ior X.here hx rfl (hb hby hd) rfl hr) K
theorem ixor (X : Stand p l e R s m args below meth c T locs cells slots) (hx : p.tables.exec = Jvm.exec) (hby : c.code = code) {x y : Int32} (hd : decode code pc = .ok (.ixor, 1)) (hp : pc + 1 = pc')
    (K : Go p.tables e below G (T.setTop (mkF m pc' Ls (.int (x ^^^ y) :: st)))) : Go p.tables e below G (T.setTop (mkF m pc Ls (.int y :: .int x :: st))) := by
  subst hp
  exact Go.step (fun _ hr => XS.ixor X.here hx rfl (hb hby hd) rfl hr) K
theorem ishl (X : Stand p l e R s m args below meth c T locs cells slots) (hx : p.tables.exec = Jvm.exec) (hby : c.code = code) {x y : Int32} (hd : decode code pc = .ok (.ishl, 1)) (hp : pc + 1 = pc')
    (K : Go p.tables e below G (T.setTop (mkF m pc' Ls (.int (x <<< (y &&& 31)) :: st)))) : Go p.tables e below G (T.setTop (mkF m pc Ls (.int y :: .int x :: st))) := by
  subst hp
  exact Go.step (fun _ hr => XS.ishl X.here hx rfl (hb hby hd) rfl hr) K
theorem ishr (X : Stand p l e R s m args below meth c T locs cells slots) (hx : p.tables.exec = Jvm.exec) (hby : c.code = code) {x y : Int32} (hd : decode code pc = .ok (.ishr, 1)) (hp : pc + 1 = pc')
    (K : Go p.tables e below G (T.setTop (mkF m pc' Ls (.int (x >>> (y &&& 31)) :: st)))) : Go p.tables e below G (T.setTop (mkF m pc Ls (.int y :: .int x :: st))) := by
  subst hp
  exact Go.step (fun _ hr => XS.ishr X.here hx rfl (hb hby hd) rfl hr) K
theorem iushr (X : Stand p l e R s m args below meth c T locs cells slots) (hx : p.tables.exec = Jvm.exec) (hby : c.code = code) {x y : Int32} (hd : decode code pc = .ok (.iushr, 1)) (hp : pc + 1 = pc')
    (K : Go p.tables e below G (T.setTop (mkF m pc' Ls (.int ((x.toUInt32 >>> (y &&& 31).toUInt32).toInt32) :: st)))) : Go p.tables e below G (T.setTop (mkF m pc Ls (.int y :: .int x :: st))) := by
  subst hp
  exact Go.step (fun _ hr => XS.iushr X.here hx rfl (hb hby hd) rfl hr) K
theorem idiv (X : Stand p l e R s m args below meth c T locs cells slots) (hx : p.tables.exec = Jvm.exec) (hby : c.code = code) {x y : Int32} (hd : decode code pc = .ok (.idiv, 1)) (hy : y ≠ 0) (hp : pc + 1 = pc')
    (K : Go p.tables e below G (T.setTop (mkF m pc' Ls (.int (x / y) :: st)))) : Go p.tables e below G (T.setTop (mkF m pc Ls (.int y :: .int x :: st))) := by
  subst hp
  exact Go.step (fun _ hr => XS.idiv X.here hx rfl (hb hby hd) rfl hy hr) K
theorem ladd (X : Stand p l e R s m args below meth c T locs cells slots) (hx : p.tables.exec = Jvm.exec) (hby : c.code = code) {x y : Int64} (hd : decode code pc = .ok (.ladd, 1)) (hp : pc + 1 = pc')
    (K : Go p.tables e below G (T.setTop (mkF m pc' Ls (.long (x + y) :: st)))) : Go p.tables e below G (T.setTop (mkF m pc Ls (.long y :: .long x :: st))) := by
  subst hp
  exact Go.step (fun _ hr => XS.ladd X.here hx rfl (hb hby hd) rfl hr) K
theorem lsub (X : Stand p l e R s m args below meth c T locs cells slots) (hx : p.tables.exec = Jvm.exec) (hby : c.code = code) {x y : Int64} (hd : decode code pc = .ok (.lsub, 1)) (hp : pc + 1 = pc')
    (K : Go p.tables e below G (T.setTop (mkF m pc' Ls (.long (x - y) :: st)))) : Go p.tables e below G (T.setTop (mkF m pc Ls (.long y :: .long x :: st))) := by
  subst hp
  exact Go.step (fun _ hr => XS.lsub X.here hx rfl (hb hby hd) rfl hr) K
theorem lmul (X : Stand p l e R s m args below meth c T locs cells slots) (hx : p.tables.exec = Jvm.exec) (hby : c.code = code) {x y : Int64} (hd : decode code pc = .ok (.lmul, 1)) (hp : pc + 1 = pc')
    (K : Go p.tables e below G (T.setTop (mkF m pc' Ls (.long (x * y) :: st)))) : Go p.tables e below G (T.setTop (mkF m pc Ls (.long y :: .long x :: st))) := by
  subst hp
  exact Go.step (fun _ hr => XS.lmul X.here hx rfl (hb hby hd) rfl hr) K
theorem land (X : Stand p l e R s m args below meth c T locs cells slots) (hx : p.tables.exec = Jvm.exec) (hby : c.code = code) {x y : Int64} (hd : decode code pc = .ok (.land, 1)) (hp : pc + 1 = pc')
    (K : Go p.tables e below G (T.setTop (mkF m pc' Ls (.long (x &&& y) :: st)))) : Go p.tables e below G (T.setTop (mkF m pc Ls (.long y :: .long x :: st))) := by
  subst hp
  exact Go.step (fun _ hr => XS.land X.here hx rfl (hb hby hd) rfl hr) K
theorem lor (X : Stand p l e R s m args below meth c T locs cells slots) (hx : p.tables.exec = Jvm.exec) (hby : c.code = code) {x y : Int64} (hd : decode code pc = .ok (.lor, 1)) (hp : pc + 1 = pc')
    (K : Go p.tables e below G (T.setTop (mkF m pc' Ls (.long (x ||| y) :: st)))) : Go p.tables e below G (T.setTop (mkF m pc Ls (.long y :: .long x :: st))) := by
  subst hp
  exact Go.step (fun _ hr => XS.lor X.here hx rfl (hb hby hd) rfl hr) K
theorem lxor (X : Stand p l e R s m args below meth c T locs cells slots) (hx : p.tables.exec = Jvm.exec) (hby : c.code = code) {x y : Int64} (hd : decode code pc = .ok (.lxor, 1)) (hp : pc + 1 = pc')
    (K : Go p.tables e below G (T.setTop (mkF m pc' Ls (.long (x ^^^ y) :: st)))) : Go p.tables e below G (T.setTop (mkF m pc Ls (.long y :: .long x :: st))) := by
  subst hp
  exact Go.step (fun _ hr => XS.lxor X.here hx rfl (hb hby hd) rfl hr) K
theorem ldiv (X : Stand p l e R s m args below meth c T locs cells slots) (hx : p.tables.exec = Jvm.exec) (hby : c.code = code) {x y : Int64} (hd : decode code pc = .ok (.ldiv, 1)) (hy : y ≠ 0) (hp : pc + 1 = pc')
    (K : Go p.tables e below G (T.setTop (mkF m pc' Ls (.long (x / y) :: st)))) : Go p.tables e below G (T.setTop (mkF m pc Ls (.long y :: .long x :: st))) := by
  subst hp
  exact Go.step (fun _ hr => XS.ldiv X.here hx rfl (hb hby hd) rfl hy hr) K
theorem lcmp (X : Stand p l e R s m args below meth c T locs cells slots) (hx : p.tables.exec = Jvm.exec) (hby : c.code = code) {x y : Int64} (hd : decode code pc = .ok (.lcmp, 1)) (hp : pc + 1 = pc')
    (K : Go p.tables e below G (T.setTop (mkF m pc' Ls (.int (lcmpW x y) :: st)))) : Go p.tables e below G (T.setTop (mkF m pc Ls (.long y :: .long x :: st))) := by
  subst hp
  exact Go.step (fun _ hr => XS.lcmp X.here hx rfl (hb hby hd) rfl hr) K
theorem ineg (X : Stand p l e R s m args below meth c T locs cells slots) (hx : p.tables.exec = Jvm.exec) (hby : c.code = code) {x : Int32} (hd : decode code pc = .ok (.ineg, 1)) (hp : pc + 1 = pc')
    (K : Go p.tables e below G (T.setTop (mkF m pc' Ls (.int (-x) :: st)))) : Go p.tables e below G (T.setTop (mkF m pc Ls (.int x :: st))) := by
  subst hp
  exact Go.step (fun _ hr => XS.ineg X.here hx rfl (hb hby hd) rfl hr) K
theorem lneg (X : Stand p l e R s m args below meth c T locs cells slots) (hx : p.tables.exec = Jvm.exec) (hby : c.code = code) {x : Int64} (hd : decode code pc = .ok (.lneg, 1)) (hp : pc + 1 = pc')
    (K : Go p.tables e below G (T.setTop (mkF m pc' Ls (.long (-x) :: st)))) : Go p.tables e below G (T.setTop (mkF m pc Ls (.long x :: st))) := by
  subst hp
  exact Go.step (fun _ hr => XS.lneg X.here hx rfl (hb hby hd) rfl hr) K
theorem i2l (X : Stand p l e R s m args below meth c T locs cells slots) (hx : p.tables.exec = Jvm.exec) (hby : c.code = code) {x : Int32} (hd : decode code pc = .ok (.i2l, 1)) (hp : pc + 1 = pc')
    (K : Go p.tables e below G (T.setTop (mkF m pc' Ls (.long x.toInt64 :: st)))) : Go p.tables e below G (T.setTop (mkF m pc Ls (.int x :: st))) := by
  subst hp
  exact Go.step (fun _ hr => XS.i2l X.here hx rfl (hb hby hd) rfl hr) K
theorem l2i (X : Stand p l e R s m args below meth c T locs cells slots) (hx : p.tables.exec = Jvm.exec) (hby : c.code = code) {x : Int64} (hd : decode code pc = .ok (.l2i, 1)) (hp : pc + 1 = pc')
    (K : Go p.tables e below G (T.setTop (mkF m pc' Ls (.int x.toInt32 :: st)))) : Go p.tables e below G (T.setTop (mkF m pc Ls (.long x :: st))) := by
  subst hp
  exact Go.step (fun _ hr => XS.l2i X.here hx rfl (hb hby hd) rfl hr) K
theorem i2c (X : Stand p l e R s m args below meth c T locs cells slots) (hx : p.tables.exec = Jvm.exec) (hby : c.code = code) {x : Int32} (hd : decode code pc = .ok (.i2c, 1)) (hp : pc + 1 = pc')
    (K : Go p.tables e below G (T.setTop (mkF m pc' Ls (.int x.toUInt32.toUInt16.toUInt32.toInt32 :: st)))) : Go p.tables e below G (T.setTop (mkF m pc Ls (.int x :: st))) := by
  subst hp
  exact Go.step (fun _ hr => XS.i2c X.here hx rfl (hb hby hd) rfl hr) K
theorem i2b (X : Stand p l e R s m args below meth c T locs cells slots) (hx : p.tables.exec = Jvm.exec) (hby : c.code = code) {x : Int32} (hd : decode code pc = .ok (.i2b, 1)) (hp : pc + 1 = pc')
    (K : Go p.tables e below G (T.setTop (mkF m pc' Ls (.int x.toInt8.toInt32 :: st)))) : Go p.tables e below G (T.setTop (mkF m pc Ls (.int x :: st))) := by
  subst hp
  exact Go.step (fun _ hr => XS.i2b X.here hx rfl (hb hby hd) rfl hr) K
theorem dup (X : Stand p l e R s m args below meth c T locs cells slots) (hx : p.tables.exec = Jvm.exec) (hby : c.code = code) {x : Value} (hd : decode code pc = .ok (.dup, 1)) (hc : x.category = 1) (hp : pc + 1 = pc')
    (K : Go p.tables e below G (T.setTop (mkF m pc' Ls (x :: x :: st)))) : Go p.tables e below G (T.setTop (mkF m pc Ls (x :: st))) := by
  subst hp
  exact Go.step (fun _ hr => XS.dup X.here hx rfl (hb hby hd) rfl hc hr) K
theorem pop (X : Stand p l e R s m args below meth c T locs cells slots) (hx : p.tables.exec = Jvm.exec) (hby : c.code = code) {x : Value} (hd : decode code pc = .ok (.pop, 1)) (hc : x.category = 1) (hp : pc + 1 = pc')
    (K : Go p.tables e below G (T.setTop (mkF m pc' Ls st))) : Go p.tables e below G (T.setTop (mkF m pc Ls (x :: st))) := by
  subst hp
  exact Go.step (fun _ hr => XS.pop X.here hx rfl (hb hby hd) rfl hc hr) K
theorem dupX1 (X : Stand p l e R s m args below meth c T locs cells slots) (hx : p.tables.exec = Jvm.exec) (hby : c.code = code) {x y : Value} (hd : decode code pc = .ok (.dup_x1, 1)) (hc : x.category = 1) (hc' : y.category = 1) (hp : pc + 1 = pc')
    (K : Go p.tables e below G (T.setTop (mkF m pc' Ls (x :: y :: x :: st)))) : Go p.tables e below G (T.setTop (mkF m pc Ls (x :: y :: st))) := by
  subst hp
  exact Go.step (fun _ hr => XS.dupX1 X.here hx rfl (hb hby hd) rfl hc hc' hr) K
theorem iinc (X : Stand p l e R s m args below meth c T locs cells slots) (hx : p.tables.exec = Jvm.exec) (hby : c.code = code) {k : Nat} {cst : Int} {x : Int32} (hd : decode code pc = .ok (.iinc k cst, 3)) (hl : Ls[k]? = some (.val (.int x))) (hl' : storeLocals Ls k (.int (x + Int32.ofInt cst)) = some Ls') (hp : pc + 3 = pc')
    (K : Go p.tables e below G (T.setTop (mkF m pc' Ls' st))) : Go p.tables e below G (T.setTop (mkF m pc Ls st)) := by
  subst hp
  exact Go.step (fun _ hr => XS.iinc X.here hx rfl (hb hby hd) hl hl' hr) K
theorem irem (X : Stand p l e R s m args below meth c T locs cells slots) (hx : p.tables.exec = Jvm.exec) (hby : c.code = code) {x y : Int32} (hd : decode code pc = .ok (.irem, 1)) (hy : y ≠ 0) (hp : pc + 1 = pc')
    (K : Go p.tables e below G (T.setTop (mkF m pc' Ls (.int (x % y) :: st)))) : Go p.tables e below G (T.setTop (mkF m pc Ls (.int y :: .int x :: st))) := by
  subst hp
  exact Go.step (fun _ hr => Jvm.RoadKit.iremM (g := mkF m pc Ls (.int y :: .int x :: st)) X hx rfl (hb hby hd) rfl hy hr) K
theorem goto (X : Stand p l e R s m args below meth c T locs cells slots) (hx : p.tables.exec = Jvm.exec) (hby : c.code = code) {o : Int} (hd : decode code pc = .ok (.goto o, 3)) (ho : 0 ≤ (pc : Int) + o) (hp : ((pc : Int) + o).toNat = pc')
    (K : Go p.tables e below G (T.setTop (mkF m pc' Ls st))) : Go p.tables e below G (T.setTop (mkF m pc Ls st)) :=
  Go.step (fun _ hr => XS.goto X.here hx rfl (pc0 := pc) (pc' := pc') rfl (hb hby hd)  ho hp hr) K
theorem ifYes (X : Stand p l e R s m args below meth c T locs cells slots) (hx : p.tables.exec = Jvm.exec) (hby : c.code = code) {cd : ClassFile.Cond} {x : Int32} {o : Int} (hd : decode code pc = .ok (.ifCond cd o, 3)) (hc : if_icmp.holds cd x 0 = true) (ho : 0 ≤ (pc : Int) + o) (hp : ((pc : Int) + o).toNat = pc')
    (K : Go p.tables e below G (T.setTop (mkF m pc' Ls st))) : Go p.tables e below G (T.setTop (mkF m pc Ls (.int x :: st))) :=
  Go.step (fun _ hr => XS.ifYes X.here hx rfl (pc0 := pc) (pc' := pc') rfl (hb hby hd) rfl ((if0 _ _).trans hc) ho hp hr) K
theorem ifNo (X : Stand p l e R s m args below meth c T locs cells slots) (hx : p.tables.exec = Jvm.exec) (hby : c.code = code) {cd : ClassFile.Cond} {x : Int32} {o : Int} (hd : decode code pc = .ok (.ifCond cd o, 3)) (hc : if_icmp.holds cd x 0 = false) (hp : pc + 3 = pc')
    (K : Go p.tables e below G (T.setTop (mkF m pc' Ls st))) : Go p.tables e below G (T.setTop (mkF m pc Ls (.int x :: st))) := by
  subst hp
  exact Go.step (fun _ hr => XS.ifNo X.here hx rfl (hb hby hd) rfl ((if0 _ _).trans hc) hr) K
theorem icmpYes (X : Stand p l e R s m args below meth c T locs cells slots) (hx : p.tables.exec = Jvm.exec) (hby : c.code = code) {cd : ClassFile.Cond} {x y : Int32} {o : Int} (hd : decode code pc = .ok (.if_icmp cd o, 3)) (hc : if_icmp.holds cd x y = true) (ho : 0 ≤ (pc : Int) + o) (hp : ((pc : Int) + o).toNat = pc')
    (K : Go p.tables e below G (T.setTop (mkF m pc' Ls st))) : Go p.tables e below G (T.setTop (mkF m pc Ls (.int y :: .int x :: st))) :=
  Go.step (fun _ hr => XS.icmpYes X.here hx rfl (pc0 := pc) (pc' := pc') rfl (hb hby hd) rfl hc ho hp hr) K
theorem icmpNo (X : Stand p l e R s m args below meth c T locs cells slots) (hx : p.tables.exec = Jvm.exec) (hby : c.code = code) {cd : ClassFile.Cond} {x y : Int32} {o : Int} (hd : decode code pc = .ok (.if_icmp cd o, 3)) (hc : if_icmp.holds cd x y = false) (hp : pc + 3 = pc')
    (K : Go p.tables e below G (T.setTop (mkF m pc' Ls st))) : Go p.tables e below G (T.setTop (mkF m pc Ls (.int y :: .int x :: st))) := by
  subst hp
  exact Go.step (fun _ hr => XS.icmpNo X.here hx rfl (hb hby hd) rfl hc hr) K
theorem ifnullYes (X : Stand p l e R s m args below meth c T locs cells slots) (hx : p.tables.exec = Jvm.exec) (hby : c.code = code) {o : Int} (hd : decode code pc = .ok (.ifnull o, 3)) (ho : 0 ≤ (pc : Int) + o) (hp : ((pc : Int) + o).toNat = pc')
    (K : Go p.tables e below G (T.setTop (mkF m pc' Ls st))) : Go p.tables e below G (T.setTop (mkF m pc Ls (.null :: st))) :=
  Go.step (fun _ hr => XS.ifnullYes X.here hx rfl (pc0 := pc) (pc' := pc') rfl (hb hby hd) rfl ho hp hr) K
theorem ifnullNo (X : Stand p l e R s m args below meth c T locs cells slots) (hx : p.tables.exec = Jvm.exec) (hby : c.code = code) {b : Addr} {o : Int} (hd : decode code pc = .ok (.ifnull o, 3)) (hp : pc + 3 = pc')
    (K : Go p.tables e below G (T.setTop (mkF m pc' Ls st))) : Go p.tables e below G (T.setTop (mkF m pc Ls (.ref b :: st))) := by
  subst hp
  exact Go.step (fun _ hr => XS.ifnullNo X.here hx rfl (hb hby hd) rfl hr) K
theorem ifnonnullYes (X : Stand p l e R s m args below meth c T locs cells slots) (hx : p.tables.exec = Jvm.exec) (hby : c.code = code) {b : Addr} {o : Int} (hd : decode code pc = .ok (.ifnonnull o, 3)) (ho : 0 ≤ (pc : Int) + o) (hp : ((pc : Int) + o).toNat = pc')
    (K : Go p.tables e below G (T.setTop (mkF m pc' Ls st))) : Go p.tables e below G (T.setTop (mkF m pc Ls (.ref b :: st))) :=
  Go.step (fun _ hr => XS.ifnonnullYes X.here hx rfl (pc0 := pc) (pc' := pc') rfl (hb hby hd) rfl ho hp hr) K
theorem ifnonnullNo (X : Stand p l e R s m args below meth c T locs cells slots) (hx : p.tables.exec = Jvm.exec) (hby : c.code = code) {o : Int} (hd : decode code pc = .ok (.ifnonnull o, 3)) (hp : pc + 3 = pc')
    (K : Go p.tables e below G (T.setTop (mkF m pc' Ls st))) : Go p.tables e below G (T.setTop (mkF m pc Ls (.null :: st))) := by
  subst hp
  exact Go.step (fun _ hr => XS.ifnonnullNo X.here hx rfl (hb hby hd) rfl hr) K
theorem acmp (X : Stand p l e R s m args below meth c T locs cells slots) (hx : p.tables.exec = Jvm.exec) (hby : c.code = code) {cd : ACond} {x y : Value} {o : Int} {same : Bool} (hd : decode code pc = .ok (.if_acmp cd o, 3)) (h1 : x.isRef = true) (h2 : y.isRef = true) (hq : decide (x = y) = same) (ho : 0 ≤ (pc : Int) + o) (hp : pc' = if acV cd same = true then ((pc : Int) + o).toNat else pc + 3)
    (K : Go p.tables e below G (T.setTop (mkF m pc' Ls st))) : Go p.tables e below G (T.setTop (mkF m pc Ls (y :: x :: st))) :=
  Go.step (fun _ hr => Jvm.RoadKit.acmp (g := mkF m pc Ls (y :: x :: st)) X hx rfl h1 h2 (pc0 := pc) (pc' := pc') (same := same) rfl (hb hby hd) rfl hq ho hp hr) K
theorem retZ (X : Stand p l e R s m args below meth c T locs cells slots) (hx : p.tables.exec = Jvm.exec) (hby : c.code = code) {t : FieldType} {z : Int32} (hret : meth.sig.returnType = some t) (ht : t = .boolean ∨ t = .byte ∨ t = .char ∨ t = .short) (hd : decode code pc = .ok (.ireturn, 1)) (hlk : meth.locks = false) (hkc : cells ≤ kc) (hks : slots ≤ ks) (hQ : Q (some (.int (nar t z))) T.heap locs) : Go p.tables e below (GP Q kc ks s) (T.setTop (mkF m pc Ls (.int z :: st))) := by
  obtain ⟨fs, hr, hrun, hended, hW, hsame⟩ := X.leave (v := some (.int (nar t z))) (fun h => by rw [hret] at h; cases h) hlk
  exact ⟨_, _, retN X hx hret ht (hb hby hd) hr, hrun, hended, _, _, rfl, hQ, ⟨_, rfl⟩, hW, hsame.mono hkc hks⟩
theorem retI (X : Stand p l e R s m args below meth c T locs cells slots) (hx : p.tables.exec = Jvm.exec) (hby : c.code = code) {z : Int32} (hret : meth.sig.returnType = some .int) (hd : decode code pc = .ok (.ireturn, 1)) (hlk : meth.locks = false) (hkc : cells ≤ kc) (hks : slots ≤ ks) (hQ : Q (some (.int z)) T.heap locs) : Go p.tables e below (GP Q kc ks s) (T.setTop (mkF m pc Ls (.int z :: st))) := by
  obtain ⟨fs, hr, hrun, hended, hW, hsame⟩ := X.leave (v := some (.int z)) (fun h => by rw [hret] at h; cases h) hlk
  exact ⟨_, _, Jvm.RoadKit.retOut X hx hret rfl (Or.inl ⟨rfl, Or.inl rfl, z, rfl⟩) (hb hby hd) hr, hrun, hended, _, _, rfl, hQ, ⟨_, rfl⟩, hW, hsame.mono hkc hks⟩
theorem retA (X : Stand p l e R s m args below meth c T locs cells slots) (hx : p.tables.exec = Jvm.exec) (hby : c.code = code) {t : FieldType} {w : Value} (hret : meth.sig.returnType = some t) (ht : t.isReference = true) (hw : w.isRef = true) (hn : narrow t w = w) (hd : decode code pc = .ok (.areturn, 1)) (hlk : meth.locks = false) (hkc : cells ≤ kc) (hks : slots ≤ ks) (hQ : Q (some w) T.heap locs) : Go p.tables e below (GP Q kc ks s) (T.setTop (mkF m pc Ls (w :: st))) := by
  obtain ⟨fs, hr, hrun, hended, hW, hsame⟩ := X.leave (v := some w) (fun h => by rw [hret] at h; cases h) hlk
  exact ⟨_, _, Jvm.RoadKit.retOut X hx hret hn (Or.inr (Or.inr (Or.inr (Or.inr ⟨rfl, ht, hw⟩)))) (hb hby hd) hr, hrun, hended, _, _, rfl, hQ, ⟨_, rfl⟩, hW, hsame.mono hkc hks⟩
theorem retV (X : Stand p l e R s m args below meth c T locs cells slots) (hx : p.tables.exec = Jvm.exec) (hby : c.code = code) (hret : meth.sig.returnType = none) (hd : decode code pc = .ok (.return_, 1)) (hlk : meth.locks = false) (hkc : cells ≤ kc) (hks : slots ≤ ks) (hQ : Q none T.heap locs) : Go p.tables e below (GP Q kc ks s) (T.setTop (mkF m pc Ls [])) := by
  obtain ⟨fs, hr, hrun, hended, hW, hsame⟩ := X.leave (v := none) (fun _ => rfl) hlk
  exact ⟨_, _, X.returnOut hx hret (hb hby hd) hr, hrun, hended, _, _, rfl, hQ, ⟨_, rfl⟩, hW, hsame.mono hkc hks⟩
end Steps1
section Words1
variable {args : Array Value} {first s : State} {o : Option Outcome} {idx : List Nat} {t : Term} {k : Int32}
theorem eqI_v (h : (Jvm.Cond.eq t (.int k)).value args first o s idx = some true) : t.eval args first o idx s = some (.int k) := by
  simp only [Jvm.Cond.value, Term.eval] at h
  cases ht : t.eval args first o idx s with
  | none => simp [ht] at h
  | some x => cases x <;> simp [ht] at h ⊢; exact h
end Words1
end Jvm.OG
namespace Jvm.OG
open Sem ClassFile Op Lib Jvm.Stand Jvm.Free Jvm.LawKit Jvm.RoadKit
section Laws2
variable {p : Program} {l : Launch} {e : Env} {R : Room} {s : State} {m : MethodId} {args : Array Value} {below : List Frame} {meth : Method} {c : Code} {T : State} {locs : List Loc} {cells slots : Nat} {G : Outcome → State → Option Value → List Loc → Prop} {code : ByteArray} {pc pc' : Nat} {Ls Ls' : Array Slot} {st : List Value} {Z : State} {a0 : Array Value} {h : Heap}
theorem gS (X : Stand p l e R s m args below meth c T locs cells slots) (hx : p.tables.exec = Jvm.exec) (hZ : Z.Warmed39 s.vm) (hby : c.code = code) {own : String} {index : Nat} (hown : s.vm.findClass own = some m.cls) {R0 O n d : String} (w : (Cond.fieldLink own index R0 n d).before a0 Z = true) (via : Via Z R0 O n d) (eT : T.heap = h) {v : Value} (F : Sta Z h O n d v) (hd : decode code pc = .ok (.getstatic index, 3)) (hp : pc + 3 = pc')
    (K : ∀ T', Stand p l e R s m args below meth c T' locs cells slots → T'.heap = h → Go p.tables e below G (T'.setTop (mkF m pc' Ls (v :: st)))) : Go p.tables e below G (T.setTop (mkF m pc Ls st)) := by
  subst hp
  obtain ⟨T', X', e', st'⟩ := getS2 X hx hZ hown (host := "") (Or.inl w) via eT F (g := mkF m pc Ls st) rfl (hb hby hd)
  exact Go.step st' (K T' X' e')
theorem gF (X : Stand p l e R s m args below meth c T locs cells slots) (hx : p.tables.exec = Jvm.exec) (hZ : Z.Warmed39 s.vm) (hby : c.code = code) {own : String} {index : Nat} (hown : s.vm.findClass own = some m.cls) {R0 O n d : String} (w : (Cond.fieldLink own index R0 n d).before a0 Z = true) (via : Via Z R0 O n d) (eT : T.heap = h) {a : Addr} {v : Value} (F : Fld Z h a O n d v) (hd : decode code pc = .ok (.getfield index, 3)) (hp : pc + 3 = pc')
    (K : ∀ T', Stand p l e R s m args below meth c T' locs cells slots → T'.heap = h → Go p.tables e below G (T'.setTop (mkF m pc' Ls (v :: st)))) : Go p.tables e below G (T.setTop (mkF m pc Ls (.ref a :: st))) := by
  subst hp
  obtain ⟨T', X', e', st'⟩ := getF X hx hZ hown (host := "") (Or.inl w) via eT F (g := mkF m pc Ls (.ref a :: st)) rfl rfl (hb hby hd)
  exact Go.step st' (K T' X' e')
theorem gSN (X : Stand p l e R s m args below meth c T locs cells slots) (hx : p.tables.exec = Jvm.exec) (hZ : Z.Warmed39 s.vm) (hby : c.code = code) {own : String} {index : Nat} (hown : s.vm.findClass own = some m.cls) {R0 O n d host : String} (w : (Cond.fieldLinkNest own index R0 n d host).before a0 Z = true) (via : Via Z R0 O n d) (eT : T.heap = h) {v : Value} (F : Sta Z h O n d v) (hd : decode code pc = .ok (.getstatic index, 3)) (hp : pc + 3 = pc')
    (K : ∀ T', Stand p l e R s m args below meth c T' locs cells slots → T'.heap = h → Go p.tables e below G (T'.setTop (mkF m pc' Ls (v :: st)))) : Go p.tables e below G (T.setTop (mkF m pc Ls st)) := by
  subst hp
  obtain ⟨T', X', e', st'⟩ := getS2 X hx hZ hown (Or.inr w) via eT F (g := mkF m pc Ls st) rfl (hb hby hd)
  exact Go.step st' (K T' X' e')
theorem gFN (X : Stand p l e R s m args below meth c T locs cells slots) (hx : p.tables.exec = Jvm.exec) (hZ : Z.Warmed39 s.vm) (hby : c.code = code) {own : String} {index : Nat} (hown : s.vm.findClass own = some m.cls) {R0 O n d host : String} (w : (Cond.fieldLinkNest own index R0 n d host).before a0 Z = true) (via : Via Z R0 O n d) (eT : T.heap = h) {a : Addr} {v : Value} (F : Fld Z h a O n d v) (hd : decode code pc = .ok (.getfield index, 3)) (hp : pc + 3 = pc')
    (K : ∀ T', Stand p l e R s m args below meth c T' locs cells slots → T'.heap = h → Go p.tables e below G (T'.setTop (mkF m pc' Ls (v :: st)))) : Go p.tables e below G (T.setTop (mkF m pc Ls (.ref a :: st))) := by
  subst hp
  obtain ⟨T', X', e', st'⟩ := getF X hx hZ hown (Or.inr w) via eT F (g := mkF m pc Ls (.ref a :: st)) rfl rfl (hb hby hd)
  exact Go.step st' (K T' X' e')
theorem pF (X : Stand p l e R s m args below meth c T locs cells slots) (hx : p.tables.exec = Jvm.exec) (hZ : Z.Warmed39 s.vm) (hby : c.code = code) {own : String} {index : Nat} (hown : s.vm.findClass own = some m.cls) {R0 O n d : String} (w : (Cond.fieldLink own index R0 n d).before a0 Z = true) (via : Via Z R0 O n d) (eT : T.heap = h) {C : String} {kk : Nat} {ty : FieldType} {a : Addr} {v old : Value} (F : Fld Z h a O n d old) (E : Exa Z h a C) (L : (Cond.lays C O n d).before a0 Z = true ∨ ((Cond.laysFinal C O n d).before a0 Z = true ∧ own = O ∧ meth.name = "<init>")) (wi : (Cond.instantiable C kk).before a0 Z = true) (hty : parseFieldDescriptor d = some ty) (hn : narrow ty v = v) (hf : fits ty v = true) (hd : decode code pc = .ok (.putfield index, 3)) (hp : pc + 3 = pc')
    (K : ∀ T' h', Stand p l e R s m args below meth c T' (locs ++ [⟨a, Jvm.RoadKit.slotOf Z O n d⟩]) cells slots → T'.heap = h' → Wr h h' a (Jvm.RoadKit.slotOf Z O n d) v → Go p.tables e below G (T'.setTop (mkF m pc' Ls st))) : Go p.tables e below G (T.setTop (mkF m pc Ls (v :: .ref a :: st))) := by
  subst hp
  obtain ⟨T', h', X', e', W', st'⟩ := putF X hx hZ hown (host := "") (Or.inl w) via eT F E L wi hty hn hf (g := mkF m pc Ls (v :: .ref a :: st)) rfl rfl (hb hby hd)
  exact Go.step st' (K T' h' X' e' W')
theorem pFN (X : Stand p l e R s m args below meth c T locs cells slots) (hx : p.tables.exec = Jvm.exec) (hZ : Z.Warmed39 s.vm) (hby : c.code = code) {own : String} {index : Nat} (hown : s.vm.findClass own = some m.cls) {R0 O n d : String} (w : (Cond.fieldLink own index R0 n d).before a0 Z = true) (via : Via Z R0 O n d) (eT : T.heap = h) {C : String} {kk : Nat} {ty : FieldType} {a : Addr} {v v' old : Value} (F : Fld Z h a O n d old) (E : Exa Z h a C) (L : (Cond.lays C O n d).before a0 Z = true ∨ ((Cond.laysFinal C O n d).before a0 Z = true ∧ own = O ∧ meth.name = "<init>")) (wi : (Cond.instantiable C kk).before a0 Z = true) (hty : parseFieldDescriptor d = some ty) (hn : narrow ty v = v') (hf : fits ty v' = true) (hd : decode code pc = .ok (.putfield index, 3)) (hp : pc + 3 = pc')
    (K : ∀ T' h', Stand p l e R s m args below meth c T' (locs ++ [⟨a, Jvm.RoadKit.slotOf Z O n d⟩]) cells slots → T'.heap = h' → Wr h h' a (Jvm.RoadKit.slotOf Z O n d) v' → Go p.tables e below G (T'.setTop (mkF m pc' Ls st))) : Go p.tables e below G (T.setTop (mkF m pc Ls (v :: .ref a :: st))) := by
  subst hp
  obtain ⟨T', h', X', e', W', st'⟩ := putFN X hx hZ hown w via eT F E L wi hty hn hf (g := mkF m pc Ls (v :: .ref a :: st)) rfl rfl (hb hby hd)
  exact Go.step st' (K T' h' X' e' W')
theorem nO (X : Stand p l e R s m args below meth c T locs cells slots) (hx : p.tables.exec = Jvm.exec) (hZ : Z.Warmed39 s.vm) (hby : c.code = code) {own : String} {index : Nat} (hown : s.vm.findClass own = some m.cls) {C : String} {n : Nat} (w : (Cond.classLink own index C).before a0 Z = true) (wi : (Cond.instantiable C n).before a0 Z = true) (wz : (Cond.initialized C).before a0 Z = true) (eT : T.heap = h) (hd : decode code pc = .ok (.new index, 3)) (hc : cells + 1 ≤ R.cells) (hl : slots + n ≤ R.slots) (hp : pc + 3 = pc')
    (K : ∀ T' h' b, b = h.size → Stand p l e R s m args below meth c T' locs (cells + 1) (slots + n) → T'.heap = h' → Ext h h' → Exa Z h' b C → (∀ {O nm d : String} {ty : FieldType}, Laid Z a0 C O nm d → parseFieldDescriptor d = some ty → Fld Z h' b O nm d (defaultValue ty)) → Go p.tables e below G (T'.setTop (mkF m pc' Ls (.ref b :: st)))) : Go p.tables e below G (T.setTop (mkF m pc Ls st)) := by
  subst hp
  obtain ⟨T', h', X', e', E', A', D', -, st'⟩ := newO X hx hZ hown w wi wz eT (g := mkF m pc Ls st) rfl (hb hby hd) hc hl
  exact Go.step st' (K T' h' _ rfl X' e' E' A' D')
theorem iO (X : Stand p l e R s m args below meth c T locs cells slots) (hx : p.tables.exec = Jvm.exec) (hZ : Z.Warmed39 s.vm) (hby : c.code = code) {own : String} {index : Nat} (hown : s.vm.findClass own = some m.cls) (hsz : Ls.size = c.maxLocals) (w1 : (Cond.methodLink own index Lib.objectInit).before a0 Z = true) (w2 : (Cond.instanceMethod Lib.objectInit).before a0 Z = true) (w3 : (Cond.code Lib.objectInit ⟨#[0xb1]⟩ 1 none).before a0 Z = true) (eT : T.heap = h) {a : Addr} {W : Nat} (hW : (st.map fun v => v.category).sum = W) (hf : 1 ≤ R.frames) (hl : W + 12 ≤ R.locals) (hd : decode code pc = .ok (.invokespecial index, 3)) (hp : pc + 3 = pc')
    (K : ∀ T', Stand p l e R s m args below meth c T' locs cells slots → T'.heap = h → Go p.tables e below G (T'.setTop (mkF m pc' Ls st))) : Go p.tables e below G (T.setTop (mkF m pc Ls (.ref a :: st))) := by
  subst hp hW
  obtain ⟨T', X', e', st'⟩ := initO X hx hZ hown w1 w2 w3 eT (g := mkF m pc Ls (.ref a :: st)) rfl hsz rfl (hb hby hd) hf (W := (st.map fun v => v.category).sum) (by show 2 * 0 + _ ≤ _; omega) hl
  exact Go.step st' (K T' X' e')
theorem ldcI (X : Stand p l e R s m args below meth c T locs cells slots) (hx : p.tables.exec = Jvm.exec) (hZ : Z.Warmed39 s.vm) (hby : c.code = code) {own : String} {index : Nat} (hown : s.vm.findClass own = some m.cls) {v : Int32} (w : (Cond.constant own index v).before a0 Z = true) (hd : decode code pc = .ok (.ldc index, 2)) (hp : pc + 2 = pc') (K : Go p.tables e below G (T.setTop (mkF m pc' Ls (.int v :: st)))) : Go p.tables e below G (T.setTop (mkF m pc Ls st)) := by
  subst hp
  exact Go.step (fun _ hr => Jvm.Stand.ldcI (g := mkF m pc Ls st) X hx hown (mv hZ w) rfl (hb hby hd) hr) K
theorem ldcWI (X : Stand p l e R s m args below meth c T locs cells slots) (hx : p.tables.exec = Jvm.exec) (hZ : Z.Warmed39 s.vm) (hby : c.code = code) {own : String} {index : Nat} (hown : s.vm.findClass own = some m.cls) {v : Int32} (w : (Cond.constant own index v).before a0 Z = true) (hd : decode code pc = .ok (.ldc_w index, 3)) (hp : pc + 3 = pc') (K : Go p.tables e below G (T.setTop (mkF m pc' Ls (.int v :: st)))) : Go p.tables e below G (T.setTop (mkF m pc Ls st)) := by
  subst hp
  exact Go.step (fun _ hr => Jvm.Stand.ldcWI (g := mkF m pc Ls st) X hx hown (mv hZ w) rfl (hb hby hd) hr) K
theorem ldc2J (X : Stand p l e R s m args below meth c T locs cells slots) (hx : p.tables.exec = Jvm.exec) (hZ : Z.Warmed39 s.vm) (hby : c.code = code) {own : String} {index : Nat} (hown : s.vm.findClass own = some m.cls) {v : Int64} (w : (Cond.constantLong own index v).before a0 Z = true) (hd : decode code pc = .ok (.ldc2_w index, 3)) (hp : pc + 3 = pc') (K : Go p.tables e below G (T.setTop (mkF m pc' Ls (.long v :: st)))) : Go p.tables e below G (T.setTop (mkF m pc Ls st)) := by
  subst hp
  exact Go.step (fun _ hr => Jvm.Stand.ldc2J (g := mkF m pc Ls st) X hx hown (mv hZ w) rfl (hb hby hd) hr) K
theorem cY (X : Stand p l e R s m args below meth c T locs cells slots) (hx : p.tables.exec = Jvm.exec) (hZ : Z.Warmed39 s.vm) (hby : c.code = code) {own : String} {index : Nat} (hown : s.vm.findClass own = some m.cls) {K0 : String} (w : (Cond.classLink own index K0).before a0 Z = true) (eT : T.heap = h) {a : Addr} (F : Jvm.RoadKit.Ins Z h a K0 true) (hd : decode code pc = .ok (.checkcast index, 3)) (hp : pc + 3 = pc')
    (K : ∀ T', Stand p l e R s m args below meth c T' locs cells slots → T'.heap = h → Go p.tables e below G (T'.setTop (mkF m pc' Ls (.ref a :: st)))) : Go p.tables e below G (T.setTop (mkF m pc Ls (.ref a :: st))) := by
  subst hp
  obtain ⟨T', X', e', st'⟩ := castY X hx hZ hown w eT F (g := mkF m pc Ls (.ref a :: st)) rfl rfl (hb hby hd)
  exact Go.step st' (K T' X' e')
theorem iY (X : Stand p l e R s m args below meth c T locs cells slots) (hx : p.tables.exec = Jvm.exec) (hZ : Z.Warmed39 s.vm) (hby : c.code = code) {own : String} {index : Nat} (hown : s.vm.findClass own = some m.cls) {K0 : String} (w : (Cond.classLink own index K0).before a0 Z = true) (eT : T.heap = h) {a : Addr} (F : Jvm.RoadKit.Ins Z h a K0 true) (hd : decode code pc = .ok (.instanceof index, 3)) (hp : pc + 3 = pc')
    (K : ∀ T', Stand p l e R s m args below meth c T' locs cells slots → T'.heap = h → Go p.tables e below G (T'.setTop (mkF m pc' Ls (.int 1 :: st)))) : Go p.tables e below G (T.setTop (mkF m pc Ls (.ref a :: st))) := by
  subst hp
  obtain ⟨T', X', e', st'⟩ := instY X hx hZ hown w eT F (g := mkF m pc Ls (.ref a :: st)) rfl rfl (hb hby hd)
  exact Go.step st' (K T' X' e')
theorem nR (X : Stand p l e R s m args below meth c T locs cells slots) (hx : p.tables.exec = Jvm.exec) (hZ : Z.Warmed39 s.vm) (hby : c.code = code) {own : String} {index : Nat} (hown : s.vm.findClass own = some m.cls) {C : String} (w1 : (Cond.classLink own index C).before a0 Z = true) (w2 : (Cond.arrayOver (.object C)).before a0 Z = true) (eT : T.heap = h) {n : Int32} (hn : ¬ n < 0) {cap : Nat} (hcap : n.toNatClampNeg ≤ cap) (hb' : cap * 8 ≤ 536870912) (hc : cells + 1 ≤ R.cells) (hl : slots + cap ≤ R.slots) (hd : decode code pc = .ok (.anewarray index, 3)) (hp : pc + 3 = pc')
    (K : ∀ T' h' cA b, b = h.size → Stand p l e R s m args below meth c T' locs (cells + 1) (slots + cap) → T'.heap = h' → Ext h h' → Arv Z h' b cA (.object C) n [] .null → Ovr Z cA C → Go p.tables e below G (T'.setTop (mkF m pc' Ls (.ref b :: st)))) : Go p.tables e below G (T.setTop (mkF m pc Ls (.int n :: st))) := by
  subst hp
  obtain ⟨T', h', cA, X', e', E', A', O', st'⟩ := newR X hx hZ hown w1 w2 eT (g := mkF m pc Ls (.int n :: st)) rfl (hb hby hd) rfl hn hcap hb' hc hl
  exact Go.step st' (K T' h' cA _ rfl X' e' E' (Arv.new A' hn) O')
theorem nP (X : Stand p l e R s m args below meth c T locs cells slots) (hx : p.tables.exec = Jvm.exec) (hZ : Z.Warmed39 s.vm) (hby : c.code = code) {aty : ArrayType} (w : (Cond.arrayClass (newarray.typeOf aty)).before a0 Z = true) (eT : T.heap = h) {n : Int32} (hn : ¬ n < 0) {cap : Nat} (hcap : n.toNatClampNeg ≤ cap) (hb' : cap * 8 ≤ 536870912) (hc : cells + 1 ≤ R.cells) (hl : slots + cap ≤ R.slots) (hd : decode code pc = .ok (.newarray aty, 2)) (hp : pc + 2 = pc')
    (K : ∀ T' h' cA b, b = h.size → Stand p l e R s m args below meth c T' locs (cells + 1) (slots + cap) → T'.heap = h' → Ext h h' → Arv Z h' b cA (newarray.typeOf aty) n [] (defaultValue (newarray.typeOf aty)) → Go p.tables e below G (T'.setTop (mkF m pc' Ls (.ref b :: st)))) : Go p.tables e below G (T.setTop (mkF m pc Ls (.int n :: st))) := by
  subst hp
  obtain ⟨T', h', cA, X', e', E', A', st'⟩ := newP X hx hZ w eT (g := mkF m pc Ls (.int n :: st)) rfl (hb hby hd) rfl hn hcap hb' hc hl
  exact Go.step st' (K T' h' cA _ rfl X' e' E' (Arv.new A' hn))
theorem sC (X : Stand p l e R s m args below meth c T locs cells slots) (hx : p.tables.exec = Jvm.exec) (hZ : Z.Warmed39 s.vm) (hby : c.code = code) (eT : T.heap = h) {a : Addr} {k : ClassId} {z : Int32} {vs : List Value} {dv : Value} (A : Arv Z h a k .char z vs dv) {j x : Int32} (i : Nat) (hj : ¬ j < 0 ∧ j < z) (hi : j.toNatClampNeg = i) (hil : i < vs.length) (hd : decode code pc = .ok (.castore, 1)) (hp : pc + 1 = pc')
    (K : ∀ T' h', Stand p l e R s m args below meth c T' (locs ++ [⟨a, j.toNatClampNeg⟩]) cells slots → T'.heap = h' → Wr h h' a j.toNatClampNeg (.int (nar .char x)) → Arv Z h' a k .char z (vs.set i (.int (nar .char x))) dv → Go p.tables e below G (T'.setTop (mkF m pc' Ls st))) : Go p.tables e below G (T.setTop (mkF m pc Ls (.int x :: .int j :: .ref a :: st))) := by
  subst hp
  obtain ⟨cl, A1, q1, S1, N1, H1, G1⟩ := A
  obtain ⟨T', h', X', e', W', st'⟩ := stC X hx hZ eT A1 (inb_of S1 hj) (g := mkF m pc Ls (.int x :: .int j :: .ref a :: st)) rfl rfl (hb hby hd)
  exact Go.step st' (K T' h' X' e' W' (Arv.set A1 q1 S1 N1 H1 G1 (fits_nar_char x) W' i hi hil))
theorem sB (X : Stand p l e R s m args below meth c T locs cells slots) (hx : p.tables.exec = Jvm.exec) (hZ : Z.Warmed39 s.vm) (hby : c.code = code) (eT : T.heap = h) {a : Addr} {k : ClassId} {z : Int32} {vs : List Value} {dv : Value} (A : Arv Z h a k .byte z vs dv) {j x : Int32} (i : Nat) (hj : ¬ j < 0 ∧ j < z) (hi : j.toNatClampNeg = i) (hil : i < vs.length) (hd : decode code pc = .ok (.bastore, 1)) (hp : pc + 1 = pc')
    (K : ∀ T' h', Stand p l e R s m args below meth c T' (locs ++ [⟨a, j.toNatClampNeg⟩]) cells slots → T'.heap = h' → Wr h h' a j.toNatClampNeg (.int (nar .byte x)) → Arv Z h' a k .byte z (vs.set i (.int (nar .byte x))) dv → Go p.tables e below G (T'.setTop (mkF m pc' Ls st))) : Go p.tables e below G (T.setTop (mkF m pc Ls (.int x :: .int j :: .ref a :: st))) := by
  subst hp
  obtain ⟨cl, A1, q1, S1, N1, H1, G1⟩ := A
  obtain ⟨T', h', X', e', W', st'⟩ := stB X hx hZ eT A1 (inb_of S1 hj) (g := mkF m pc Ls (.int x :: .int j :: .ref a :: st)) rfl rfl (hb hby hd)
  exact Go.step st' (K T' h' X' e' W' (Arv.set A1 q1 S1 N1 H1 G1 (fits_nar_byte x) W' i hi hil))
theorem sI (X : Stand p l e R s m args below meth c T locs cells slots) (hx : p.tables.exec = Jvm.exec) (hZ : Z.Warmed39 s.vm) (hby : c.code = code) (eT : T.heap = h) {a : Addr} {k : ClassId} {z : Int32} {vs : List Value} {dv : Value} (A : Arv Z h a k .int z vs dv) {j x : Int32} (i : Nat) (hj : ¬ j < 0 ∧ j < z) (hi : j.toNatClampNeg = i) (hil : i < vs.length) (hd : decode code pc = .ok (.iastore, 1)) (hp : pc + 1 = pc')
    (K : ∀ T' h', Stand p l e R s m args below meth c T' (locs ++ [⟨a, j.toNatClampNeg⟩]) cells slots → T'.heap = h' → Wr h h' a j.toNatClampNeg (.int x) → Arv Z h' a k .int z (vs.set i (.int x)) dv → Go p.tables e below G (T'.setTop (mkF m pc' Ls st))) : Go p.tables e below G (T.setTop (mkF m pc Ls (.int x :: .int j :: .ref a :: st))) := by
  subst hp
  obtain ⟨cl, A1, q1, S1, N1, H1, G1⟩ := A
  obtain ⟨T', h', X', e', W', st'⟩ := stI X hx hZ eT A1 (inb_of S1 hj) (g := mkF m pc Ls (.int x :: .int j :: .ref a :: st)) rfl rfl (hb hby hd)
  exact Go.step st' (K T' h' X' e' W' (Arv.set A1 q1 S1 N1 H1 G1 (rfl) W' i hi hil))
theorem sR (X : Stand p l e R s m args below meth c T locs cells slots) (hx : p.tables.exec = Jvm.exec) (hZ : Z.Warmed39 s.vm) (hby : c.code = code) (eT : T.heap = h) {a : Addr} {C : String} {k : ClassId} {z : Int32} {vs : List Value} {dv : Value} (A : Arv Z h a k (.object C) z vs dv) {j : Int32} {v : Value} (hv : fits (.object C) v = true) (i : Nat) (hj : ¬ j < 0 ∧ j < z) (hi : j.toNatClampNeg = i) (hil : i < vs.length) (F : ∀ cl, Arr Z h a cl (.object C) → cl.cls = k → Sto Z h a v) (hd : decode code pc = .ok (.aastore, 1)) (hp : pc + 1 = pc')
    (K : ∀ T' h', Stand p l e R s m args below meth c T' (locs ++ [⟨a, j.toNatClampNeg⟩]) cells slots → T'.heap = h' → Wr h h' a j.toNatClampNeg v → Arv Z h' a k (.object C) z (vs.set i v) dv → Go p.tables e below G (T'.setTop (mkF m pc' Ls st))) : Go p.tables e below G (T.setTop (mkF m pc Ls (v :: .int j :: .ref a :: st))) := by
  subst hp
  obtain ⟨cl, A1, q1, S1, N1, H1, G1⟩ := A
  obtain ⟨T', h', X', e', W', st'⟩ := stR X hx hZ eT A1 (inb_of S1 hj) rfl (F cl A1 q1) (g := mkF m pc Ls (v :: .int j :: .ref a :: st)) rfl rfl (hb hby hd)
  exact Go.step st' (K T' h' X' e' W' (Arv.set A1 q1 S1 N1 H1 G1 hv W' i hi hil))
theorem lR (X : Stand p l e R s m args below meth c T locs cells slots) (hx : p.tables.exec = Jvm.exec) (hZ : Z.Warmed39 s.vm) (hby : c.code = code) {ty : FieldType} (hty : ty.isReference = true) (eT : T.heap = h) {a : Addr} {k : ClassId} {z : Int32} {vs : List Value} {dv : Value} (A : Arv Z h a k ty z vs dv) {j : Int32} {v : Value} (hj : ¬ j < 0 ∧ j < z) (hv : vs.getD j.toNatClampNeg dv = v) (hd : decode code pc = .ok (.aaload, 1)) (hp : pc + 1 = pc')
    (K : Go p.tables e below G (T.setTop (mkF m pc' Ls (v :: st)))) : Go p.tables e below G (T.setTop (mkF m pc Ls (.int j :: .ref a :: st))) := by
  subst hp
  obtain ⟨cl, A1, q1, S1, N1, H1, G1⟩ := A
  exact Go.step (fun t hr => X.aaload hx (j := j) (v := v) (by rw [eT]; exact A1.1) (State.isArrayOf_alike hZ.alike A1.2.1) hty A1.2.2 (inb_of S1 hj) (Has.at H1 (inb_of S1 hj) hv) (g := mkF m pc Ls (.int j :: .ref a :: st)) rfl rfl (hb hby hd) t hr) K
theorem lC (X : Stand p l e R s m args below meth c T locs cells slots) (hx : p.tables.exec = Jvm.exec) (hZ : Z.Warmed39 s.vm) (hby : c.code = code) (eT : T.heap = h) {a : Addr} {k : ClassId} {z : Int32} {vs : List Value} {dv : Value} (A : Arv Z h a k .char z vs dv) {j : Int32} {v : Int32} (hj : ¬ j < 0 ∧ j < z) (hv : vs.getD j.toNatClampNeg dv = (.int v)) (hd : decode code pc = .ok (.caload, 1)) (hp : pc + 1 = pc')
    (K : Go p.tables e below G (T.setTop (mkF m pc' Ls ((.int v) :: st)))) : Go p.tables e below G (T.setTop (mkF m pc Ls (.int j :: .ref a :: st))) := by
  subst hp
  obtain ⟨cl, A1, q1, S1, N1, H1, G1⟩ := A
  exact Go.step (fun t hr => X.caload hx (j := j) (v := (.int v)) (by rw [eT]; exact A1.1) (State.isArrayOf_alike hZ.alike A1.2.1) A1.2.2 (inb_of S1 hj) (Has.at H1 (inb_of S1 hj) hv) (g := mkF m pc Ls (.int j :: .ref a :: st)) rfl rfl (hb hby hd) t hr) K
theorem lB (X : Stand p l e R s m args below meth c T locs cells slots) (hx : p.tables.exec = Jvm.exec) (hZ : Z.Warmed39 s.vm) (hby : c.code = code) (eT : T.heap = h) {a : Addr} {k : ClassId} {z : Int32} {vs : List Value} {dv : Value} (A : Arv Z h a k .byte z vs dv) {j : Int32} {v : Int32} (hj : ¬ j < 0 ∧ j < z) (hv : vs.getD j.toNatClampNeg dv = (.int v)) (hd : decode code pc = .ok (.baload, 1)) (hp : pc + 1 = pc')
    (K : Go p.tables e below G (T.setTop (mkF m pc' Ls ((.int v) :: st)))) : Go p.tables e below G (T.setTop (mkF m pc Ls (.int j :: .ref a :: st))) := by
  subst hp
  obtain ⟨cl, A1, q1, S1, N1, H1, G1⟩ := A
  exact Go.step (fun t hr => X.baloadBytes hx (j := j) (v := (.int v)) (by rw [eT]; exact A1.1) (State.isArrayOf_alike hZ.alike A1.2.1) A1.2.2 (inb_of S1 hj) (Has.at H1 (inb_of S1 hj) hv) (g := mkF m pc Ls (.int j :: .ref a :: st)) rfl rfl (hb hby hd) t hr) K
theorem lI (X : Stand p l e R s m args below meth c T locs cells slots) (hx : p.tables.exec = Jvm.exec) (hZ : Z.Warmed39 s.vm) (hby : c.code = code) (eT : T.heap = h) {a : Addr} {k : ClassId} {z : Int32} {vs : List Value} {dv : Value} (A : Arv Z h a k .int z vs dv) {j : Int32} {v : Int32} (hj : ¬ j < 0 ∧ j < z) (hv : vs.getD j.toNatClampNeg dv = (.int v)) (hd : decode code pc = .ok (.iaload, 1)) (hp : pc + 1 = pc')
    (K : Go p.tables e below G (T.setTop (mkF m pc' Ls ((.int v) :: st)))) : Go p.tables e below G (T.setTop (mkF m pc Ls (.int j :: .ref a :: st))) := by
  subst hp
  obtain ⟨cl, A1, q1, S1, N1, H1, G1⟩ := A
  exact Go.step (fun t hr => X.iaload hx (j := j) (v := (.int v)) (by rw [eT]; exact A1.1) (State.isArrayOf_alike hZ.alike A1.2.1) A1.2.2 (inb_of S1 hj) (Has.at H1 (inb_of S1 hj) hv) (g := mkF m pc Ls (.int j :: .ref a :: st)) rfl rfl (hb hby hd) t hr) K
theorem aL (X : Stand p l e R s m args below meth c T locs cells slots) (hx : p.tables.exec = Jvm.exec) (hZ : Z.Warmed39 s.vm) (hby : c.code = code) (eT : T.heap = h) {a : Addr} {ty : FieldType} {k : ClassId} {z : Int32} {vs : List Value} {dv : Value} (A : Arv Z h a k ty z vs dv) (hd : decode code pc = .ok (.arraylength, 1)) (hp : pc + 1 = pc')
    (K : Go p.tables e below G (T.setTop (mkF m pc' Ls (.int z :: st)))) : Go p.tables e below G (T.setTop (mkF m pc Ls (.ref a :: st))) := by
  subst hp
  obtain ⟨cl, A1, q1, S1, N1, H1, G1⟩ := A
  refine Go.step (fun t hr => X.arraylength hx (by rw [eT]; exact A1.1) (State.isArrayOf_alike hZ.alike A1.2.1) (g := mkF m pc Ls (.ref a :: st)) rfl rfl (hb hby hd) t hr) ?_
  rw [len_of S1 N1]
  exact K
theorem cV (X : Stand p l e R s m args below meth c T locs cells slots) (hx : p.tables.exec = Jvm.exec) (hZ : Z.Warmed39 s.vm) (hby : c.code = code) (hsz : Ls.size = c.maxLocals) {own : String} {index : Nat} (hown : s.vm.findClass own = some m.cls) {C : String} {y z : MethodName} {bytes : ByteArray} {maxL : Nat} {ret : Option FieldType} {rm : Room} {as' : Array Value} {Qc : Option Value → Heap → List Loc → Prop} (wl : (Cond.methodLink own index y).before a0 Z = true) (wd : (Cond.declares y).before a0 Z = true) (hnf : NotFace s y) (ws : (Cond.selects C y z).before a0 Z = true) (wi : (Cond.instanceMethod z).before a0 Z = true) (wc : (Cond.code z bytes maxL ret).before a0 Z = true) (wz : (Cond.initialized z.cls).before a0 Z = true) (hy : y.cls ≠ "java/lang/invoke/MethodHandle" ∧ y.cls ≠ "java/lang/invoke/VarHandle") (hM : MetFree l z (head1 [Cond.code z bytes maxL ret] rm) (fun a U => a = as' ∧ Z.Warmed39 U.vm ∧ U.heap = h) (fun _ _ _ _ _ => True) (fun _ U o U' => ∃ v L, o = .returned v ∧ Qc v U'.heap L ∧ FrameEnd U o U' L rm.cells rm.slots)) {b : Addr} (E : Exa Z h b C) (eT : T.heap = h) {argsL stk : List Value} {ps : List FieldType} {r : Option FieldType} (hpd : parseMethodDescriptor y.desc = some ⟨ps, r⟩) (hpl : argsL.length = ps.length) (has : as' = (Value.ref b :: argsL).toArray) (hstk : stk = argsL.reverse ++ .ref b :: st) {W : Nat} (hW : (st.map fun v => v.category).sum = W) (hf : rm.frames + 1 ≤ R.frames) (hl : W + (maxL + 11) + rm.locals ≤ R.locals) (hcl : cells + rm.cells ≤ R.cells) (hsl : slots + rm.slots ≤ R.slots) (hd : decode code pc = .ok (.invokevirtual index, 3)) (hp : pc + 3 = pc')
    (K : ∀ T' L v, Stand p l e R s m args below meth c T' (locs ++ L) (cells + rm.cells) (slots + rm.slots) → Qc v T'.heap L → Go p.tables e below G (T'.setTop (mkF m pc' Ls (v.toList ++ st)))) : Go p.tables e below G (T.setTop (mkF m pc Ls stk)) := by
  subst hp has hstk hW
  obtain ⟨cq, kq, qa, qb, qc⟩ := isOf hZ eT E
  obtain ⟨_, _, ⟨T1, L1, k1, n1⟩, -, X1, ⟨Lc1, hQ1, l1, y1, z1⟩, st1⟩ := X.virtualBack hx (y := y) (z := z) hown (mvT hZ wl) (mvT hZ wd) hnf (mvT hZ ws) (mvT hZ wi) hy (backOf (W := (st.map fun v => v.category).sum) hM hZ wc wz hf hl) qa qc (g := mkF m pc Ls (argsL.reverse ++ .ref b :: st)) rfl hsz (Steps.refl _) (argsL := argsL) (rest := st) (lenOf hpd hpl) rfl (by show 2 * 0 + _ ≤ _; omega) (hb hby hd) (fun _ _ => ⟨rfl, eT, hcl, hsl⟩)
  dsimp only [Pt.U, Pt.locs, Pt.cells, Pt.slots] at X1 l1 y1 z1 st1 hQ1
  subst l1 y1 z1
  exact Go.via st1 (K _ _ _ X1 hQ1)
theorem cI (X : Stand p l e R s m args below meth c T locs cells slots) (hx : p.tables.exec = Jvm.exec) (hZ : Z.Warmed39 s.vm) (hby : c.code = code) (hsz : Ls.size = c.maxLocals) {own : String} {index : Nat} (hown : s.vm.findClass own = some m.cls) {C : String} {count : Nat} {xi y : MethodName} {bytes : ByteArray} {maxL : Nat} {ret : Option FieldType} {rm : Room} {as' : Array Value} {Qc : Option Value → Heap → List Loc → Prop} (wl : (Cond.methodLink own index xi).before a0 Z = true) (wd : (Cond.declares xi).before a0 Z = true) (wf : (Cond.interfaceMethod xi.cls xi.cls xi.name xi.desc).before a0 Z = true) (hwf : ((Cond.interfaceMethod xi.cls xi.cls xi.name xi.desc).onTables && (Cond.interfaceMethod xi.cls xi.cls xi.name xi.desc).keepsFace) = true) (ws : (Cond.selects C xi y).before a0 Z = true) (wi : (Cond.instanceMethod y).before a0 Z = true) (wp : (Cond.publicMethod y).before a0 Z = true) (wu : (Cond.unhidden C xi.name xi.desc).before a0 Z = true) (wct : (Cond.castable C xi.cls).before a0 Z = true) (wc : (Cond.code y bytes maxL ret).before a0 Z = true) (wz : (Cond.initialized y.cls).before a0 Z = true) (hy : xi.cls ≠ "java/lang/invoke/MethodHandle" ∧ xi.cls ≠ "java/lang/invoke/VarHandle") (hM : MetFree l y (head1 [Cond.code y bytes maxL ret] rm) (fun a U => a = as' ∧ Z.Warmed39 U.vm ∧ U.heap = h) (fun _ _ _ _ _ => True) (fun _ U o U' => ∃ v L, o = .returned v ∧ Qc v U'.heap L ∧ FrameEnd U o U' L rm.cells rm.slots)) {b : Addr} (E : Exa Z h b C) (eT : T.heap = h) {argsL stk : List Value} {ps : List FieldType} {r : Option FieldType} (hpd : parseMethodDescriptor xi.desc = some ⟨ps, r⟩) (hpl : argsL.length = ps.length) (has : as' = (Value.ref b :: argsL).toArray) (hstk : stk = argsL.reverse ++ .ref b :: st) {W : Nat} (hW : (st.map fun v => v.category).sum = W) (hf : rm.frames + 1 ≤ R.frames) (hl : W + (maxL + 11) + rm.locals ≤ R.locals) (hcl : cells + rm.cells ≤ R.cells) (hsl : slots + rm.slots ≤ R.slots) (hd : decode code pc = .ok (.invokeinterface index count, 5)) (hp : pc + 5 = pc')
    (K : ∀ T' L v, Stand p l e R s m args below meth c T' (locs ++ L) (cells + rm.cells) (slots + rm.slots) → Qc v T'.heap L → Go p.tables e below G (T'.setTop (mkF m pc' Ls (v.toList ++ st)))) : Go p.tables e below G (T.setTop (mkF m pc Ls stk)) := by
  subst hp has hstk hW
  obtain ⟨cq, kq, qa, qb, qc⟩ := isOf hZ eT E
  obtain ⟨_, _, ⟨T1, L1, k1, n1⟩, -, X1, ⟨Lc1, hQ1, l1, y1, z1⟩, st1⟩ := X.interfaceBack hx (xi := xi) (y := y) hown (mvT hZ wl) (mvT hZ wd) (mvT hZ wf hwf) (mvT hZ ws) (mvT hZ wi) (mvT hZ wp) (mvT hZ wu) (mvT hZ wct) hy (backOf (W := (st.map fun v => v.category).sum) hM hZ wc wz hf hl) qa qb qc (g := mkF m pc Ls (argsL.reverse ++ .ref b :: st)) rfl hsz (Steps.refl _) (argsL := argsL) (rest := st) (lenOf hpd hpl) rfl (by show 2 * 0 + _ ≤ _; omega) (hb hby hd) (fun _ _ => ⟨rfl, eT, hcl, hsl⟩)
  dsimp only [Pt.U, Pt.locs, Pt.cells, Pt.slots] at X1 l1 y1 z1 st1 hQ1
  subst l1 y1 z1
  exact Go.via st1 (K _ _ _ X1 hQ1)
theorem cS (X : Stand p l e R s m args below meth c T locs cells slots) (hx : p.tables.exec = Jvm.exec) (hZ : Z.Warmed39 s.vm) (hby : c.code = code) (hsz : Ls.size = c.maxLocals) {own : String} {index : Nat} (hown : s.vm.findClass own = some m.cls) {y : MethodName} {bytes : ByteArray} {maxL : Nat} {ret : Option FieldType} {rm : Room} {as' : Array Value} {Qc : Option Value → Heap → List Loc → Prop} (wl : (Cond.methodLink own index y).before a0 Z = true) (wst : (Cond.static y).before a0 Z = true) (wc : (Cond.code y bytes maxL ret).before a0 Z = true) (wz : (Cond.initialized y.cls).before a0 Z = true) (hy : y.cls ≠ "java/lang/invoke/MethodHandle" ∧ y.cls ≠ "java/lang/invoke/VarHandle") (hM : MetFree l y (head1 [Cond.code y bytes maxL ret] rm) (fun a U => a = as' ∧ Z.Warmed39 U.vm ∧ U.heap = h) (fun _ _ _ _ _ => True) (fun _ U o U' => ∃ v L, o = .returned v ∧ Qc v U'.heap L ∧ FrameEnd U o U' L rm.cells rm.slots)) (eT : T.heap = h) {argsL stk : List Value} {ps : List FieldType} {r : Option FieldType} (hpd : parseMethodDescriptor y.desc = some ⟨ps, r⟩) (hpl : argsL.length = ps.length) (has : as' = (argsL).toArray) (hstk : stk = argsL.reverse ++ st) {W : Nat} (hW : (st.map fun v => v.category).sum = W) (hf : rm.frames + 1 ≤ R.frames) (hl : W + (maxL + 11) + rm.locals ≤ R.locals) (hcl : cells + rm.cells ≤ R.cells) (hsl : slots + rm.slots ≤ R.slots) (hd : decode code pc = .ok (.invokestatic index, 3)) (hp : pc + 3 = pc')
    (K : ∀ T' L v, Stand p l e R s m args below meth c T' (locs ++ L) (cells + rm.cells) (slots + rm.slots) → Qc v T'.heap L → Go p.tables e below G (T'.setTop (mkF m pc' Ls (v.toList ++ st)))) : Go p.tables e below G (T.setTop (mkF m pc Ls stk)) := by
  subst hp has hstk hW
  obtain ⟨_, _, ⟨T1, L1, k1, n1⟩, -, X1, ⟨Lc1, hQ1, l1, y1, z1⟩, st1⟩ := Jvm.LawKit.callS X hx (y := y) hown (mvT hZ wl) (mvT hZ wst) (mvT hZ wz) (mvT hZ wc) hy (backOf (W := (st.map fun v => v.category).sum) hM hZ wc wz hf hl) (g := mkF m pc Ls (argsL.reverse ++ st)) rfl hsz (argsL := argsL) (rest := st) (lenOf hpd hpl) rfl (by show 2 * 0 + _ ≤ _; omega) (hb hby hd) (fun _ _ => ⟨rfl, eT, hcl, hsl⟩)
  dsimp only [Pt.U, Pt.locs, Pt.cells, Pt.slots] at X1 l1 y1 z1 st1 hQ1
  subst l1 y1 z1
  exact Go.step st1 (K _ _ _ X1 hQ1)
theorem cN (X : Stand p l e R s m args below meth c T locs cells slots) (hx : p.tables.exec = Jvm.exec) (hZ : Z.Warmed39 s.vm) (hby : c.code = code) (hsz : Ls.size = c.maxLocals) {own : String} {index : Nat} (hown : s.vm.findClass own = some m.cls) {y : MethodName} {bytes : ByteArray} {maxL : Nat} {ret : Option FieldType} {rm : Room} {as' : Array Value} {Qc : Option Value → Heap → List Loc → Prop} (hyi : y.name = "<init>") (hrn : ret = none) (wl : (Cond.methodLink own index y).before a0 Z = true) (wi : (Cond.instanceMethod y).before a0 Z = true) (wc : (Cond.code y bytes maxL ret).before a0 Z = true) (wz : (Cond.initialized y.cls).before a0 Z = true) (hy : y.cls ≠ "java/lang/invoke/MethodHandle" ∧ y.cls ≠ "java/lang/invoke/VarHandle") (hM : MetFree l y (head1 [Cond.code y bytes maxL ret] rm) (fun a U => a = as' ∧ Z.Warmed39 U.vm ∧ U.heap = h) (fun _ _ _ _ _ => True) (fun _ U o U' => ∃ v L, o = .returned v ∧ Qc v U'.heap L ∧ FrameEnd U o U' L rm.cells rm.slots)) {b : Addr} (eT : T.heap = h) {argsL stk : List Value} {ps : List FieldType} {r : Option FieldType} (hpd : parseMethodDescriptor y.desc = some ⟨ps, r⟩) (hpl : argsL.length = ps.length) (has : as' = (Value.ref b :: argsL).toArray) (hstk : stk = argsL.reverse ++ .ref b :: st) {W : Nat} (hW : (st.map fun v => v.category).sum = W) (hf : rm.frames + 1 ≤ R.frames) (hl : W + (maxL + 11) + rm.locals ≤ R.locals) (hcl : cells + rm.cells ≤ R.cells) (hsl : slots + rm.slots ≤ R.slots) (hd : decode code pc = .ok (.invokespecial index, 3)) (hp : pc + 3 = pc')
    (K : ∀ T' L v, Stand p l e R s m args below meth c T' (locs ++ L) (cells + rm.cells) (slots + rm.slots) → Qc v T'.heap L → Go p.tables e below G (T'.setTop (mkF m pc' Ls (v.toList ++ st)))) : Go p.tables e below G (T.setTop (mkF m pc Ls stk)) := by
  subst hp has hstk hW hrn
  obtain ⟨_, _, ⟨T1, L1, k1, n1⟩, -, X1, ⟨Lc1, hQ1, l1, y1, z1⟩, st1⟩ := X.specialBack hx (y := y) hyi hown (mvT hZ wl) (mvT hZ wi) (mvT hZ wc) hy (backOf (W := (st.map fun v => v.category).sum) hM hZ wc wz hf hl) (g := mkF m pc Ls (argsL.reverse ++ .ref b :: st)) rfl hsz (Steps.refl _) (a := b) (argsL := argsL) (rest := st) (lenOf hpd hpl) rfl (by show 2 * 0 + _ ≤ _; omega) (hb hby hd) (fun _ _ => ⟨rfl, eT, hcl, hsl⟩)
  dsimp only [Pt.U, Pt.locs, Pt.cells, Pt.slots] at X1 l1 y1 z1 st1 hQ1
  subst l1 y1 z1
  exact Go.via st1 (K _ _ _ X1 hQ1)
theorem cP (X : Stand p l e R s m args below meth c T locs cells slots) (hx : p.tables.exec = Jvm.exec) (hZ : Z.Warmed39 s.vm) (hby : c.code = code) (hsz : Ls.size = c.maxLocals) {own : String} {index : Nat} (hown : s.vm.findClass own = some m.cls) {C : String} {y : MethodName} {bytes : ByteArray} {maxL : Nat} {ret : Option FieldType} {rm : Room} {as' : Array Value} {Qc : Option Value → Heap → List Loc → Prop} (wl : (Cond.methodLink own index y).before a0 Z = true) (wi : (Cond.instanceMethod y).before a0 Z = true) (ws : (Cond.selects y.cls y y).before a0 Z = true) (wp : (Cond.privateMethod y).before a0 Z = true) (wc : (Cond.code y bytes maxL ret).before a0 Z = true) (wz : (Cond.initialized y.cls).before a0 Z = true) (hy : y.cls ≠ "java/lang/invoke/MethodHandle" ∧ y.cls ≠ "java/lang/invoke/VarHandle") (hM : MetFree l y (head1 [Cond.code y bytes maxL ret] rm) (fun a U => a = as' ∧ Z.Warmed39 U.vm ∧ U.heap = h) (fun _ _ _ _ _ => True) (fun _ U o U' => ∃ v L, o = .returned v ∧ Qc v U'.heap L ∧ FrameEnd U o U' L rm.cells rm.slots)) {b : Addr} (E : Exa Z h b C) (eT : T.heap = h) {argsL stk : List Value} {ps : List FieldType} {r : Option FieldType} (hpd : parseMethodDescriptor y.desc = some ⟨ps, r⟩) (hpl : argsL.length = ps.length) (has : as' = (Value.ref b :: argsL).toArray) (hstk : stk = argsL.reverse ++ .ref b :: st) {W : Nat} (hW : (st.map fun v => v.category).sum = W) (hf : rm.frames + 1 ≤ R.frames) (hl : W + (maxL + 11) + rm.locals ≤ R.locals) (hcl : cells + rm.cells ≤ R.cells) (hsl : slots + rm.slots ≤ R.slots) (hd : decode code pc = .ok (.invokevirtual index, 3)) (hp : pc + 3 = pc')
    (K : ∀ T' L v, Stand p l e R s m args below meth c T' (locs ++ L) (cells + rm.cells) (slots + rm.slots) → Qc v T'.heap L → Go p.tables e below G (T'.setTop (mkF m pc' Ls (v.toList ++ st)))) : Go p.tables e below G (T.setTop (mkF m pc Ls stk)) := by
  subst hp has hstk hW
  obtain ⟨cq, qa, qb⟩ := E.cell
  obtain ⟨_, _, ⟨T1, L1, k1, n1⟩, -, X1, ⟨Lc1, hQ1, l1, y1, z1⟩, st1⟩ := X.privateBack hx (y := y) hown (mvT hZ wl) (mvT hZ wi) (mvT hZ ws) (Cond.privateMethod_at (mvP hZ wp (args := #[]))) (mvT hZ wc) hy (backOf (W := (st.map fun v => v.category).sum) hM hZ wc wz hf hl) (g := mkF m pc Ls (argsL.reverse ++ .ref b :: st)) rfl hsz (Steps.refl _) (a := b) (by rw [eT]; exact qa) qb (argsL := argsL) (rest := st) (lenOf hpd hpl) rfl (by show 2 * 0 + _ ≤ _; omega) (hb hby hd) (fun _ _ => ⟨rfl, eT, hcl, hsl⟩)
  dsimp only [Pt.U, Pt.locs, Pt.cells, Pt.slots] at X1 l1 y1 z1 st1 hQ1
  subst l1 y1 z1
  exact Go.via st1 (K _ _ _ X1 hQ1)
theorem cU (X : Stand p l e R s m args below meth c T locs cells slots) (hx : p.tables.exec = Jvm.exec) (hZ : Z.Warmed39 s.vm) (hby : c.code = code) (hsz : Ls.size = c.maxLocals) {own : String} {index : Nat} (hown : s.vm.findClass own = some m.cls) {C : String} {y : MethodName} {bytes : ByteArray} {maxL : Nat} {ret : Option FieldType} {rm : Room} {as' : Array Value} {Qc : Option Value → Heap → List Loc → Prop} (wl : (Cond.methodLink own index y).before a0 Z = true) (wsm : (Cond.sameMethod y.cls y.cls y.name y.desc).before a0 Z = true) (wi : (Cond.instanceMethod y).before a0 Z = true) (wsc : (Cond.superclass own y.cls).before a0 Z = true) (hne : y.name ≠ "<init>") (wc : (Cond.code y bytes maxL ret).before a0 Z = true) (wz : (Cond.initialized y.cls).before a0 Z = true) (hM : MetFree l y (head1 [Cond.code y bytes maxL ret] rm) (fun a U => a = as' ∧ Z.Warmed39 U.vm ∧ U.heap = h) (fun _ _ _ _ _ => True) (fun _ U o U' => ∃ v L, o = .returned v ∧ Qc v U'.heap L ∧ FrameEnd U o U' L rm.cells rm.slots)) {b : Addr} (E : Exa Z h b C) (eT : T.heap = h) {argsL stk : List Value} {ps : List FieldType} {r : Option FieldType} (hpd : parseMethodDescriptor y.desc = some ⟨ps, r⟩) (hpl : argsL.length = ps.length) (has : as' = (Value.ref b :: argsL).toArray) (hstk : stk = argsL.reverse ++ .ref b :: st) {W : Nat} (hW : (st.map fun v => v.category).sum = W) (hf : rm.frames + 1 ≤ R.frames) (hl : W + (maxL + 11) + rm.locals ≤ R.locals) (hcl : cells + rm.cells ≤ R.cells) (hsl : slots + rm.slots ≤ R.slots) (hd : decode code pc = .ok (.invokespecial index, 3)) (hp : pc + 3 = pc')
    (K : ∀ T' L v, Stand p l e R s m args below meth c T' (locs ++ L) (cells + rm.cells) (slots + rm.slots) → Qc v T'.heap L → Go p.tables e below G (T'.setTop (mkF m pc' Ls (v.toList ++ st)))) : Go p.tables e below G (T.setTop (mkF m pc Ls stk)) := by
  subst hp has hstk hW
  obtain ⟨_, _, ⟨T1, L1, k1, n1⟩, -, X1, ⟨Lc1, hQ1, l1, y1, z1⟩, st1⟩ := superBack X hx hZ (y := y) hown wl wsm wi wsc hne (backOf (W := (st.map fun v => v.category).sum) hM hZ wc wz hf hl) eT (Ins.self E) (g := mkF m pc Ls (argsL.reverse ++ .ref b :: st)) rfl hsz wc (argsL := argsL) (rest := st) (lenOf hpd hpl) rfl (by show 2 * 0 + _ ≤ _; omega) (hb hby hd) (fun _ _ => ⟨rfl, eT, hcl, hsl⟩)
  dsimp only [Pt.U, Pt.locs, Pt.cells, Pt.slots] at X1 l1 y1 z1 st1 hQ1
  subst l1 y1 z1
  exact Go.via st1 (K _ _ _ X1 hQ1)
end Laws2
end Jvm.OG
namespace Jvm.OG
open Sem ClassFile Op Lib Bundle Jvm.Stand Jvm.Free Jvm.LawKit Jvm.RoadKit
section H
variable {p : Program} {l : Launch} {e : Env} {R : Room} {s : State} {m : MethodId} {args : Array Value} {below : List Frame} {meth : Method} {c : Code} {T : State} {locs : List Loc} {cells slots : Nat} {G : Outcome → State → Option Value → List Loc → Prop} {Q : Option Value → Heap → List Loc → Prop} {kc ks : Nat} {code : ByteArray} {pc pc' : Nat} {Ls Ls' : Array Slot} {st : List Value} {Z : State} {a0 : Array Value} {h : Heap} {EL : List (String × Nat)} {vm0 : Vm} {k0 : Nat}
/-- the end of a body that may load String constants -/
def GH (Z : State) (EL : List (String × Nat)) (Q : Option Value → Heap → List Loc → Prop) (kc ks : Nat) (s : State) (o : Outcome) (t : State) (v : Option Value) (L : List Loc) : Prop := Q v t.heap L ∧ CHr Z EL s.vm s.heap t.vm t.heap ∧ ReturnedEndW s o t L kc ks
theorem ldcH (X : Stand p l e R (s.setVm vm0) m args below meth c T locs cells slots) (hx : p.tables.exec = Jvm.exec) (hZ : Z.Warmed39 vm0) (hby : c.code = code) {own : String} {index : Nat} (hown : vm0.findClass own = some m.cls) {text : String} (w : (Cond.stringLink own index text).before a0 Z = true) (wS : ∀ a ∈ Bundle.stringAtoms, a.before a0 Z = true) (eT : T.heap = h) (hS : s.Since vm0 k0) (hk : k0 ≤ h.size) (hEL : EW Z a0 EL) (hmem : (own, index) ∈ EL) (H : CHv Z EL vm0 h) {vs : List Value} {z : Int32} (ht : (∀ c ∈ text.toList, c.toNat < 256) ∧ text.toList.map (fun c => Value.int (Jvm.Lit.byteI c.toNat.toUInt16)) = vs) (hz : ¬ z < 0) (hl : z.toNatClampNeg = vs.length) {n : Nat} (hn : 4 * text.toList.length ≤ n) (hbig : n ≤ 536870912) (hc : cells + 2 ≤ R.cells) (hl' : slots + (n + 4) ≤ R.slots) (hd : decode code pc = .ok (.ldc index, 2)) (hp : pc + 2 = pc')
    (K : ∀ a T' h' k1 b k, Stand p l e R (s.setVm T'.vm) m args below meth c T' locs (cells + 2) (slots + (n + 4)) → T'.heap = h' → Ext h h' → s.Since T'.vm k1 → k1 ≤ h'.size → Z.Warmed39 T'.vm → T'.vm.findClass own = some m.cls → CHr Z EL vm0 h T'.vm h' → Exa Z h' a "java/lang/String" → Fld Z h' a "java/lang/String" "coder" "B" (.int 0) → Fld Z h' a "java/lang/String" "value" "[B" (.ref b) → Arv Z h' b k .byte z vs (.int 0) → (∀ x, Safe Z EL T'.vm h' x → x ≠ a ∧ x ≠ b) → Go p.tables e below G (T'.setTop (mkF m pc' Ls (.ref a :: st)))) : Go p.tables e below G (T.setTop (mkF m pc Ls st)) := by
  subst hp
  obtain ⟨a, T', h', k1, b, k, X', e', E', S', K', Z', O', E1, F1, F2, A1, -, -, C', -, N', st'⟩ := ldcCH X hx hZ hown w wS eT hS hk hEL hmem H ht hz hl (g := mkF m pc Ls st) rfl (hb hby hd) hn hbig hc hl'
  exact Go.step st' (K a T' h' k1 b k X' e' E' S' K' Z' O' C' E1 F1 F2 A1 N')
theorem retZH (X : Stand p l e R (s.setVm vm0) m args below meth c T locs cells slots) (hx : p.tables.exec = Jvm.exec) (hZ : Z.Warmed39 vm0) (hby : c.code = code) (hEL : EW Z a0 EL) (hS : s.Since vm0 k0) (hk : k0 ≤ T.heap.size) (hC : CHr Z EL s.vm s.heap vm0 T.heap) {t : FieldType} {z : Int32} (hret : meth.sig.returnType = some t) (ht : t = .boolean ∨ t = .byte ∨ t = .char ∨ t = .short) (hd : decode code pc = .ok (.ireturn, 1)) (hlk : meth.locks = false) (hkc : cells ≤ kc) (hks : slots ≤ ks) (hQ : Q (some (.int (nar t z))) T.heap locs) : Go p.tables e below (GH Z EL Q kc ks s) (T.setTop (mkF m pc Ls (.int z :: st))) := by
  obtain ⟨fs, hr, hrun, hended, hW⟩ := X.leaveW hS hk (v := some (.int (nar t z))) (fun h => by rw [hret] at h; cases h) hlk
  have hCE : CHr Z EL s.vm s.heap T.vm T.heap := hC.trans (CHv.at X hZ hEL hC.1)
  exact ⟨_, _, retN X hx hret ht (hb hby hd) hr, hrun, hended, _, _, rfl, hQ, hCE, hW.1, hW.2.1, hW.2.2.1, hW.2.2.2.mono hkc hks⟩
theorem retAH (X : Stand p l e R (s.setVm vm0) m args below meth c T locs cells slots) (hx : p.tables.exec = Jvm.exec) (hZ : Z.Warmed39 vm0) (hby : c.code = code) (hEL : EW Z a0 EL) (hS : s.Since vm0 k0) (hk : k0 ≤ T.heap.size) (hC : CHr Z EL s.vm s.heap vm0 T.heap) {t : FieldType} {w : Value} (hret : meth.sig.returnType = some t) (ht : t.isReference = true) (hw : w.isRef = true) (hn : narrow t w = w) (hd : decode code pc = .ok (.areturn, 1)) (hlk : meth.locks = false) (hkc : cells ≤ kc) (hks : slots ≤ ks) (hQ : Q (some w) T.heap locs) : Go p.tables e below (GH Z EL Q kc ks s) (T.setTop (mkF m pc Ls (w :: st))) := by
  obtain ⟨fs, hr, hrun, hended, hW⟩ := X.leaveW hS hk (v := some w) (fun h => by rw [hret] at h; cases h) hlk
  have hCE : CHr Z EL s.vm s.heap T.vm T.heap := hC.trans (CHv.at X hZ hEL hC.1)
  exact ⟨_, _, Jvm.RoadKit.retOut X hx hret hn (Or.inr (Or.inr (Or.inr (Or.inr ⟨rfl, ht, hw⟩)))) (hb hby hd) hr, hrun, hended, _, _, rfl, hQ, hCE, hW.1, hW.2.1, hW.2.2.1, hW.2.2.2.mono hkc hks⟩
theorem retVH (X : Stand p l e R (s.setVm vm0) m args below meth c T locs cells slots) (hx : p.tables.exec = Jvm.exec) (hZ : Z.Warmed39 vm0) (hby : c.code = code) (hEL : EW Z a0 EL) (hS : s.Since vm0 k0) (hk : k0 ≤ T.heap.size) (hC : CHr Z EL s.vm s.heap vm0 T.heap) (hret : meth.sig.returnType = none) (hd : decode code pc = .ok (.return_, 1)) (hlk : meth.locks = false) (hkc : cells ≤ kc) (hks : slots ≤ ks) (hQ : Q none T.heap locs) : Go p.tables e below (GH Z EL Q kc ks s) (T.setTop (mkF m pc Ls [])) := by
  obtain ⟨fs, hr, hrun, hended, hW⟩ := X.leaveW hS hk (v := none) (fun _ => rfl) hlk
  have hCE : CHr Z EL s.vm s.heap T.vm T.heap := hC.trans (CHv.at X hZ hEL hC.1)
  exact ⟨_, _, X.returnOut hx hret (hb hby hd) hr, hrun, hended, _, _, rfl, hQ, hCE, hW.1, hW.2.1, hW.2.2.1, hW.2.2.2.mono hkc hks⟩
theorem cVH (X : Stand p l e R (s.setVm vm0) m args below meth c T locs cells slots) (hx : p.tables.exec = Jvm.exec) (hZ : Z.Warmed39 vm0) (hby : c.code = code) (hsz : Ls.size = c.maxLocals) {own : String} {index : Nat} (hown : vm0.findClass own = some m.cls) {C : String} {y z : MethodName} {bytes : ByteArray} {maxL : Nat} {ret : Option FieldType} {rm : Room} {as' : Array Value} {Qc : Option Value → Heap → List Loc → Prop} (wl : (Cond.methodLink own index y).before a0 Z = true) (wd : (Cond.declares y).before a0 Z = true) (hnf : NotFace (s.setVm vm0) y) (ws : (Cond.selects C y z).before a0 Z = true) (wi : (Cond.instanceMethod z).before a0 Z = true) (wc : (Cond.code z bytes maxL ret).before a0 Z = true) (wz : (Cond.initialized z.cls).before a0 Z = true) (hy : y.cls ≠ "java/lang/invoke/MethodHandle" ∧ y.cls ≠ "java/lang/invoke/VarHandle") (hM : MetFree l z (head1 [Cond.code z bytes maxL ret] rm) (fun a U => a = as' ∧ Z.Warmed39 U.vm ∧ U.heap = h ∧ CHv Z EL U.vm h) (fun _ _ _ _ _ => True) (fun _ U o U' => ∃ v L, o = .returned v ∧ Qc v U'.heap L ∧ CHr Z EL U.vm U.heap U'.vm U'.heap ∧ ReturnedEndW U o U' L rm.cells rm.slots)) {b : Addr} (E : Exa Z h b C) (eT : T.heap = h) (hS : s.Since vm0 k0) (hk : k0 ≤ h.size) (hEL : EW Z a0 EL) (H : CHv Z EL vm0 h) {argsL stk : List Value} {ps : List FieldType} {r : Option FieldType} (hpd : parseMethodDescriptor y.desc = some ⟨ps, r⟩) (hpl : argsL.length = ps.length) (has : as' = (Value.ref b :: argsL).toArray) (hstk : stk = argsL.reverse ++ .ref b :: st) {W : Nat} (hW : (st.map fun v => v.category).sum = W) (hf : rm.frames + 1 ≤ R.frames) (hl : W + (maxL + 11) + rm.locals ≤ R.locals) (hcl : cells + rm.cells ≤ R.cells) (hsl : slots + rm.slots ≤ R.slots) (hd : decode code pc = .ok (.invokevirtual index, 3)) (hp : pc + 3 = pc')
    (K : ∀ T' L v, Stand p l e R (s.setVm T'.vm) m args below meth c T' (locs ++ L) (cells + rm.cells) (slots + rm.slots) → s.Since T'.vm T'.heap.size → Z.Warmed39 T'.vm → T'.vm.findClass own = some m.cls → CHr Z EL vm0 h T'.vm T'.heap → Qc v T'.heap L → Go p.tables e below G (T'.setTop (mkF m pc' Ls (v.toList ++ st)))) : Go p.tables e below G (T.setTop (mkF m pc Ls stk)) := by
  subst hp has hstk hW
  obtain ⟨cq, kq, qa, qb, qc⟩ := isOf (s := s.setVm vm0) hZ eT E
  obtain ⟨_, _, ⟨T1, L1, k1, n1⟩, -, X1, S1, g1, ⟨Lc1, hQ1, l1, y1, z1, C1⟩, st1⟩ := X.virtualBackS hx (y := y) (z := z) hown (mvT (s := s.setVm vm0) hZ wl) (mvT (s := s.setVm vm0) hZ wd) hnf (mvT (s := s.setVm vm0) hZ ws) (mvT (s := s.setVm vm0) hZ wi) hy (backOfSH (W := (st.map fun v => v.category).sum) hM hZ wc wz hf hl hEL H) qa qc (g := mkF m pc Ls (argsL.reverse ++ .ref b :: st)) rfl hsz (Steps.refl _) (argsL := argsL) (rest := st) (lenOf hpd hpl) rfl (by show 2 * 0 + _ ≤ _; omega) (hb hby hd) (fun _ _ => ⟨rfl, eT, hcl, hsl⟩)
  dsimp only [Pt.U, Pt.locs, Pt.cells, Pt.slots] at X1 l1 y1 z1 st1 hQ1 S1 g1 C1
  subst l1 y1 z1
  obtain ⟨X2, S2, Z2, O2⟩ := rebS hS hk X1 S1 (by rw [← eT]; exact g1) hZ hown
  exact Go.via st1 (K _ _ _ X2 S2 Z2 O2 C1 hQ1)
theorem cSH (X : Stand p l e R (s.setVm vm0) m args below meth c T locs cells slots) (hx : p.tables.exec = Jvm.exec) (hZ : Z.Warmed39 vm0) (hby : c.code = code) (hsz : Ls.size = c.maxLocals) {own : String} {index : Nat} (hown : vm0.findClass own = some m.cls) {y : MethodName} {bytes : ByteArray} {maxL : Nat} {ret : Option FieldType} {rm : Room} {as' : Array Value} {Qc : Option Value → Heap → List Loc → Prop} (wl : (Cond.methodLink own index y).before a0 Z = true) (wst : (Cond.static y).before a0 Z = true) (wc : (Cond.code y bytes maxL ret).before a0 Z = true) (wz : (Cond.initialized y.cls).before a0 Z = true) (hy : y.cls ≠ "java/lang/invoke/MethodHandle" ∧ y.cls ≠ "java/lang/invoke/VarHandle") (hM : MetFree l y (head1 [Cond.code y bytes maxL ret] rm) (fun a U => a = as' ∧ Z.Warmed39 U.vm ∧ U.heap = h ∧ CHv Z EL U.vm h) (fun _ _ _ _ _ => True) (fun _ U o U' => ∃ v L, o = .returned v ∧ Qc v U'.heap L ∧ CHr Z EL U.vm U.heap U'.vm U'.heap ∧ ReturnedEndW U o U' L rm.cells rm.slots)) (eT : T.heap = h) (hS : s.Since vm0 k0) (hk : k0 ≤ h.size) (hEL : EW Z a0 EL) (H : CHv Z EL vm0 h) {argsL stk : List Value} {ps : List FieldType} {r : Option FieldType} (hpd : parseMethodDescriptor y.desc = some ⟨ps, r⟩) (hpl : argsL.length = ps.length) (has : as' = (argsL).toArray) (hstk : stk = argsL.reverse ++ st) {W : Nat} (hW : (st.map fun v => v.category).sum = W) (hf : rm.frames + 1 ≤ R.frames) (hl : W + (maxL + 11) + rm.locals ≤ R.locals) (hcl : cells + rm.cells ≤ R.cells) (hsl : slots + rm.slots ≤ R.slots) (hd : decode code pc = .ok (.invokestatic index, 3)) (hp : pc + 3 = pc')
    (K : ∀ T' L v, Stand p l e R (s.setVm T'.vm) m args below meth c T' (locs ++ L) (cells + rm.cells) (slots + rm.slots) → s.Since T'.vm T'.heap.size → Z.Warmed39 T'.vm → T'.vm.findClass own = some m.cls → CHr Z EL vm0 h T'.vm T'.heap → Qc v T'.heap L → Go p.tables e below G (T'.setTop (mkF m pc' Ls (v.toList ++ st)))) : Go p.tables e below G (T.setTop (mkF m pc Ls stk)) := by
  subst hp has hstk hW
  obtain ⟨_, _, ⟨T1, L1, k1, n1⟩, -, X1, S1, g1, ⟨Lc1, hQ1, l1, y1, z1, C1⟩, st1⟩ := callSS X hx (y := y) hown (mvT (s := s.setVm vm0) hZ wl) (mvT (s := s.setVm vm0) hZ wst) (mvT (s := s.setVm vm0) hZ wz) (mvT (s := s.setVm vm0) hZ wc) hy (backOfSH (W := (st.map fun v => v.category).sum) hM hZ wc wz hf hl hEL H) (g := mkF m pc Ls (argsL.reverse ++ st)) rfl hsz (argsL := argsL) (rest := st) (lenOf hpd hpl) rfl (by show 2 * 0 + _ ≤ _; omega) (hb hby hd) (fun _ _ => ⟨rfl, eT, hcl, hsl⟩)
  dsimp only [Pt.U, Pt.locs, Pt.cells, Pt.slots] at X1 l1 y1 z1 st1 hQ1 S1 g1 C1
  subst l1 y1 z1
  obtain ⟨X2, S2, Z2, O2⟩ := rebS hS hk X1 S1 (by rw [← eT]; exact g1) hZ hown
  exact Go.via st1 (K _ _ _ X2 S2 Z2 O2 C1 hQ1)
theorem cNH (X : Stand p l e R (s.setVm vm0) m args below meth c T locs cells slots) (hx : p.tables.exec = Jvm.exec) (hZ : Z.Warmed39 vm0) (hby : c.code = code) (hsz : Ls.size = c.maxLocals) {own : String} {index : Nat} (hown : vm0.findClass own = some m.cls) {y : MethodName} {bytes : ByteArray} {maxL : Nat} {ret : Option FieldType} {rm : Room} {as' : Array Value} {Qc : Option Value → Heap → List Loc → Prop} (hyi : y.name = "<init>") (hrn : ret = none) (wl : (Cond.methodLink own index y).before a0 Z = true) (wi : (Cond.instanceMethod y).before a0 Z = true) (wc : (Cond.code y bytes maxL ret).before a0 Z = true) (wz : (Cond.initialized y.cls).before a0 Z = true) (hy : y.cls ≠ "java/lang/invoke/MethodHandle" ∧ y.cls ≠ "java/lang/invoke/VarHandle") (hM : MetFree l y (head1 [Cond.code y bytes maxL ret] rm) (fun a U => a = as' ∧ Z.Warmed39 U.vm ∧ U.heap = h ∧ CHv Z EL U.vm h) (fun _ _ _ _ _ => True) (fun _ U o U' => ∃ v L, o = .returned v ∧ Qc v U'.heap L ∧ CHr Z EL U.vm U.heap U'.vm U'.heap ∧ ReturnedEndW U o U' L rm.cells rm.slots)) {b : Addr} (eT : T.heap = h) (hS : s.Since vm0 k0) (hk : k0 ≤ h.size) (hEL : EW Z a0 EL) (H : CHv Z EL vm0 h) {argsL stk : List Value} {ps : List FieldType} {r : Option FieldType} (hpd : parseMethodDescriptor y.desc = some ⟨ps, r⟩) (hpl : argsL.length = ps.length) (has : as' = (Value.ref b :: argsL).toArray) (hstk : stk = argsL.reverse ++ .ref b :: st) {W : Nat} (hW : (st.map fun v => v.category).sum = W) (hf : rm.frames + 1 ≤ R.frames) (hl : W + (maxL + 11) + rm.locals ≤ R.locals) (hcl : cells + rm.cells ≤ R.cells) (hsl : slots + rm.slots ≤ R.slots) (hd : decode code pc = .ok (.invokespecial index, 3)) (hp : pc + 3 = pc')
    (K : ∀ T' L v, Stand p l e R (s.setVm T'.vm) m args below meth c T' (locs ++ L) (cells + rm.cells) (slots + rm.slots) → s.Since T'.vm T'.heap.size → Z.Warmed39 T'.vm → T'.vm.findClass own = some m.cls → CHr Z EL vm0 h T'.vm T'.heap → Qc v T'.heap L → Go p.tables e below G (T'.setTop (mkF m pc' Ls (v.toList ++ st)))) : Go p.tables e below G (T.setTop (mkF m pc Ls stk)) := by
  subst hp has hstk hW hrn
  obtain ⟨_, _, ⟨T1, L1, k1, n1⟩, -, X1, S1, g1, ⟨Lc1, hQ1, l1, y1, z1, C1⟩, st1⟩ := X.specialBackS hx (y := y) hyi hown (mvT (s := s.setVm vm0) hZ wl) (mvT (s := s.setVm vm0) hZ wi) (mvT (s := s.setVm vm0) hZ wc) hy (backOfSH (W := (st.map fun v => v.category).sum) hM hZ wc wz hf hl hEL H) (g := mkF m pc Ls (argsL.reverse ++ .ref b :: st)) rfl hsz (Steps.refl _) (a := b) (argsL := argsL) (rest := st) (lenOf hpd hpl) rfl (by show 2 * 0 + _ ≤ _; omega) (hb hby hd) (fun _ _ => ⟨rfl, eT, hcl, hsl⟩)
  dsimp only [Pt.U, Pt.locs, Pt.cells, Pt.slots] at X1 l1 y1 z1 st1 hQ1 S1 g1 C1
  subst l1 y1 z1
  obtain ⟨X2, S2, Z2, O2⟩ := rebS hS hk X1 S1 (by rw [← eT]; exact g1) hZ hown
  exact Go.via st1 (K _ _ _ X2 S2 Z2 O2 C1 hQ1)
theorem Safe.null {x : Addr} {vm : Vm} (hal : Z.vm.Alike vm) (E : Exa Z h x "java/lang/String") (F : Fld Z h x "java/lang/String" "value" "[B" .null) : Safe Z EL vm h x := fun B => by
  obtain ⟨cell, k, e1, e2, e3, -, -⟩ := E
  have nm : ∀ {n : String} {c : ClassId}, vm.findClass n = some c → c = cell.cls → n = "java/lang/String" := fun {n c} f e => by
    subst e
    rw [hal.findClass] at f
    obtain ⟨k1, q1, q2⟩ := Vm.findClass_spec f
    obtain ⟨k2, q3, q4⟩ := Vm.findClass_spec e2
    cases q1.symm.trans q3
    exact q2.symm.trans q4
  obtain ⟨p, -, u, a, -, q, -, G, rfl | rfl⟩ := B
  · obtain ⟨cell', cf, k', i, f, h1, h2, -, -, -, -, h7⟩ := F
    obtain ⟨cS, ⟨⟨g1, -, -, ⟨c1, k1, i1, f1, -⟩, -, -, -, v1, -⟩, -⟩, -⟩ := G
    cases (show h[q.sa]? = some q.sC from g1).symm.trans h1
    obtain ⟨k3, e3', -⟩ := State.fieldFound?_setVm (s := ({ Z with heap := h } : State)) hal (show ({ Z with heap := h } : State).fieldFound? "java/lang/String" "value" "[B" = _ from h2)
    have e4 := (show (Wst Z vm h).fieldFound? _ _ _ = _ from e3').symm.trans f1
    simp only [Option.some.injEq, Prod.mk.injEq] at e4
    rw [← e4.2.2.2, h7] at v1
    cases v1
  · cases (show h[q.sd]? = some q.SA from G.hd).symm.trans e1
    obtain ⟨cS, -, -, f, -⟩ := G
    exact absurd (nm f rfl) (by decide)
end H
end Jvm.OG
namespace Jvm.OG
open Sem ClassFile Op Lib Bundle Jvm.Stand Jvm.Free Jvm.LawKit Jvm.RoadKit
section BAs
variable {p : Program} {l : Launch} {e : Env} {R : Room} {s : State} {m : MethodId} {args : Array Value} {below : List Frame} {meth : Method} {c : Code} {T : State} {locs : List Loc} {cells slots : Nat} {G : Outcome → State → Option Value → List Loc → Prop} {code : ByteArray} {pc pc' : Nat} {Ls Ls' : Array Slot} {st : List Value} {Z : State} {a0 : Array Value} {h h' : Heap} {a b t : Addr} {bs cs : List Int32} {sl : Nat} {v : Value} {ws : List Addr}
theorem ofN_nn {n : Nat} (h : n < 2147483648) : ¬ (Int32.ofNat n) < 0 := by
  rw [Int32.lt_iff_toInt_lt, Int32.toInt_ofNat_of_lt h]
  show ¬ (n : Int) < 0
  omega
theorem ofN_nat {n : Nat} (h : n < 2147483648) : (Int32.ofNat n).toNatClampNeg = n := by
  simp only [Int32.toNatClampNeg, Int32.toInt_ofNat_of_lt h]
  rfl
theorem ofN_lt {i n : Nat} (hi : i < n) (h : n < 2147483648) : Int32.ofNat i < Int32.ofNat n := by
  rw [Int32.lt_iff_toInt_lt, Int32.toInt_ofNat_of_lt h, Int32.toInt_ofNat_of_lt (Nat.lt_trans hi h)]
  omega
theorem shr0 (x : Int32) : x >>> ((0 : Int32) &&& 31) = x := by
  have e : ((0 : Int32) &&& 31) = 0 := by decide
  rw [e]; simp
theorem shl0 (x : Int32) : x <<< ((0 : Int32) &&& 31) = x := by
  have e : ((0 : Int32) &&& 31) = 0 := by decide
  rw [e]; simp
theorem addN (a b : Nat) : Int32.ofNat a + Int32.ofNat b = Int32.ofNat (a + b) := (Int32.ofNat_add a b).symm
theorem sub0 (x : Int32) : x - (0 : Int32) = x := by simp
theorem sub_pos {a b : Nat} (ha : a < 2147483648) (hb : b < 2147483648) : (0 : Int32) < Int32.ofNat a - Int32.ofNat b ↔ b < a := by
  rw [Int32.lt_iff_toInt_lt, Jvm.Kit.i32_sub (by rw [Int32.toInt_ofNat_of_lt ha, Int32.toInt_ofNat_of_lt hb]; omega) (by rw [Int32.toInt_ofNat_of_lt ha, Int32.toInt_ofNat_of_lt hb]; omega), Int32.toInt_ofNat_of_lt ha, Int32.toInt_ofNat_of_lt hb]
  show (0 : Int) < _ ↔ _
  omega
theorem ofN_inj {a b : Nat} (ha : a < 2147483648) (hb : b < 2147483648) : Int32.ofNat a = Int32.ofNat b ↔ a = b := by
  constructor
  · intro q
    have := congrArg Int32.toInt q
    rw [Int32.toInt_ofNat_of_lt ha, Int32.toInt_ofNat_of_lt hb] at this
    omega
  · intro q
    rw [q]
theorem ofN_ltiff {a b : Nat} (ha : a < 2147483648) (hb : b < 2147483648) : Int32.ofNat a < Int32.ofNat b ↔ a < b := by
  rw [Int32.lt_iff_toInt_lt, Int32.toInt_ofNat_of_lt ha, Int32.toInt_ofNat_of_lt hb]
  omega
/-- a byte[] whose bytes are the list bs -/
def BA (Z : State) (h : Heap) (t : Addr) (bs : List Int32) : Prop := bs.length < 2147483648 ∧ ∃ k, Arv Z h t k .byte (Int32.ofNat bs.length) (bs.map Value.int) (.int 0)
theorem BA.lt (F : BA Z h t bs) : t < h.size := by obtain ⟨-, k, A⟩ := F; exact A.lt
theorem BA.ext (F : BA Z h t bs) (E : Ext h h') : BA Z h' t bs := by obtain ⟨q, k, A⟩ := F; exact ⟨q, k, A.ext E⟩
theorem BA.other (F : BA Z h t bs) (W : Wr h h' a sl v) (q : t ≠ a) : BA Z h' t bs := by obtain ⟨r, k, A⟩ := F; exact ⟨r, k, A.other W q⟩
theorem BA.keep (F : BA Z h t bs) (K : Keep h h' ws) (q : t ∉ ws) : BA Z h' t bs := by obtain ⟨r, k, A⟩ := F; exact ⟨r, k, A.keep K q⟩
theorem BA.of {k : ClassId} {z : Int32} {vs : List Value} (F : Arv Z h t k .byte z vs (.int 0)) (hb : bs.map Value.int = vs) (hz : Int32.ofNat bs.length = z) (hl : bs.length < 2147483648) : BA Z h t bs := by subst hb hz; exact ⟨hl, k, F⟩
theorem Ins.keep {x : Addr} {C : String} {q : Bool} (F : Jvm.RoadKit.Ins Z h x C q) (K : Keep h h' ws) : Jvm.RoadKit.Ins Z h' x C q := by
  obtain ⟨cell, cT, h1, h2, h3⟩ := F
  obtain ⟨c', q1, r1, r2, -⟩ := K.2.2 x cell h1
  exact ⟨c', cT, q1, h2, by rw [r1, r2]; exact h3⟩
theorem BA.neE {x : Addr} {C : String} {n : Nat} (F : BA Z h t bs) (E : Exa Z h x C) (w : (Cond.instantiable C n).before a0 Z = true) : x ≠ t := by
  obtain ⟨-, k, A⟩ := F
  exact Exa.neArv E A w
theorem cat_ref {v : Value} (h : v.isRef = true) : v.category = 1 := by
  rcases ref_cases h with rfl | ⟨a, rfl⟩ <;> rfl
theorem i2c_id {y : Int32} (h1 : 0 ≤ y.toInt) (h2 : y.toInt < 65536) : y.toUInt32.toUInt16.toUInt32.toInt32 = y := by
  have e1 : (y.toUInt32.toNat : Int) = y.toInt := by
    have h : y.toInt = y.toBitVec.toInt := rfl
    have h3 : y.toUInt32.toNat = y.toBitVec.toNat := rfl
    rw [h, h3]
    rw [h] at h1 h2
    rw [BitVec.toInt_eq_toNat_cond] at h1 h2 ⊢
    split at h1 <;> split <;> omega
  have e2 : y.toUInt32.toUInt16.toUInt32.toNat = y.toUInt32.toNat := by
    simp only [UInt16.toNat_toUInt32, UInt32.toNat_toUInt16]
    omega
  have e3 : y.toUInt32.toUInt16.toUInt32 = y.toUInt32 := UInt32.toNat_inj.mp e2
  rw [e3]
  rfl
theorem and255 (x : Int32) : 0 ≤ (x &&& 255).toInt ∧ (x &&& 255).toInt < 256 := by
  have e : (x &&& 255).toInt = x.toInt % 2 ^ 8 := Jvm.Kit.i32_mask x 255 (k := 8) (by decide) (by decide)
  omega
theorem chr_eq (x : Int32) : nar .char (x &&& 255).toUInt32.toUInt16.toUInt32.toInt32 = x &&& 255 := by
  have h := and255 x
  show (x &&& 255).toUInt32.toUInt16.toUInt32.toInt32.toUInt32.toUInt16.toUInt32.toInt32 = _
  rw [i2c_id h.1 (by omega), i2c_id h.1 (by omega)]
/-- a private method's own class selects it -/
theorem selfSel {C : String} {y : MethodName} (ws : (Cond.selects C y y).before a0 Z = true) (wi : (Cond.instanceMethod y).before a0 Z = true) (wp : (Cond.privateMethod y).before a0 Z = true) (hy : y.cls ≠ "java/lang/invoke/MethodHandle" ∧ y.cls ≠ "java/lang/invoke/VarHandle") : (Cond.selects y.cls y y).before a0 Z = true := by
  obtain ⟨c2, r2, m2, q1, q2, q3, q4, kP, hkP, hkPi⟩ := Cond.selects_spec ws
  exact Jvm.Stand.selects_self_of_private (findClass_of_methodNamed q3) hkP hkPi (Cond.privateMethod_at wp) wi hy
theorem sameSelf {C : String} {y x z : MethodName} (ws : (Cond.selects C x z).before a0 Z = true) (hz : z.cls = y.cls) (wi : (Cond.instanceMethod y).before a0 Z = true) (hy : y.cls ≠ "java/lang/invoke/MethodHandle" ∧ y.cls ≠ "java/lang/invoke/VarHandle") : (Cond.sameMethod y.cls y.cls y.name y.desc).before a0 Z = true := by
  obtain ⟨c2, r2, m2, q1, q2, q3, q4, kP, hkP, hkPi⟩ := Cond.selects_spec ws
  obtain ⟨mk, methM, hnamed, hmethM, -, -⟩ := Cond.instanceMethod_spec wi
  have f1 := findClass_of_methodNamed q3
  have f2 := findClass_of_methodNamed hnamed
  rw [hz] at f1
  have e : m2.cls = mk.cls := Option.some.inj (f1.symm.trans f2)
  rw [e] at hkP
  have hfound := State.methodFound?_of_named hnamed hy
  have hn' : Z.methodNamed? ⟨y.cls, y.name, y.desc⟩ = some mk := hnamed
  simp [Cond.before, Cond.holds, Cond.value, f2, hfound, hn', hkP, hkPi]
theorem nfSel {C : String} {y x z : MethodName} {s' : State} {args' : Array Value} (ws : (Cond.selects C x z).before args' s' = true) (hz : z.cls = y.cls) : NotFace s' y := fun r0 h0 => by
  obtain ⟨c2, r2, m2, q1, q2, q3, q4, kP, hkP, hkPi⟩ := Cond.selects_spec ws
  have f1 := findClass_of_methodNamed q3
  rw [hz] at f1
  have e : m2.cls = r0.cls := Option.some.inj (f1.symm.trans (findClass_of_methodNamed h0))
  exact ⟨kP, by rw [← e]; exact hkP, hkPi⟩
theorem getD_map (bs : List Int32) (i : Nat) : (bs.map Value.int).getD i (.int 0) = .int (bs.getD i 0) := by
  simp only [List.getD_eq_getElem?_getD, List.getElem?_map]
  cases bs[i]? <;> rfl
theorem yL (X : Stand p l e R s m args below meth c T locs cells slots) (hx : p.tables.exec = Jvm.exec) (hZ : Z.Warmed39 s.vm) (hby : c.code = code) (eT : T.heap = h) (A : BA Z h a bs) (hd : decode code pc = .ok (.arraylength, 1)) (hp : pc + 1 = pc')
    (K : Go p.tables e below G (T.setTop (mkF m pc' Ls (.int (Int32.ofNat bs.length) :: st)))) : Go p.tables e below G (T.setTop (mkF m pc Ls (.ref a :: st))) := by
  obtain ⟨-, k, A⟩ := A
  exact aL X hx hZ hby eT A hd hp K
theorem yG (X : Stand p l e R s m args below meth c T locs cells slots) (hx : p.tables.exec = Jvm.exec) (hZ : Z.Warmed39 s.vm) (hby : c.code = code) (eT : T.heap = h) (A : BA Z h a bs) {j : Int32} {i : Nat} {v : Int32} (hj : j = Int32.ofNat i) (hi : i < bs.length) (hv : bs.getD i 0 = v) (hd : decode code pc = .ok (.baload, 1)) (hp : pc + 1 = pc')
    (K : Go p.tables e below G (T.setTop (mkF m pc' Ls (.int v :: st)))) : Go p.tables e below G (T.setTop (mkF m pc Ls (.int j :: .ref a :: st))) := by
  obtain ⟨q, k, A⟩ := A
  subst hj hv
  have hi' : i < 2147483648 := Nat.lt_trans hi q
  exact lB X hx hZ hby eT A ⟨ofN_nn hi', ofN_lt hi q⟩ (by rw [ofN_nat hi']; exact getD_map bs i) hd hp K
theorem yS (X : Stand p l e R s m args below meth c T locs cells slots) (hx : p.tables.exec = Jvm.exec) (hZ : Z.Warmed39 s.vm) (hby : c.code = code) (eT : T.heap = h) (A : BA Z h a bs) {j x : Int32} {i : Nat} (hj : j = Int32.ofNat i) (hi : i < bs.length) (hd : decode code pc = .ok (.bastore, 1)) (hp : pc + 1 = pc')
    (K : ∀ T' h', Stand p l e R s m args below meth c T' (locs ++ [⟨a, j.toNatClampNeg⟩]) cells slots → T'.heap = h' → Wr h h' a j.toNatClampNeg (.int (nar .byte x)) → BA Z h' a (bs.set i (nar .byte x)) → Go p.tables e below G (T'.setTop (mkF m pc' Ls st))) : Go p.tables e below G (T.setTop (mkF m pc Ls (.int x :: .int j :: .ref a :: st))) := by
  obtain ⟨q, k, A⟩ := A
  subst hj
  have hi' : i < 2147483648 := Nat.lt_trans hi q
  refine sB X hx hZ hby eT A i ⟨ofN_nn hi', ofN_lt hi q⟩ (ofN_nat hi') (by rw [List.length_map]; exact hi) hd hp fun T' h' X' e' W' A' => K T' h' X' e' W' ⟨by rw [List.length_set]; exact q, k, ?_⟩
  rw [List.length_set, List.map_set]
  exact A'
theorem yN (X : Stand p l e R s m args below meth c T locs cells slots) (hx : p.tables.exec = Jvm.exec) (hZ : Z.Warmed39 s.vm) (hby : c.code = code) (w : (Cond.arrayClass .byte).before a0 Z = true) (eT : T.heap = h) {n : Int32} {N cap : Nat} (hn : n = Int32.ofNat N) (hN : N ≤ cap) (hb' : cap * 8 ≤ 536870912) (hc : cells + 1 ≤ R.cells) (hl : slots + cap ≤ R.slots) (hd : decode code pc = .ok (.newarray .byte, 2)) (hp : pc + 2 = pc')
    (K : ∀ T' h' b, b = h.size → Stand p l e R s m args below meth c T' locs (cells + 1) (slots + cap) → T'.heap = h' → Ext h h' → BA Z h' b (List.replicate N 0) → Exa Z h' b "[B" → Go p.tables e below G (T'.setTop (mkF m pc' Ls (.ref b :: st)))) : Go p.tables e below G (T.setTop (mkF m pc Ls (.int n :: st))) := by
  subst hp hn
  have q : N < 2147483648 := by omega
  obtain ⟨T', h', cA, X', e', E', A', Ex', st'⟩ := newPE X hx hZ (aty := .byte) w eT (g := mkF m pc Ls (.int (Int32.ofNat N) :: st)) rfl (hb hby hd) rfl (ofN_nn q) (cap := cap) (by rw [ofN_nat q]; exact hN) hb' hc hl (ad := "[B") (by decide)
  refine Go.step st' (K T' h' _ rfl X' e' E' ⟨by rw [List.length_replicate]; exact q, cA, ?_⟩ Ex')
  rw [List.length_replicate]
  have V := (Arv.new A' (ofN_nn q)).pad (vs' := (List.replicate N (0 : Int32)).map Value.int) (fun i => by
    show (List.map Value.int (List.replicate N 0)).getD i (.int 0) = .int 0
    rw [getD_map]
    congr 1
    simp only [List.getD_eq_getElem?_getD, List.getElem?_replicate]
    split <;> rfl)
  exact V
theorem range_take (bs : List Int32) (sp nn : Nat) (h : sp + nn ≤ bs.length) : (List.range nn).map (fun i => (bs.map Value.int).getD (sp + i) (.int 0)) = ((bs.drop sp).take nn).map Value.int := by
  apply List.ext_getElem?
  intro i
  simp only [List.getElem?_map, List.getElem?_take, List.getElem?_drop, List.getElem?_range]
  by_cases q : i < nn
  · have : sp + i < bs.length := by omega
    simp [q, getD_map, List.getD_eq_getElem?_getD, this]
  · have : ¬ i < (List.range nn).length := by simpa using q
    simp [q]
theorem yC (X : Stand p l e R s m args below meth c T locs cells slots) (hx : p.tables.exec = Jvm.exec) (hZ : Z.Warmed39 s.vm) (hby : c.code = code) {own : String} {index : Nat} (hown : s.vm.findClass own = some m.cls) (hsz : Ls.size = c.maxLocals) (w1 : (Cond.methodLink own index Jvm.Stand.acN).before a0 Z = true) (w2 : (Cond.native Jvm.Stand.acN).before a0 Z = true) (w3 : (Cond.static Jvm.Stand.acN).before a0 Z = true) (w4 : (Cond.initialized "java/lang/System").before a0 Z = true) (eT : T.heap = h) (A : BA Z h a bs) (B : BA Z h b cs) {sp dp nn : Int32} {sn dn kn : Nat} (e1 : sp = Int32.ofNat sn) (e2 : dp = Int32.ofNat dn) (e3 : nn = Int32.ofNat kn) (l1 : sn + kn ≤ bs.length) (l2 : dn + kn ≤ cs.length) {n0 : Nat} (N : Fr n0 locs) (ge : n0 ≤ b) {W : Nat} (hW : (st.map fun v => v.category).sum = W) (hf : 1 ≤ R.frames) (hl : W + 18 ≤ R.locals) (hd : decode code pc = .ok (.invokestatic index, 3)) (hp : pc + 3 = pc')
    (K : ∀ T' h' L, Stand p l e R s m args below meth c T' L cells slots → T'.heap = h' → Fr n0 L → Keep h h' [b] → BA Z h' b (cs.take dn ++ (bs.drop sn).take kn ++ cs.drop (dn + kn)) → Go p.tables e below G (T'.setTop (mkF m pc' Ls st))) : Go p.tables e below G (T.setTop (mkF m pc Ls (.int nn :: .int dp :: .ref b :: .int sp :: .ref a :: st))) := by
  subst hp hW e1 e2 e3
  obtain ⟨qa, ka, A⟩ := A
  obtain ⟨qb, kb, B⟩ := B
  have n1 : (Int32.ofNat sn).toNatClampNeg = sn := ofN_nat (by omega)
  have n2 : (Int32.ofNat dn).toNatClampNeg = dn := ofN_nat (by omega)
  have n3 : (Int32.ofNat kn).toNatClampNeg = kn := ofN_nat (by omega)
  have n4 : (Int32.ofNat bs.length).toNatClampNeg = bs.length := ofN_nat qa
  have n5 : (Int32.ofNat cs.length).toNatClampNeg = cs.length := ofN_nat qb
  obtain ⟨T', h', L, X', e', N', K', V', st'⟩ := cpA X hx hZ hown w1 w2 w3 w4 eT A B (Or.inl ⟨rfl, rfl⟩) (ofN_nn (by omega)) (ofN_nn (by omega)) (ofN_nn (by omega)) (by rw [n1, n3, n4]; exact l1) (by rw [n2, n3, n5]; exact l2) (us := ((bs.drop sn).take kn).map Value.int) (by rw [n1, n3]; exact (range_take bs sn kn l1).symm) (by rw [n2, n3, List.length_map]; exact l2) N ge (g := mkF m pc Ls (.int (Int32.ofNat kn) :: .int (Int32.ofNat dn) :: .ref b :: .int (Int32.ofNat sn) :: .ref a :: st)) rfl hsz rfl (hb hby hd) hf (W := (st.map fun v => v.category).sum) (by show 2 * 0 + _ ≤ _; omega) hl
  have hlen : (cs.take dn ++ (bs.drop sn).take kn ++ cs.drop (dn + kn)).length = cs.length := by
    simp only [List.length_append, List.length_take, List.length_drop]; omega
  refine Go.step st' (K T' h' L X' e' N' K' ⟨by rw [hlen]; exact qb, kb, ?_⟩)
  rw [n2, n3] at V'
  rw [hlen]
  simpa only [List.map_append, List.map_take, List.map_drop] using V'
theorem yK (X : Stand p l e R s m args below meth c T locs cells slots) (hx : p.tables.exec = Jvm.exec) (hZ : Z.Warmed39 s.vm) (hby : c.code = code) {own : String} {index : Nat} (hown : s.vm.findClass own = some m.cls) (hsz : Ls.size = c.maxLocals) (w1 : (Cond.methodLink own index ⟨"[B", "clone", "()Ljava/lang/Object;"⟩).before a0 Z = true) (w2 : (Cond.sameMethod "[B" "java/lang/Object" "clone" "()Ljava/lang/Object;").before a0 Z = true) (w3 : (Cond.native ⟨"java/lang/Object", "clone", "()Ljava/lang/Object;"⟩).before a0 Z = true) (w4 : (Cond.instanceMethod ⟨"java/lang/Object", "clone", "()Ljava/lang/Object;"⟩).before a0 Z = true) (w5 : (Cond.selects "[B" ⟨"[B", "clone", "()Ljava/lang/Object;"⟩ ⟨"java/lang/Object", "clone", "()Ljava/lang/Object;"⟩).before a0 Z = true) (w6 : (Cond.castable "[B" "java/lang/Cloneable").before a0 Z = true) (eT : T.heap = h) (A : BA Z h a bs) (E : Exa Z h a "[B") {W cap : Nat} (hW : (st.map fun v => v.category).sum = W) (hf : 1 ≤ R.frames) (hl : W + 14 ≤ R.locals) (hcap : bs.length ≤ cap) (hc : cells + 1 ≤ R.cells) (hsl : slots + cap ≤ R.slots) (hd : decode code pc = .ok (.invokevirtual index, 3)) (hp : pc + 3 = pc')
    (K : ∀ T' h' b, b = h.size → Stand p l e R s m args below meth c T' locs (cells + 1) (slots + cap) → T'.heap = h' → Ext h h' → BA Z h' b bs → Exa Z h' b "[B" → Go p.tables e below G (T'.setTop (mkF m pc' Ls (.ref b :: st)))) : Go p.tables e below G (T.setTop (mkF m pc Ls (.ref a :: st))) := by
  subst hp hW
  obtain ⟨q, k, A⟩ := A
  obtain ⟨T', h', X', e', E', A', Ex', st'⟩ := cloneH X hx hZ hown w1 w2 w3 w4 w5 w6 eT A.arh E (g := mkF m pc Ls (.ref a :: st)) rfl hsz rfl (hb hby hd) hf (W := (st.map fun v => v.category).sum) (cap := cap) (by show 2 * 0 + _ ≤ _; omega) hl (by rw [ofN_nat q]; exact hcap) hc hsl
  exact Go.step st' (K T' h' _ rfl X' e' E' ⟨q, k, A'⟩ Ex')
theorem gFR (X : Stand p l e R s m args below meth c T locs cells slots) (hx : p.tables.exec = Jvm.exec) (hZ : Z.Warmed39 s.vm) (hby : c.code = code) {own R0 O n d : String} {index : Nat} (hown : s.vm.findClass own = some m.cls) (w : (Cond.fieldRef own index R0 n d).before a0 Z = true) (via : Via Z R0 O n d) (eT : T.heap = h) {a : Addr} {v : Value} (F : Fld Z h a O n d v) (hd : decode code pc = .ok (.getfield index, 3)) (hp : pc + 3 = pc')
    (K : ∀ T', Stand p l e R s m args below meth c T' locs cells slots → T'.heap = h → Go p.tables e below G (T'.setTop (mkF m pc' Ls (v :: st)))) : Go p.tables e below G (T.setTop (mkF m pc Ls (.ref a :: st))) := by
  subst hp
  have hW : Z.Warmed39 T.vm := State.Warmed39.trans hZ X.warmed.wide
  obtain ⟨cell, cf, k, i, f, h1, h2, h3, h4, -, -, h7⟩ := F
  obtain ⟨k', hi, -⟩ := State.fieldFound?_setVm (s := Z) hW.alike (via _ h2)
  have ho : T.vm.findClass own = some m.cls := by rw [X.warmed.alike.findClass]; exact hown
  obtain ⟨c1, k1, i1, f1, e1, hr⟩ := Cond.fieldRef_spec (s := Z.setVm T.vm) ho (Cond.fieldRef_warmed39 hW w)
  cases hi.symm.trans e1
  refine Go.step (fun target hrest => ?_) (K T X eT)
  have hd' : decode c.code pc = .ok (.getfield index, 3) := hb hby hd
  jvm_step X.here [hx, hd', getfield.wp_ready (e := e) (s := T) (f := mkF m pc Ls (.ref a :: st)) X.here.top hr h3 rfl (show T.heap[a]? = some cell by rw [eT]; exact h1) h4 h7]
  exact hrest
end BAs
end Jvm.OG
namespace Jvm.Pilot.@@N@@
open Jvm Jvm.ClassFile Sem Op Lib Jvm.Free Jvm.Stand Jvm.LawKit Jvm.RoadKit Bundle Jvm.Pilot.@@N@@.Jvm.D
theorem own_pd_0 : parseMethodDescriptor "()B" = some ⟨[], some .byte⟩ := by decide +kernel
theorem own_pd_1 : parseMethodDescriptor "(IILjava/util/function/BiFunction;)I" = some ⟨[.int, .int, (.object "java/util/function/BiFunction")], some .int⟩ := by decide +kernel
theorem own_pd_2 : parseMethodDescriptor "(II)V" = some ⟨[.int, .int], none⟩ := by decide +kernel
theorem own_pd_3 : parseMethodDescriptor "()Z" = some ⟨[], some .boolean⟩ := by decide +kernel
theorem own_pd_4 : parseMethodDescriptor "([BI)C" = some ⟨[(.array .byte), .int], some .char⟩ := by decide +kernel
theorem own_pd_5 : parseMethodDescriptor "(I)V" = some ⟨[.int], none⟩ := by decide +kernel
theorem own_pd_6 : parseMethodDescriptor "(Ljava/lang/String;)V" = some ⟨[(.object "java/lang/String")], none⟩ := by decide +kernel
theorem own_pd_7 : parseMethodDescriptor "([BIB)V" = some ⟨[(.array .byte), .int, .byte], none⟩ := by decide +kernel
theorem own_pd_8 : parseMethodDescriptor "()I" = some ⟨[], some .int⟩ := by decide +kernel
theorem own_pd_9 : parseMethodDescriptor "(ILjava/lang/String;)V" = some ⟨[.int, (.object "java/lang/String")], none⟩ := by decide +kernel
theorem own_pd_10 : parseMethodDescriptor "(Ljava/lang/String;)Ljava/lang/AbstractStringBuilder;" = some ⟨[(.object "java/lang/String")], some (.object "java/lang/AbstractStringBuilder")⟩ := by decide +kernel
theorem own_pd_11 : parseMethodDescriptor "(II)I" = some ⟨[.int, .int], some .int⟩ := by decide +kernel
theorem own_pd_12 : parseMethodDescriptor "([BII)[B" = some ⟨[(.array .byte), .int, .int], some (.array .byte)⟩ := by decide +kernel
theorem own_pd_13 : parseMethodDescriptor "()[B" = some ⟨[], some (.array .byte)⟩ := by decide +kernel
theorem own_pd_14 : parseMethodDescriptor "(Ljava/lang/AbstractStringBuilder;Ljava/lang/Void;)V" = some ⟨[(.object "java/lang/AbstractStringBuilder"), (.object "java/lang/Void")], none⟩ := by decide +kernel
theorem own_pd_15 : parseMethodDescriptor "(Ljava/lang/StringBuilder;)V" = some ⟨[(.object "java/lang/StringBuilder")], none⟩ := by decide +kernel
theorem own_pd_16 : parseMethodDescriptor "([CIILjava/lang/Void;)V" = some ⟨[(.array .char), .int, .int, (.object "java/lang/Void")], none⟩ := by decide +kernel
theorem own_pd_17 : parseMethodDescriptor "([CI[BII)I" = some ⟨[(.array .char), .int, (.array .byte), .int, .int], some .int⟩ := by decide +kernel
theorem own_pd_18 : parseMethodDescriptor "([CII)[B" = some ⟨[(.array .char), .int, .int], some (.array .byte)⟩ := by decide +kernel
theorem own_pd_19 : parseMethodDescriptor "([BI)B" = some ⟨[(.array .byte), .int], some .byte⟩ := by decide +kernel
theorem own_pd_20 : parseMethodDescriptor "(C)Z" = some ⟨[.char], some .boolean⟩ := by decide +kernel
theorem own_pd_21 : parseMethodDescriptor "(C)[B" = some ⟨[.char], some (.array .byte)⟩ := by decide +kernel
theorem own_pd_22 : parseMethodDescriptor "([BB)V" = some ⟨[(.array .byte), .byte], none⟩ := by decide +kernel
theorem own_pd_23 : parseMethodDescriptor "([C)V" = some ⟨[(.array .char)], none⟩ := by decide +kernel
theorem own_pd_24 : parseMethodDescriptor "(C)Ljava/lang/String;" = some ⟨[.char], some (.object "java/lang/String")⟩ := by decide +kernel
theorem own_pd_25 : parseMethodDescriptor "()V" = some ⟨[], none⟩ := by decide +kernel
theorem own_pd_26 : parseMethodDescriptor "(Ljava/util/Map;)Ljava/util/Map;" = some ⟨[(.object "java/util/Map")], some (.object "java/util/Map")⟩ := by decide +kernel
theorem own_pd_27 : parseMethodDescriptor "(Ljava/lang/String;)Ljava/lang/StringBuilder;" = some ⟨[(.object "java/lang/String")], some (.object "java/lang/StringBuilder")⟩ := by decide +kernel
theorem own_pd_28 : parseMethodDescriptor "()Ljava/lang/String;" = some ⟨[], some (.object "java/lang/String")⟩ := by decide +kernel
theorem own_pd_29 : parseMethodDescriptor "(I)C" = some ⟨[.int], some .char⟩ := by decide +kernel
theorem own_pd_30 : parseMethodDescriptor "(II)Ljava/lang/String;" = some ⟨[.int, .int], some (.object "java/lang/String")⟩ := by decide +kernel
theorem own_pd_31 : parseMethodDescriptor "(I)Ljava/lang/Integer;" = some ⟨[.int], some (.object "java/lang/Integer")⟩ := by decide +kernel
theorem own_pd_32 : parseMethodDescriptor "()Ljava/util/Map;" = some ⟨[], some (.object "java/util/Map")⟩ := by decide +kernel
theorem own_pd_33 : parseMethodDescriptor "(Ljava/lang/String;Ljava/lang/String;Ljava/lang/String;Ljava/lang/String;Ljava/lang/String;ILjava/lang/Object;Ljava/util/Map;Ljava/lang/String;)V" = some ⟨[(.object "java/lang/String"), (.object "java/lang/String"), (.object "java/lang/String"), (.object "java/lang/String"), (.object "java/lang/String"), .int, (.object "java/lang/Object"), (.object "java/util/Map"), (.object "java/lang/String")], none⟩ := by decide +kernel
theorem own_pd_34 : parseMethodDescriptor "(Ljava/lang/String;Ljava/lang/String;Ljava/lang/String;I)Z" = some ⟨[(.object "java/lang/String"), (.object "java/lang/String"), (.object "java/lang/String"), .int], some .boolean⟩ := by decide +kernel
def own_EL : List (String × Nat) := [("java/lang/String", 7), ("com/example/scrutineer/scrutineer/ValidationFailure", 72)]
theorem own_hEL {Z : State} {a0 : Array Value} (hw : ∀ d ∈ tables_1, d.before a0 Z = true) : EW Z a0 own_EL := (EW.cons (hw _ (List.mem_of_getElem? (i := 38) rfl)) (by decide) (EW.cons (hw _ (List.mem_of_getElem? (i := 154) rfl)) (by decide) EW.nil))
theorem own_wS {Z : State} {a0 : Array Value} (hw : ∀ d ∈ tables_1, d.before a0 Z = true) : ∀ a ∈ Bundle.stringAtoms, a.before a0 Z = true := by
  intro a ha
  simp only [Bundle.stringAtoms, List.mem_cons, List.not_mem_nil, or_false] at ha
  rcases ha with rfl | rfl | rfl | rfl | rfl | rfl | rfl
  · exact hw _ (List.mem_of_getElem? (i := 6) rfl)
  · exact hw _ (List.mem_of_getElem? (i := 14) rfl)
  · exact hw _ (List.mem_of_getElem? (i := 18) rfl)
  · exact hw _ (List.mem_of_getElem? (i := 27) rfl)
  · exact hw _ (List.mem_of_getElem? (i := 29) rfl)
  · exact hw _ (List.mem_of_getElem? (i := 39) rfl)
  · exact hw _ (List.mem_of_getElem? (i := 40) rfl)
theorem own_isRef {args : Array Value} {s : State} {t : Term} (h : (Jvm.Cond.isRef t).value args s none s [] = some true) : ∃ v, t.eval args s none [] s = some v ∧ v.isRef = true := by
  simp only [Jvm.Cond.value] at h
  cases ht : t.eval args s none [] s with
  | none => simp [ht] at h
  | some x => cases x <;> simp [ht] at h ⊢ <;> rfl
theorem own_ne0 {args : Array Value} {s : State} {t : Term} {z : Int32} (ev : t.eval args s none [] s = some (.int z)) (h : (Jvm.Cond.not (Jvm.Cond.eq t (.int 0))).value args s none s [] = some true) : ¬ z = (0 : Int32) := by
  intro q
  subst q
  simp [Jvm.Cond.value, Term.eval, ev] at h
theorem own_fold {g : Option Bool → Nat → Option Bool} {f : Nat → Option Bool} (hg : ∀ acc i, g acc i = some true → acc = some true ∧ f i = some true) : ∀ (l : List Nat) (acc : Option Bool), l.foldl g acc = some true → acc = some true ∧ ∀ i ∈ l, f i = some true
  | [], acc, h => ⟨h, fun _ q => nomatch q⟩
  | x :: l, acc, h => by
    obtain ⟨h1, h2⟩ := own_fold hg l _ h
    obtain ⟨h3, h4⟩ := hg _ _ h1
    exact ⟨h3, fun i q => (List.mem_cons.mp q).elim (fun u => u ▸ h4) (h2 i)⟩
theorem own_all {args : Array Value} {s : State} {t : Term} {c : Jvm.Cond} {a : Addr} {cell : Cell} (h : (Jvm.Cond.all t c).value args s none s [] = some true) (ht : t.eval args s none [] s = some (.ref a)) (hc : s.arrayAt? a = some cell) : ∀ i, i < cell.slots.size → c.value args s none s [i] = some true := by
  simp only [Jvm.Cond.value, ht, hc] at h
  refine fun i hi => (own_fold (f := fun i => c.value args s none s [i]) (fun acc i q => ?_) _ _ h).2 i (List.mem_range.mpr hi)
  match acc, q with
  | some true, q => exact ⟨rfl, q⟩
theorem own_d_s_coder_0 : decode jdk_42_method_152_code 0 = .ok (.getstatic 38, 3) := by decide +kernel
theorem own_d_s_coder_3 : decode jdk_42_method_152_code 3 = .ok (.ifCond .eq 10, 3) := by decide +kernel
theorem own_d_s_coder_6 : decode jdk_42_method_152_code 6 = .ok (.aload_n 0, 1) := by decide +kernel
theorem own_d_s_coder_7 : decode jdk_42_method_152_code 7 = .ok (.getfield 15, 3) := by decide +kernel
theorem own_d_s_coder_10 : decode jdk_42_method_152_code 10 = .ok (.goto 4, 3) := by decide +kernel
theorem own_d_s_coder_14 : decode jdk_42_method_152_code 14 = .ok (.ireturn, 1) := by decide +kernel
theorem own_pn_s_coder : plainName "java/lang/String" = true := by first | (simp [plainName, overriddenIn]; done) | decide +kernel
theorem own_ef_s_coder (m : MethodId) (x0 : Addr)  : entryFrame m #[(.ref x0)] 1 = mkF m 0 #[.val (.ref x0)] [] := by first | (simp [entryFrame, mkF, argsToLocals, Value.category]; done) | rfl
def own_Q_s_coder (Z : State) (a1 : Addr) (zc : Int32) (h0 : Heap) (n0 : Nat) (v : Option Value) (h : Heap) (L : List Loc) : Prop := v = some (.int (0 : Int32)) ∧ Fr n0 L ∧ h = h0
set_option maxRecDepth 65536 in
set_option maxHeartbeats 40000000 in
theorem own_rm_s_coder (l : Launch) (Z : State) (a0 : Array Value) (hw : ∀ d ∈ tables_1, d.before a0 Z = true) (ws : List Jvm.Cond) (a1 : Addr) (zc : Int32) (h0 : Heap) (n0 : Nat) (Z0 : n0 ≤ h0.size) (O1 : Old Z n0 h0) (S_cs : Sta Z Z.heap "java/lang/String" "COMPACT_STRINGS" "Z" (.int zc)) (hzc : ¬ zc = (0 : Int32)) (F1 : Fld Z h0 a1 "java/lang/String" "coder" "B" (.int (0 : Int32))) :
    MetFree l (⟨"java/lang/String", "coder", "()B"⟩ : MethodName) (head1 (Jvm.Cond.code (⟨"java/lang/String", "coder", "()B"⟩ : MethodName) jdk_42_method_152_code 1 (some .byte) :: ws) ({ frames := 0, cells := 0, slots := 0, locals := 0 } : Room)) (fun a U => a = #[(.ref a1)] ∧ Z.Warmed39 U.vm ∧ U.heap = h0) (fun _ _ _ _ _ => True) (fun _ U o U' => ∃ v L, o = .returned v ∧ own_Q_s_coder Z a1 zc h0 n0 v U'.heap L ∧ FrameEnd U o U' L ({ frames := 0, cells := 0, slots := 0, locals := 0 } : Room).cells ({ frames := 0, cells := 0, slots := 0, locals := 0 } : Room).slots) := by
  refine MetFree.of_bodySF (plainFor_of_name own_pn_s_coder) hisR ?_
  intro p e s m args below meth c s₁ Bd hml0 hP hK
  obtain ⟨rfl, hZ, hh⟩ := hP
  have hx := Bd.exec
  have hby := Bd.bytes
  have hml : c.maxLocals = 1 := hml0
  have hown : s.vm.findClass "java/lang/String" = some m.cls := findClass_of_methodNamed Bd.named
  have hnm := (name_of_methodNamed Bd.named Bd.method).1
  have X0 : Stand p l e ({ frames := 0, cells := 0, slots := 0, locals := 0 } : Room) s m #[(.ref a1)] below meth c s₁ [] 0 0 := Stand.of_body Bd
  have e0 : s₁.heap = h0 := by rw [← hh, Bd.state]; rfl
  have N0 := Fr.nil n0
  show OG.Go p.tables e below (OG.GP (own_Q_s_coder Z a1 zc h0 n0) ({ frames := 0, cells := 0, slots := 0, locals := 0 } : Room).cells ({ frames := 0, cells := 0, slots := 0, locals := 0 } : Room).slots s) (s₁.setTop (entryFrame m #[(.ref a1)] 1))
  refine OG.Go.cast (own_ef_s_coder m a1) ?_
  have f102 := Sta.ext O1.2 S_cs
  refine OG.gS X0 hx hZ hby hown (hw _ (List.mem_of_getElem? (i := 8) rfl)) Via.refl e0 f102 own_d_s_coder_0 rfl ?_
  intro T101 X101 e101
  refine OG.ifNo X101 hx hby own_d_s_coder_3 (feq hzc).1 rfl ?_
  refine OG.aloadN X101 hx hby own_d_s_coder_6 rfl rfl rfl ?_
  refine OG.gF X101 hx hZ hby hown (hw _ (List.mem_of_getElem? (i := 28) rfl)) Via.refl e101 F1 own_d_s_coder_7 rfl ?_
  intro T103 X103 e103
  refine OG.goto (pc' := 14) X103 hx hby own_d_s_coder_10 (by decide) (by decide) ?_
  refine OG.retZ X103 hx hby Bd.returns (by simp) own_d_s_coder_14 Bd.notSynchronized (by decide) (by decide) ?_
  exact ⟨rfl, N0, e103⟩
theorem own_d_s_len_0 : decode jdk_42_method_54_code 0 = .ok (.aload_n 0, 1) := by decide +kernel
theorem own_d_s_len_1 : decode jdk_42_method_54_code 1 = .ok (.getfield 9, 3) := by decide +kernel
theorem own_d_s_len_4 : decode jdk_42_method_54_code 4 = .ok (.arraylength, 1) := by decide +kernel
theorem own_d_s_len_5 : decode jdk_42_method_54_code 5 = .ok (.aload_n 0, 1) := by decide +kernel
theorem own_d_s_len_6 : decode jdk_42_method_54_code 6 = .ok (.invokevirtual 335, 3) := by decide +kernel
theorem own_d_s_len_9 : decode jdk_42_method_54_code 9 = .ok (.ishr, 1) := by decide +kernel
theorem own_d_s_len_10 : decode jdk_42_method_54_code 10 = .ok (.ireturn, 1) := by decide +kernel
theorem own_pn_s_len : plainName "java/lang/String" = true := by first | (simp [plainName, overriddenIn]; done) | decide +kernel
theorem own_ef_s_len (m : MethodId) (x0 : Addr)  : entryFrame m #[(.ref x0)] 1 = mkF m 0 #[.val (.ref x0)] [] := by first | (simp [entryFrame, mkF, argsToLocals, Value.category]; done) | rfl
def own_Q_s_len (Z : State) (a1 : Addr) (t1 : Addr) (bs : List Int32) (zc : Int32) (h0 : Heap) (n0 : Nat) (v : Option Value) (h : Heap) (L : List Loc) : Prop := v = some (.int (Int32.ofNat bs.length)) ∧ Fr n0 L ∧ h = h0
set_option maxRecDepth 65536 in
set_option maxHeartbeats 40000000 in
theorem own_rm_s_len (l : Launch) (Z : State) (a0 : Array Value) (hw : ∀ d ∈ tables_1, d.before a0 Z = true) (ws : List Jvm.Cond) (a1 : Addr) (t1 : Addr) (bs : List Int32) (zc : Int32) (h0 : Heap) (n0 : Nat) (Z0 : n0 ≤ h0.size) (O1 : Old Z n0 h0) (S_cs : Sta Z Z.heap "java/lang/String" "COMPACT_STRINGS" "Z" (.int zc)) (hzc : ¬ zc = (0 : Int32)) (E1 : Exa Z h0 a1 "java/lang/String") (Fc1 : Fld Z h0 a1 "java/lang/String" "coder" "B" (.int (0 : Int32))) (Fv1 : Fld Z h0 a1 "java/lang/String" "value" "[B" (.ref t1)) (Y1 : OG.BA Z h0 t1 bs) :
    MetFree l (⟨"java/lang/String", "length", "()I"⟩ : MethodName) (head1 (Jvm.Cond.code (⟨"java/lang/String", "length", "()I"⟩ : MethodName) jdk_42_method_54_code 1 (some .int) :: ws) ({ frames := 1, cells := 0, slots := 0, locals := 13 } : Room)) (fun a U => a = #[(.ref a1)] ∧ Z.Warmed39 U.vm ∧ U.heap = h0) (fun _ _ _ _ _ => True) (fun _ U o U' => ∃ v L, o = .returned v ∧ own_Q_s_len Z a1 t1 bs zc h0 n0 v U'.heap L ∧ FrameEnd U o U' L ({ frames := 1, cells := 0, slots := 0, locals := 13 } : Room).cells ({ frames := 1, cells := 0, slots := 0, locals := 13 } : Room).slots) := by
  refine MetFree.of_bodySF (plainFor_of_name own_pn_s_len) hisR ?_
  intro p e s m args below meth c s₁ Bd hml0 hP hK
  obtain ⟨rfl, hZ, hh⟩ := hP
  have hx := Bd.exec
  have hby := Bd.bytes
  have hml : c.maxLocals = 1 := hml0
  have hown : s.vm.findClass "java/lang/String" = some m.cls := findClass_of_methodNamed Bd.named
  have hnm := (name_of_methodNamed Bd.named Bd.method).1
  have X0 : Stand p l e ({ frames := 1, cells := 0, slots := 0, locals := 13 } : Room) s m #[(.ref a1)] below meth c s₁ [] 0 0 := Stand.of_body Bd
  have e0 : s₁.heap = h0 := by rw [← hh, Bd.state]; rfl
  have N0 := Fr.nil n0
  show OG.Go p.tables e below (OG.GP (own_Q_s_len Z a1 t1 bs zc h0 n0) ({ frames := 1, cells := 0, slots := 0, locals := 13 } : Room).cells ({ frames := 1, cells := 0, slots := 0, locals := 13 } : Room).slots s) (s₁.setTop (entryFrame m #[(.ref a1)] 1))
  refine OG.Go.cast (own_ef_s_len m a1) ?_
  refine OG.aloadN X0 hx hby own_d_s_len_0 rfl rfl rfl ?_
  refine OG.gF X0 hx hZ hby hown (hw _ (List.mem_of_getElem? (i := 26) rfl)) Via.refl e0 Fv1 own_d_s_len_1 rfl ?_
  intro T101 X101 e101
  refine OG.yL X101 hx hZ hby e101 Y1 own_d_s_len_4 rfl ?_
  refine OG.aloadN X101 hx hby own_d_s_len_5 rfl rfl rfl ?_
  refine OG.cV X101 hx hZ hby (by rw [hml]; rfl) hown (y := (⟨"java/lang/String", "coder", "()B"⟩ : MethodName)) (z := (⟨"java/lang/String", "coder", "()B"⟩ : MethodName)) (hw _ (List.mem_of_getElem? (i := 122) rfl)) (hw _ (List.mem_of_getElem? (i := 123) rfl)) (notFace_of_selects (args := #[]) (mvT hZ (hw _ (List.mem_of_getElem? (i := 125) rfl)))) (hw _ (List.mem_of_getElem? (i := 125) rfl)) (hw _ (List.mem_of_getElem? (i := 124) rfl)) (hw _ (List.mem_of_getElem? (i := 126) rfl)) (hw _ (List.mem_of_getElem? (i := 6) rfl)) (by decide) (own_rm_s_coder l Z a0 hw [] a1 zc h0 n0 Z0 O1 S_cs hzc Fc1) E1 e101 (argsL := []) (stk := [(.ref a1), (.int (Int32.ofNat bs.length))]) (st := [(.int (Int32.ofNat bs.length))]) own_pd_0 rfl rfl rfl (W := 1) rfl (by decide) (by decide) (by decide) (by decide) own_d_s_len_6 rfl ?_
  intro T102 L102 v102 X102 q102
  obtain ⟨rfl, N102, e102⟩ := q102
  have M102 := Fr.app N0 N102
  show OG.Go _ _ _ _ (T102.setTop (mkF m 9 #[.val (.ref a1)] [(.int (0 : Int32)), (.int (Int32.ofNat bs.length))]))
  refine OG.ishr X102 hx hby own_d_s_len_9 rfl ?_
  rw [OG.shr0]
  refine OG.retI X102 hx hby Bd.returns own_d_s_len_10 Bd.notSynchronized (by decide) (by decide) ?_
  exact ⟨rfl, M102, e102⟩
theorem own_d_s_lat_0 : decode jdk_42_method_154_code 0 = .ok (.getstatic 38, 3) := by decide +kernel
theorem own_d_s_lat_3 : decode jdk_42_method_154_code 3 = .ok (.ifCond .eq 14, 3) := by decide +kernel
theorem own_d_s_lat_6 : decode jdk_42_method_154_code 6 = .ok (.aload_n 0, 1) := by decide +kernel
theorem own_d_s_lat_7 : decode jdk_42_method_154_code 7 = .ok (.getfield 15, 3) := by decide +kernel
theorem own_d_s_lat_10 : decode jdk_42_method_154_code 10 = .ok (.ifCond .ne 7, 3) := by decide +kernel
theorem own_d_s_lat_13 : decode jdk_42_method_154_code 13 = .ok (.iconst 1, 1) := by decide +kernel
theorem own_d_s_lat_14 : decode jdk_42_method_154_code 14 = .ok (.goto 4, 3) := by decide +kernel
theorem own_d_s_lat_18 : decode jdk_42_method_154_code 18 = .ok (.ireturn, 1) := by decide +kernel
theorem own_pn_s_lat : plainName "java/lang/String" = true := by first | (simp [plainName, overriddenIn]; done) | decide +kernel
theorem own_ef_s_lat (m : MethodId) (x0 : Addr)  : entryFrame m #[(.ref x0)] 1 = mkF m 0 #[.val (.ref x0)] [] := by first | (simp [entryFrame, mkF, argsToLocals, Value.category]; done) | rfl
def own_Q_s_lat (Z : State) (a1 : Addr) (zc : Int32) (h0 : Heap) (n0 : Nat) (v : Option Value) (h : Heap) (L : List Loc) : Prop := v = some (.int (1 : Int32)) ∧ Fr n0 L ∧ h = h0
set_option maxRecDepth 65536 in
set_option maxHeartbeats 40000000 in
theorem own_rm_s_lat (l : Launch) (Z : State) (a0 : Array Value) (hw : ∀ d ∈ tables_1, d.before a0 Z = true) (ws : List Jvm.Cond) (a1 : Addr) (zc : Int32) (h0 : Heap) (n0 : Nat) (Z0 : n0 ≤ h0.size) (O1 : Old Z n0 h0) (S_cs : Sta Z Z.heap "java/lang/String" "COMPACT_STRINGS" "Z" (.int zc)) (hzc : ¬ zc = (0 : Int32)) (F1 : Fld Z h0 a1 "java/lang/String" "coder" "B" (.int (0 : Int32))) :
    MetFree l (⟨"java/lang/String", "isLatin1", "()Z"⟩ : MethodName) (head1 (Jvm.Cond.code (⟨"java/lang/String", "isLatin1", "()Z"⟩ : MethodName) jdk_42_method_154_code 1 (some .boolean) :: ws) ({ frames := 0, cells := 0, slots := 0, locals := 0 } : Room)) (fun a U => a = #[(.ref a1)] ∧ Z.Warmed39 U.vm ∧ U.heap = h0) (fun _ _ _ _ _ => True) (fun _ U o U' => ∃ v L, o = .returned v ∧ own_Q_s_lat Z a1 zc h0 n0 v U'.heap L ∧ FrameEnd U o U' L ({ frames := 0, cells := 0, slots := 0, locals := 0 } : Room).cells ({ frames := 0, cells := 0, slots := 0, locals := 0 } : Room).slots) := by
  refine MetFree.of_bodySF (plainFor_of_name own_pn_s_lat) hisR ?_
  intro p e s m args below meth c s₁ Bd hml0 hP hK
  obtain ⟨rfl, hZ, hh⟩ := hP
  have hx := Bd.exec
  have hby := Bd.bytes
  have hml : c.maxLocals = 1 := hml0
  have hown : s.vm.findClass "java/lang/String" = some m.cls := findClass_of_methodNamed Bd.named
  have hnm := (name_of_methodNamed Bd.named Bd.method).1
  have X0 : Stand p l e ({ frames := 0, cells := 0, slots := 0, locals := 0 } : Room) s m #[(.ref a1)] below meth c s₁ [] 0 0 := Stand.of_body Bd
  have e0 : s₁.heap = h0 := by rw [← hh, Bd.state]; rfl
  have N0 := Fr.nil n0
  show OG.Go p.tables e below (OG.GP (own_Q_s_lat Z a1 zc h0 n0) ({ frames := 0, cells := 0, slots := 0, locals := 0 } : Room).cells ({ frames := 0, cells := 0, slots := 0, locals := 0 } : Room).slots s) (s₁.setTop (entryFrame m #[(.ref a1)] 1))
  refine OG.Go.cast (own_ef_s_lat m a1) ?_
  have f102 := Sta.ext O1.2 S_cs
  refine OG.gS X0 hx hZ hby hown (hw _ (List.mem_of_getElem? (i := 8) rfl)) Via.refl e0 f102 own_d_s_lat_0 rfl ?_
  intro T101 X101 e101
  refine OG.ifNo X101 hx hby own_d_s_lat_3 (feq hzc).1 rfl ?_
  refine OG.aloadN X101 hx hby own_d_s_lat_6 rfl rfl rfl ?_
  refine OG.gF X101 hx hZ hby hown (hw _ (List.mem_of_getElem? (i := 28) rfl)) Via.refl e101 F1 own_d_s_lat_7 rfl ?_
  intro T103 X103 e103
  refine OG.ifNo X103 hx hby own_d_s_lat_10 (teq (by decide)).2 rfl ?_
  refine OG.iconst (v := (1 : Int32)) X103 hx hby own_d_s_lat_13 (by decide) rfl ?_
  refine OG.goto (pc' := 18) X103 hx hby own_d_s_lat_14 (by decide) (by decide) ?_
  refine OG.retZ X103 hx hby Bd.returns (by simp) own_d_s_lat_18 Bd.notSynchronized (by decide) (by decide) ?_
  exact ⟨rfl, N0, e103⟩
theorem own_d_pre_ci_0 : decode jdk_41_method_11_code 0 = .ok (.iload_n 0, 1) := by decide +kernel
theorem own_d_pre_ci_1 : decode jdk_41_method_11_code 1 = .ok (.ifCond .lt 8, 3) := by decide +kernel
theorem own_d_pre_ci_4 : decode jdk_41_method_11_code 4 = .ok (.iload_n 0, 1) := by decide +kernel
theorem own_d_pre_ci_5 : decode jdk_41_method_11_code 5 = .ok (.iload_n 1, 1) := by decide +kernel
theorem own_d_pre_ci_6 : decode jdk_41_method_11_code 6 = .ok (.if_icmp .lt 10, 3) := by decide +kernel
theorem own_d_pre_ci_16 : decode jdk_41_method_11_code 16 = .ok (.iload_n 0, 1) := by decide +kernel
theorem own_d_pre_ci_17 : decode jdk_41_method_11_code 17 = .ok (.ireturn, 1) := by decide +kernel
theorem own_pn_pre_ci : plainName "jdk/internal/util/Preconditions" = true := by first | (simp [plainName, overriddenIn]; done) | decide +kernel
theorem own_ef_pre_ci (m : MethodId) (x0 : Int32) (x1 : Int32) (x2 : Value) (hx2 : x2.isRef = true) : entryFrame m #[(.int x0), (.int x1), x2] 3 = mkF m 0 #[.val (.int x0), .val (.int x1), .val x2] [] := by rcases ref_cases hx2 with rfl | ⟨q2, rfl⟩ <;> (first | (simp [entryFrame, mkF, argsToLocals, Value.category]; done) | rfl)
def own_Q_pre_ci (Z : State) (p1 : Int32) (p2 : Int32) (fm : Value) (h0 : Heap) (n0 : Nat) (v : Option Value) (h : Heap) (L : List Loc) : Prop := v = some (.int p1) ∧ Fr n0 L ∧ h = h0
set_option maxRecDepth 65536 in
set_option maxHeartbeats 40000000 in
theorem own_rm_pre_ci (l : Launch) (Z : State) (a0 : Array Value) (hw : ∀ d ∈ tables_1, d.before a0 Z = true) (ws : List Jvm.Cond) (p1 : Int32) (p2 : Int32) (fm : Value) (h0 : Heap) (n0 : Nat) (Z0 : n0 ≤ h0.size) (hfm : fm.isRef = true) (h1 : ¬ p1 < (0 : Int32)) (h2 : p1 < p2) :
    MetFree l (⟨"jdk/internal/util/Preconditions", "checkIndex", "(IILjava/util/function/BiFunction;)I"⟩ : MethodName) (head1 (Jvm.Cond.code (⟨"jdk/internal/util/Preconditions", "checkIndex", "(IILjava/util/function/BiFunction;)I"⟩ : MethodName) jdk_41_method_11_code 3 (some .int) :: ws) ({ frames := 0, cells := 0, slots := 0, locals := 0 } : Room)) (fun a U => a = #[(.int p1), (.int p2), fm] ∧ Z.Warmed39 U.vm ∧ U.heap = h0) (fun _ _ _ _ _ => True) (fun _ U o U' => ∃ v L, o = .returned v ∧ own_Q_pre_ci Z p1 p2 fm h0 n0 v U'.heap L ∧ FrameEnd U o U' L ({ frames := 0, cells := 0, slots := 0, locals := 0 } : Room).cells ({ frames := 0, cells := 0, slots := 0, locals := 0 } : Room).slots) := by
  refine MetFree.of_bodySF (plainFor_of_name own_pn_pre_ci) hisR ?_
  intro p e s m args below meth c s₁ Bd hml0 hP hK
  obtain ⟨rfl, hZ, hh⟩ := hP
  have hx := Bd.exec
  have hby := Bd.bytes
  have hml : c.maxLocals = 3 := hml0
  have hown : s.vm.findClass "jdk/internal/util/Preconditions" = some m.cls := findClass_of_methodNamed Bd.named
  have hnm := (name_of_methodNamed Bd.named Bd.method).1
  have X0 : Stand p l e ({ frames := 0, cells := 0, slots := 0, locals := 0 } : Room) s m #[(.int p1), (.int p2), fm] below meth c s₁ [] 0 0 := Stand.of_body Bd
  have e0 : s₁.heap = h0 := by rw [← hh, Bd.state]; rfl
  have N0 := Fr.nil n0
  show OG.Go p.tables e below (OG.GP (own_Q_pre_ci Z p1 p2 fm h0 n0) ({ frames := 0, cells := 0, slots := 0, locals := 0 } : Room).cells ({ frames := 0, cells := 0, slots := 0, locals := 0 } : Room).slots s) (s₁.setTop (entryFrame m #[(.int p1), (.int p2), fm] 3))
  refine OG.Go.cast (own_ef_pre_ci m p1 p2 fm (hfm)) ?_
  refine OG.iloadN X0 hx hby own_d_pre_ci_0 rfl rfl ?_
  refine OG.ifNo X0 hx hby own_d_pre_ci_1 (flt h1).1 rfl ?_
  refine OG.iloadN X0 hx hby own_d_pre_ci_4 rfl rfl ?_
  refine OG.iloadN X0 hx hby own_d_pre_ci_5 rfl rfl ?_
  refine OG.icmpYes (pc' := 16) X0 hx hby own_d_pre_ci_6 (tlt h2).1 (by decide) (by decide) ?_
  refine OG.iloadN X0 hx hby own_d_pre_ci_16 rfl rfl ?_
  refine OG.retI X0 hx hby Bd.returns own_d_pre_ci_17 Bd.notSynchronized (by decide) (by decide) ?_
  exact ⟨rfl, N0, e0⟩
theorem own_d_s_ci_0 : decode jdk_42_method_155_code 0 = .ok (.iload_n 0, 1) := by decide +kernel
theorem own_d_s_ci_1 : decode jdk_42_method_155_code 1 = .ok (.iload_n 1, 1) := by decide +kernel
theorem own_d_s_ci_2 : decode jdk_42_method_155_code 2 = .ok (.getstatic 1053, 3) := by decide +kernel
theorem own_d_s_ci_5 : decode jdk_42_method_155_code 5 = .ok (.invokestatic 1059, 3) := by decide +kernel
theorem own_d_s_ci_8 : decode jdk_42_method_155_code 8 = .ok (.pop, 1) := by decide +kernel
theorem own_d_s_ci_9 : decode jdk_42_method_155_code 9 = .ok (.return_, 1) := by decide +kernel
theorem own_pn_s_ci : plainName "java/lang/String" = true := by first | (simp [plainName, overriddenIn]; done) | decide +kernel
theorem own_ef_s_ci (m : MethodId) (x0 : Int32) (x1 : Int32)  : entryFrame m #[(.int x0), (.int x1)] 2 = mkF m 0 #[.val (.int x0), .val (.int x1)] [] := by first | (simp [entryFrame, mkF, argsToLocals, Value.category]; done) | rfl
def own_Q_s_ci (Z : State) (p1 : Int32) (p2 : Int32) (fm : Value) (h0 : Heap) (n0 : Nat) (v : Option Value) (h : Heap) (L : List Loc) : Prop := v = none ∧ Fr n0 L ∧ h = h0
set_option maxRecDepth 65536 in
set_option maxHeartbeats 40000000 in
theorem own_rm_s_ci (l : Launch) (Z : State) (a0 : Array Value) (hw : ∀ d ∈ tables_1, d.before a0 Z = true) (ws : List Jvm.Cond) (p1 : Int32) (p2 : Int32) (fm : Value) (h0 : Heap) (n0 : Nat) (Z0 : n0 ≤ h0.size) (O1 : Old Z n0 h0) (S_fm : Sta Z Z.heap "jdk/internal/util/Preconditions" "SIOOBE_FORMATTER" "Ljava/util/function/BiFunction;" fm) (hfm : fm.isRef = true) (h1 : ¬ p1 < (0 : Int32)) (h2 : p1 < p2) :
    MetFree l (⟨"java/lang/String", "checkIndex", "(II)V"⟩ : MethodName) (head1 (Jvm.Cond.code (⟨"java/lang/String", "checkIndex", "(II)V"⟩ : MethodName) jdk_42_method_155_code 2 none :: ws) ({ frames := 1, cells := 0, slots := 0, locals := 14 } : Room)) (fun a U => a = #[(.int p1), (.int p2)] ∧ Z.Warmed39 U.vm ∧ U.heap = h0) (fun _ _ _ _ _ => True) (fun _ U o U' => ∃ v L, o = .returned v ∧ own_Q_s_ci Z p1 p2 fm h0 n0 v U'.heap L ∧ FrameEnd U o U' L ({ frames := 1, cells := 0, slots := 0, locals := 14 } : Room).cells ({ frames := 1, cells := 0, slots := 0, locals := 14 } : Room).slots) := by
  refine MetFree.of_bodySF (plainFor_of_name own_pn_s_ci) hisR ?_
  intro p e s m args below meth c s₁ Bd hml0 hP hK
  obtain ⟨rfl, hZ, hh⟩ := hP
  have hx := Bd.exec
  have hby := Bd.bytes
  have hml : c.maxLocals = 2 := hml0
  have hown : s.vm.findClass "java/lang/String" = some m.cls := findClass_of_methodNamed Bd.named
  have hnm := (name_of_methodNamed Bd.named Bd.method).1
  have X0 : Stand p l e ({ frames := 1, cells := 0, slots := 0, locals := 14 } : Room) s m #[(.int p1), (.int p2)] below meth c s₁ [] 0 0 := Stand.of_body Bd
  have e0 : s₁.heap = h0 := by rw [← hh, Bd.state]; rfl
  have N0 := Fr.nil n0
  show OG.Go p.tables e below (OG.GP (own_Q_s_ci Z p1 p2 fm h0 n0) ({ frames := 1, cells := 0, slots := 0, locals := 14 } : Room).cells ({ frames := 1, cells := 0, slots := 0, locals := 14 } : Room).slots s) (s₁.setTop (entryFrame m #[(.int p1), (.int p2)] 2))
  refine OG.Go.cast (own_ef_s_ci m p1 p2) ?_
  refine OG.iloadN X0 hx hby own_d_s_ci_0 rfl rfl ?_
  refine OG.iloadN X0 hx hby own_d_s_ci_1 rfl rfl ?_
  have f102 := Sta.ext O1.2 S_fm
  refine OG.gS X0 hx hZ hby hown (hw _ (List.mem_of_getElem? (i := 220) rfl)) Via.refl e0 f102 own_d_s_ci_2 rfl ?_
  intro T101 X101 e101
  refine OG.cS X101 hx hZ hby (by rw [hml]; rfl) hown (y := (⟨"jdk/internal/util/Preconditions", "checkIndex", "(IILjava/util/function/BiFunction;)I"⟩ : MethodName)) (hw _ (List.mem_of_getElem? (i := 222) rfl)) (hw _ (List.mem_of_getElem? (i := 223) rfl)) (hw _ (List.mem_of_getElem? (i := 224) rfl)) (hw _ (List.mem_of_getElem? (i := 221) rfl)) (by decide) (own_rm_pre_ci l Z a0 hw [] p1 p2 fm h0 n0 Z0 hfm h1 h2) e101 (argsL := [(.int p1), (.int p2), fm]) (stk := [fm, (.int p2), (.int p1)]) (st := []) own_pd_1 rfl rfl rfl (W := 0) rfl (by decide) (by decide) (by decide) (by decide) own_d_s_ci_5 rfl ?_
  intro T103 L103 v103 X103 q103
  obtain ⟨rfl, N103, e103⟩ := q103
  have M103 := Fr.app N0 N103
  show OG.Go _ _ _ _ (T103.setTop (mkF m 8 #[.val (.int p1), .val (.int p2)] [(.int p1)]))
  refine OG.pop X103 hx hby own_d_s_ci_8 rfl rfl ?_
  refine OG.retV X103 hx hby Bd.returns own_d_s_ci_9 Bd.notSynchronized (by decide) (by decide) ?_
  exact ⟨rfl, M103, e103⟩
theorem own_d_l_chr_0 : decode jdk_43_method_2_code 0 = .ok (.iload_n 1, 1) := by decide +kernel
theorem own_d_l_chr_1 : decode jdk_43_method_2_code 1 = .ok (.aload_n 0, 1) := by decide +kernel
theorem own_d_l_chr_2 : decode jdk_43_method_2_code 2 = .ok (.arraylength, 1) := by decide +kernel
theorem own_d_l_chr_3 : decode jdk_43_method_2_code 3 = .ok (.invokestatic 9, 3) := by decide +kernel
theorem own_d_l_chr_6 : decode jdk_43_method_2_code 6 = .ok (.aload_n 0, 1) := by decide +kernel
theorem own_d_l_chr_7 : decode jdk_43_method_2_code 7 = .ok (.iload_n 1, 1) := by decide +kernel
theorem own_d_l_chr_8 : decode jdk_43_method_2_code 8 = .ok (.baload, 1) := by decide +kernel
theorem own_d_l_chr_9 : decode jdk_43_method_2_code 9 = .ok (.sipush 255, 3) := by decide +kernel
theorem own_d_l_chr_12 : decode jdk_43_method_2_code 12 = .ok (.iand, 1) := by decide +kernel
theorem own_d_l_chr_13 : decode jdk_43_method_2_code 13 = .ok (.i2c, 1) := by decide +kernel
theorem own_d_l_chr_14 : decode jdk_43_method_2_code 14 = .ok (.ireturn, 1) := by decide +kernel
theorem own_pn_l_chr : plainName "java/lang/StringLatin1" = true := by first | (simp [plainName, overriddenIn]; done) | decide +kernel
theorem own_ef_l_chr (m : MethodId) (x0 : Addr) (x1 : Int32)  : entryFrame m #[(.ref x0), (.int x1)] 2 = mkF m 0 #[.val (.ref x0), .val (.int x1)] [] := by first | (simp [entryFrame, mkF, argsToLocals, Value.category]; done) | rfl
def own_Q_l_chr (Z : State) (t1 : Addr) (bs : List Int32) (i : Nat) (fm : Value) (h0 : Heap) (n0 : Nat) (v : Option Value) (h : Heap) (L : List Loc) : Prop := v = some (.int (bs.getD i 0 &&& (255 : Int32))) ∧ Fr n0 L ∧ h = h0
set_option maxRecDepth 65536 in
set_option maxHeartbeats 40000000 in
theorem own_rm_l_chr (l : Launch) (Z : State) (a0 : Array Value) (hw : ∀ d ∈ tables_1, d.before a0 Z = true) (ws : List Jvm.Cond) (t1 : Addr) (bs : List Int32) (i : Nat) (fm : Value) (h0 : Heap) (n0 : Nat) (Z0 : n0 ≤ h0.size) (O1 : Old Z n0 h0) (S_fm : Sta Z Z.heap "jdk/internal/util/Preconditions" "SIOOBE_FORMATTER" "Ljava/util/function/BiFunction;" fm) (hfm : fm.isRef = true) (Y1 : OG.BA Z h0 t1 bs) (hi : i < bs.length) :
    MetFree l (⟨"java/lang/StringLatin1", "charAt", "([BI)C"⟩ : MethodName) (head1 (Jvm.Cond.code (⟨"java/lang/StringLatin1", "charAt", "([BI)C"⟩ : MethodName) jdk_43_method_2_code 2 (some .char) :: ws) ({ frames := 2, cells := 0, slots := 0, locals := 27 } : Room)) (fun a U => a = #[(.ref t1), (.int (Int32.ofNat i))] ∧ Z.Warmed39 U.vm ∧ U.heap = h0) (fun _ _ _ _ _ => True) (fun _ U o U' => ∃ v L, o = .returned v ∧ own_Q_l_chr Z t1 bs i fm h0 n0 v U'.heap L ∧ FrameEnd U o U' L ({ frames := 2, cells := 0, slots := 0, locals := 27 } : Room).cells ({ frames := 2, cells := 0, slots := 0, locals := 27 } : Room).slots) := by
  refine MetFree.of_bodySF (plainFor_of_name own_pn_l_chr) hisR ?_
  intro p e s m args below meth c s₁ Bd hml0 hP hK
  obtain ⟨rfl, hZ, hh⟩ := hP
  have hx := Bd.exec
  have hby := Bd.bytes
  have hml : c.maxLocals = 2 := hml0
  have hown : s.vm.findClass "java/lang/StringLatin1" = some m.cls := findClass_of_methodNamed Bd.named
  have hnm := (name_of_methodNamed Bd.named Bd.method).1
  have X0 : Stand p l e ({ frames := 2, cells := 0, slots := 0, locals := 27 } : Room) s m #[(.ref t1), (.int (Int32.ofNat i))] below meth c s₁ [] 0 0 := Stand.of_body Bd
  have e0 : s₁.heap = h0 := by rw [← hh, Bd.state]; rfl
  have N0 := Fr.nil n0
  show OG.Go p.tables e below (OG.GP (own_Q_l_chr Z t1 bs i fm h0 n0) ({ frames := 2, cells := 0, slots := 0, locals := 27 } : Room).cells ({ frames := 2, cells := 0, slots := 0, locals := 27 } : Room).slots s) (s₁.setTop (entryFrame m #[(.ref t1), (.int (Int32.ofNat i))] 2))
  refine OG.Go.cast (own_ef_l_chr m t1 (Int32.ofNat i)) ?_
  refine OG.iloadN X0 hx hby own_d_l_chr_0 rfl rfl ?_
  refine OG.aloadN X0 hx hby own_d_l_chr_1 rfl rfl rfl ?_
  refine OG.yL X0 hx hZ hby e0 Y1 own_d_l_chr_2 rfl ?_
  refine OG.cS X0 hx hZ hby (by rw [hml]; rfl) hown (y := (⟨"java/lang/String", "checkIndex", "(II)V"⟩ : MethodName)) (hw _ (List.mem_of_getElem? (i := 217) rfl)) (hw _ (List.mem_of_getElem? (i := 218) rfl)) (hw _ (List.mem_of_getElem? (i := 219) rfl)) (hw _ (List.mem_of_getElem? (i := 6) rfl)) (by decide) (own_rm_s_ci l Z a0 hw [] (Int32.ofNat i) (Int32.ofNat bs.length) fm h0 n0 Z0 O1 S_fm hfm (OG.ofN_nn (Nat.lt_trans hi Y1.1)) (OG.ofN_lt hi Y1.1)) e0 (argsL := [(.int (Int32.ofNat i)), (.int (Int32.ofNat bs.length))]) (stk := [(.int (Int32.ofNat bs.length)), (.int (Int32.ofNat i))]) (st := []) own_pd_2 rfl rfl rfl (W := 0) rfl (by decide) (by decide) (by decide) (by decide) own_d_l_chr_3 rfl ?_
  intro T101 L101 v101 X101 q101
  obtain ⟨rfl, N101, e101⟩ := q101
  have M101 := Fr.app N0 N101
  show OG.Go _ _ _ _ (T101.setTop (mkF m 6 #[.val (.ref t1), .val (.int (Int32.ofNat i))] []))
  refine OG.aloadN X101 hx hby own_d_l_chr_6 rfl rfl rfl ?_
  refine OG.iloadN X101 hx hby own_d_l_chr_7 rfl rfl ?_
  refine OG.yG (v := (bs.getD i 0)) X101 hx hZ hby e101 Y1 (i := i) rfl hi rfl own_d_l_chr_8 rfl ?_
  refine OG.sipush (v := (255 : Int32)) X101 hx hby own_d_l_chr_9 (by decide) rfl ?_
  refine OG.iand X101 hx hby own_d_l_chr_12 rfl ?_
  refine OG.i2c X101 hx hby own_d_l_chr_13 rfl ?_
  refine OG.retZ X101 hx hby Bd.returns (by simp) own_d_l_chr_14 Bd.notSynchronized (by decide) (by decide) ?_
  exact ⟨congrArg (fun z => some (Value.int z)) (OG.chr_eq (bs.getD i 0)), M101, e101⟩
theorem own_nar255 (x : Int32) : nar .char (x &&& (255 : Int32)) = x &&& 255 := OG.i2c_id (OG.and255 x).1 (by have := (OG.and255 x).2; omega)
theorem own_d_s_chr_0 : decode jdk_42_method_56_code 0 = .ok (.aload_n 0, 1) := by decide +kernel
theorem own_d_s_chr_1 : decode jdk_42_method_56_code 1 = .ok (.invokevirtual 492, 3) := by decide +kernel
theorem own_d_s_chr_4 : decode jdk_42_method_56_code 4 = .ok (.ifCond .eq 12, 3) := by decide +kernel
theorem own_d_s_chr_7 : decode jdk_42_method_56_code 7 = .ok (.aload_n 0, 1) := by decide +kernel
theorem own_d_s_chr_8 : decode jdk_42_method_56_code 8 = .ok (.getfield 9, 3) := by decide +kernel
theorem own_d_s_chr_11 : decode jdk_42_method_56_code 11 = .ok (.iload_n 1, 1) := by decide +kernel
theorem own_d_s_chr_12 : decode jdk_42_method_56_code 12 = .ok (.invokestatic 495, 3) := by decide +kernel
theorem own_d_s_chr_15 : decode jdk_42_method_56_code 15 = .ok (.ireturn, 1) := by decide +kernel
theorem own_pn_s_chr : plainName "java/lang/String" = true := by first | (simp [plainName, overriddenIn]; done) | decide +kernel
theorem own_ef_s_chr (m : MethodId) (x0 : Addr) (x1 : Int32)  : entryFrame m #[(.ref x0), (.int x1)] 2 = mkF m 0 #[.val (.ref x0), .val (.int x1)] [] := by first | (simp [entryFrame, mkF, argsToLocals, Value.category]; done) | rfl
def own_Q_s_chr (Z : State) (a1 : Addr) (t1 : Addr) (bs : List Int32) (i : Nat) (zc : Int32) (fm : Value) (h0 : Heap) (n0 : Nat) (v : Option Value) (h : Heap) (L : List Loc) : Prop := v = some (.int (bs.getD i 0 &&& (255 : Int32))) ∧ Fr n0 L ∧ h = h0
set_option maxRecDepth 65536 in
set_option maxHeartbeats 40000000 in
theorem own_rm_s_chr (l : Launch) (Z : State) (a0 : Array Value) (hw : ∀ d ∈ tables_1, d.before a0 Z = true) (ws : List Jvm.Cond) (a1 : Addr) (t1 : Addr) (bs : List Int32) (i : Nat) (zc : Int32) (fm : Value) (h0 : Heap) (n0 : Nat) (Z0 : n0 ≤ h0.size) (O1 : Old Z n0 h0) (S_cs : Sta Z Z.heap "java/lang/String" "COMPACT_STRINGS" "Z" (.int zc)) (hzc : ¬ zc = (0 : Int32)) (S_fm : Sta Z Z.heap "jdk/internal/util/Preconditions" "SIOOBE_FORMATTER" "Ljava/util/function/BiFunction;" fm) (hfm : fm.isRef = true) (E1 : Exa Z h0 a1 "java/lang/String") (Fc1 : Fld Z h0 a1 "java/lang/String" "coder" "B" (.int (0 : Int32))) (Fv1 : Fld Z h0 a1 "java/lang/String" "value" "[B" (.ref t1)) (Y1 : OG.BA Z h0 t1 bs) (hi : i < bs.length) :
    MetFree l (⟨"java/lang/String", "charAt", "(I)C"⟩ : MethodName) (head1 (Jvm.Cond.code (⟨"java/lang/String", "charAt", "(I)C"⟩ : MethodName) jdk_42_method_56_code 2 (some .char) :: ws) ({ frames := 3, cells := 0, slots := 0, locals := 40 } : Room)) (fun a U => a = #[(.ref a1), (.int (Int32.ofNat i))] ∧ Z.Warmed39 U.vm ∧ U.heap = h0) (fun _ _ _ _ _ => True) (fun _ U o U' => ∃ v L, o = .returned v ∧ own_Q_s_chr Z a1 t1 bs i zc fm h0 n0 v U'.heap L ∧ FrameEnd U o U' L ({ frames := 3, cells := 0, slots := 0, locals := 40 } : Room).cells ({ frames := 3, cells := 0, slots := 0, locals := 40 } : Room).slots) := by
  refine MetFree.of_bodySF (plainFor_of_name own_pn_s_chr) hisR ?_
  intro p e s m args below meth c s₁ Bd hml0 hP hK
  obtain ⟨rfl, hZ, hh⟩ := hP
  have hx := Bd.exec
  have hby := Bd.bytes
  have hml : c.maxLocals = 2 := hml0
  have hown : s.vm.findClass "java/lang/String" = some m.cls := findClass_of_methodNamed Bd.named
  have hnm := (name_of_methodNamed Bd.named Bd.method).1
  have X0 : Stand p l e ({ frames := 3, cells := 0, slots := 0, locals := 40 } : Room) s m #[(.ref a1), (.int (Int32.ofNat i))] below meth c s₁ [] 0 0 := Stand.of_body Bd
  have e0 : s₁.heap = h0 := by rw [← hh, Bd.state]; rfl
  have N0 := Fr.nil n0
  show OG.Go p.tables e below (OG.GP (own_Q_s_chr Z a1 t1 bs i zc fm h0 n0) ({ frames := 3, cells := 0, slots := 0, locals := 40 } : Room).cells ({ frames := 3, cells := 0, slots := 0, locals := 40 } : Room).slots s) (s₁.setTop (entryFrame m #[(.ref a1), (.int (Int32.ofNat i))] 2))
  refine OG.Go.cast (own_ef_s_chr m a1 (Int32.ofNat i)) ?_
  refine OG.aloadN X0 hx hby own_d_s_chr_0 rfl rfl rfl ?_
  refine OG.cV X0 hx hZ hby (by rw [hml]; rfl) hown (y := (⟨"java/lang/String", "isLatin1", "()Z"⟩ : MethodName)) (z := (⟨"java/lang/String", "isLatin1", "()Z"⟩ : MethodName)) (hw _ (List.mem_of_getElem? (i := 209) rfl)) (hw _ (List.mem_of_getElem? (i := 210) rfl)) (notFace_of_selects (args := #[]) (mvT hZ (hw _ (List.mem_of_getElem? (i := 212) rfl)))) (hw _ (List.mem_of_getElem? (i := 212) rfl)) (hw _ (List.mem_of_getElem? (i := 211) rfl)) (hw _ (List.mem_of_getElem? (i := 213) rfl)) (hw _ (List.mem_of_getElem? (i := 6) rfl)) (by decide) (own_rm_s_lat l Z a0 hw [] a1 zc h0 n0 Z0 O1 S_cs hzc Fc1) E1 e0 (argsL := []) (stk := [(.ref a1)]) (st := []) own_pd_3 rfl rfl rfl (W := 0) rfl (by decide) (by decide) (by decide) (by decide) own_d_s_chr_1 rfl ?_
  intro T101 L101 v101 X101 q101
  obtain ⟨rfl, N101, e101⟩ := q101
  have M101 := Fr.app N0 N101
  show OG.Go _ _ _ _ (T101.setTop (mkF m 4 #[.val (.ref a1), .val (.int (Int32.ofNat i))] [(.int (1 : Int32))]))
  refine OG.ifNo X101 hx hby own_d_s_chr_4 (feq (by decide)).1 rfl ?_
  refine OG.aloadN X101 hx hby own_d_s_chr_7 rfl rfl rfl ?_
  refine OG.gF X101 hx hZ hby hown (hw _ (List.mem_of_getElem? (i := 26) rfl)) Via.refl e101 Fv1 own_d_s_chr_8 rfl ?_
  intro T102 X102 e102
  refine OG.iloadN X102 hx hby own_d_s_chr_11 rfl rfl ?_
  refine OG.cS X102 hx hZ hby (by rw [hml]; rfl) hown (y := (⟨"java/lang/StringLatin1", "charAt", "([BI)C"⟩ : MethodName)) (hw _ (List.mem_of_getElem? (i := 214) rfl)) (hw _ (List.mem_of_getElem? (i := 215) rfl)) (hw _ (List.mem_of_getElem? (i := 216) rfl)) (hw _ (List.mem_of_getElem? (i := 11) rfl)) (by decide) (own_rm_l_chr l Z a0 hw [] t1 bs i fm h0 n0 Z0 O1 S_fm hfm Y1 hi) e102 (argsL := [(.ref t1), (.int (Int32.ofNat i))]) (stk := [(.int (Int32.ofNat i)), (.ref t1)]) (st := []) own_pd_4 rfl rfl rfl (W := 0) rfl (by decide) (by decide) (by decide) (by decide) own_d_s_chr_12 rfl ?_
  intro T103 L103 v103 X103 q103
  obtain ⟨rfl, N103, e103⟩ := q103
  have M103 := Fr.app M101 N103
  show OG.Go _ _ _ _ (T103.setTop (mkF m 15 #[.val (.ref a1), .val (.int (Int32.ofNat i))] [(.int (bs.getD i 0 &&& (255 : Int32)))]))
  refine OG.retZ X103 hx hby Bd.returns (by simp) own_d_s_chr_15 Bd.notSynchronized (by decide) (by decide) ?_
  exact ⟨congrArg (fun z => some (Value.int z)) (own_nar255 (bs.getD i 0)), M103, e103⟩
theorem own_d_m_min_0 : decode jdk_29_method_69_code 0 = .ok (.iload_n 0, 1) := by decide +kernel
theorem own_d_m_min_1 : decode jdk_29_method_69_code 1 = .ok (.iload_n 1, 1) := by decide +kernel
theorem own_d_m_min_2 : decode jdk_29_method_69_code 2 = .ok (.if_icmp .gt 7, 3) := by decide +kernel
theorem own_d_m_min_5 : decode jdk_29_method_69_code 5 = .ok (.iload_n 0, 1) := by decide +kernel
theorem own_d_m_min_6 : decode jdk_29_method_69_code 6 = .ok (.goto 4, 3) := by decide +kernel
theorem own_d_m_min_9 : decode jdk_29_method_69_code 9 = .ok (.iload_n 1, 1) := by decide +kernel
theorem own_d_m_min_10 : decode jdk_29_method_69_code 10 = .ok (.ireturn, 1) := by decide +kernel
theorem own_pn_m_min : plainFor (⟨"java/lang/Math", "min", "(II)I"⟩ : MethodName) = true := by decide +kernel
theorem own_ef_m_min (m : MethodId) (x0 : Int32) (x1 : Int32)  : entryFrame m #[(.int x0), (.int x1)] 2 = mkF m 0 #[.val (.int x0), .val (.int x1)] [] := by first | (simp [entryFrame, mkF, argsToLocals, Value.category]; done) | rfl
def own_Q_m_min (Z : State) (p1 : Int32) (p2 : Int32) (r : Int32) (h0 : Heap) (n0 : Nat) (v : Option Value) (h : Heap) (L : List Loc) : Prop := v = some (.int r) ∧ Fr n0 L ∧ h = h0
set_option maxRecDepth 65536 in
set_option maxHeartbeats 40000000 in
theorem own_rm_m_min (l : Launch) (Z : State) (a0 : Array Value) (hw : ∀ d ∈ tables_1, d.before a0 Z = true) (ws : List Jvm.Cond) (p1 : Int32) (p2 : Int32) (r : Int32) (h0 : Heap) (n0 : Nat) (Z0 : n0 ≤ h0.size) (hr : (if p2 < p1 then p2 else p1) = r) :
    MetFree l (⟨"java/lang/Math", "min", "(II)I"⟩ : MethodName) (head1 (Jvm.Cond.code (⟨"java/lang/Math", "min", "(II)I"⟩ : MethodName) jdk_29_method_69_code 2 (some .int) :: ws) ({ frames := 0, cells := 0, slots := 0, locals := 0 } : Room)) (fun a U => a = #[(.int p1), (.int p2)] ∧ Z.Warmed39 U.vm ∧ U.heap = h0) (fun _ _ _ _ _ => True) (fun _ U o U' => ∃ v L, o = .returned v ∧ own_Q_m_min Z p1 p2 r h0 n0 v U'.heap L ∧ FrameEnd U o U' L ({ frames := 0, cells := 0, slots := 0, locals := 0 } : Room).cells ({ frames := 0, cells := 0, slots := 0, locals := 0 } : Room).slots) := by
  refine MetFree.of_bodySF own_pn_m_min hisR ?_
  intro p e s m args below meth c s₁ Bd hml0 hP hK
  obtain ⟨rfl, hZ, hh⟩ := hP
  have hx := Bd.exec
  have hby := Bd.bytes
  have hml : c.maxLocals = 2 := hml0
  have hown : s.vm.findClass "java/lang/Math" = some m.cls := findClass_of_methodNamed Bd.named
  have hnm := (name_of_methodNamed Bd.named Bd.method).1
  have X0 : Stand p l e ({ frames := 0, cells := 0, slots := 0, locals := 0 } : Room) s m #[(.int p1), (.int p2)] below meth c s₁ [] 0 0 := Stand.of_body Bd
  have e0 : s₁.heap = h0 := by rw [← hh, Bd.state]; rfl
  have N0 := Fr.nil n0
  show OG.Go p.tables e below (OG.GP (own_Q_m_min Z p1 p2 r h0 n0) ({ frames := 0, cells := 0, slots := 0, locals := 0 } : Room).cells ({ frames := 0, cells := 0, slots := 0, locals := 0 } : Room).slots s) (s₁.setTop (entryFrame m #[(.int p1), (.int p2)] 2))
  refine OG.Go.cast (own_ef_m_min m p1 p2) ?_
  refine OG.iloadN X0 hx hby own_d_m_min_0 rfl rfl ?_
  refine OG.iloadN X0 hx hby own_d_m_min_1 rfl rfl ?_
  by_cases hc2_101 : p2 < p1
  · refine OG.icmpYes (pc' := 9) X0 hx hby own_d_m_min_2 (tlt hc2_101).2.2.1 (by decide) (by decide) ?_
    refine OG.iloadN X0 hx hby own_d_m_min_9 rfl rfl ?_
    refine OG.retI X0 hx hby Bd.returns own_d_m_min_10 Bd.notSynchronized (by decide) (by decide) ?_
    exact ⟨by subst hr; simp [hc2_101], N0, e0⟩
  · refine OG.icmpNo X0 hx hby own_d_m_min_2 (flt hc2_101).2.2.1 rfl ?_
    refine OG.iloadN X0 hx hby own_d_m_min_5 rfl rfl ?_
    refine OG.goto (pc' := 10) X0 hx hby own_d_m_min_6 (by decide) (by decide) ?_
    refine OG.retI X0 hx hby Bd.returns own_d_m_min_10 Bd.notSynchronized (by decide) (by decide) ?_
    exact ⟨by subst hr; simp [hc2_101], N0, e0⟩
theorem own_d_asb_init_0 : decode jdk_68_method_2_code 0 = .ok (.aload_n 0, 1) := by decide +kernel
theorem own_d_asb_init_1 : decode jdk_68_method_2_code 1 = .ok (.invokespecial 3, 3) := by decide +kernel
theorem own_d_asb_init_4 : decode jdk_68_method_2_code 4 = .ok (.getstatic 18, 3) := by decide +kernel
theorem own_d_asb_init_7 : decode jdk_68_method_2_code 7 = .ok (.ifCond .eq 18, 3) := by decide +kernel
theorem own_d_asb_init_10 : decode jdk_68_method_2_code 10 = .ok (.aload_n 0, 1) := by decide +kernel
theorem own_d_asb_init_11 : decode jdk_68_method_2_code 11 = .ok (.iload_n 1, 1) := by decide +kernel
theorem own_d_asb_init_12 : decode jdk_68_method_2_code 12 = .ok (.newarray .byte, 2) := by decide +kernel
theorem own_d_asb_init_14 : decode jdk_68_method_2_code 14 = .ok (.putfield 15, 3) := by decide +kernel
theorem own_d_asb_init_17 : decode jdk_68_method_2_code 17 = .ok (.aload_n 0, 1) := by decide +kernel
theorem own_d_asb_init_18 : decode jdk_68_method_2_code 18 = .ok (.iconst 0, 1) := by decide +kernel
theorem own_d_asb_init_19 : decode jdk_68_method_2_code 19 = .ok (.putfield 22, 3) := by decide +kernel
theorem own_d_asb_init_22 : decode jdk_68_method_2_code 22 = .ok (.goto 16, 3) := by decide +kernel
theorem own_d_asb_init_38 : decode jdk_68_method_2_code 38 = .ok (.return_, 1) := by decide +kernel
theorem own_pn_asb_init : plainName "java/lang/AbstractStringBuilder" = true := by first | (simp [plainName, overriddenIn]; done) | decide +kernel
theorem own_ef_asb_init (m : MethodId) (x0 : Addr) (x1 : Int32)  : entryFrame m #[(.ref x0), (.int x1)] 2 = mkF m 0 #[.val (.ref x0), .val (.int x1)] [] := by first | (simp [entryFrame, mkF, argsToLocals, Value.category]; done) | rfl
def own_Q_asb_init (Z : State) (a1 : Addr) (zc : Int32) (h0 : Heap) (n0 : Nat) (v : Option Value) (h : Heap) (L : List Loc) : Prop := ∃ t, v = none ∧ Fr n0 L ∧ Keep h0 h [a1] ∧ (Exa Z h a1 "java/lang/StringBuilder") ∧ (Fld Z h a1 "java/lang/AbstractStringBuilder" "value" "[B" (.ref t)) ∧ (Fld Z h a1 "java/lang/AbstractStringBuilder" "coder" "B" (.int (0 : Int32))) ∧ (Fld Z h a1 "java/lang/AbstractStringBuilder" "count" "I" (.int (Int32.ofNat 0))) ∧ (OG.BA Z h t (List.replicate 16 0)) ∧ (Exa Z h t "[B") ∧ h0.size ≤ t
set_option maxRecDepth 65536 in
set_option maxHeartbeats 40000000 in
theorem own_rm_asb_init (l : Launch) (Z : State) (a0 : Array Value) (hw : ∀ d ∈ tables_1, d.before a0 Z = true) (ws : List Jvm.Cond) (a1 : Addr) (zc : Int32) (h0 : Heap) (n0 : Nat) (Z0 : n0 ≤ h0.size) (O1 : Old Z n0 h0) (S_cs : Sta Z Z.heap "java/lang/String" "COMPACT_STRINGS" "Z" (.int zc)) (hzc : ¬ zc = (0 : Int32)) (E1 : Exa Z h0 a1 "java/lang/StringBuilder") (Bv1 : Fld Z h0 a1 "java/lang/AbstractStringBuilder" "value" "[B" .null) (Bc1 : Fld Z h0 a1 "java/lang/AbstractStringBuilder" "coder" "B" (.int (0 : Int32))) (Bn1 : Fld Z h0 a1 "java/lang/AbstractStringBuilder" "count" "I" (.int (0 : Int32))) (g1 : n0 ≤ a1) :
    MetFree l (⟨"java/lang/AbstractStringBuilder", "<init>", "(I)V"⟩ : MethodName) (head1 (Jvm.Cond.code (⟨"java/lang/AbstractStringBuilder", "<init>", "(I)V"⟩ : MethodName) jdk_68_method_2_code 2 none :: ws) ({ frames := 1, cells := 1, slots := 16, locals := 12 } : Room)) (fun a U => a = #[(.ref a1), (.int (16 : Int32))] ∧ Z.Warmed39 U.vm ∧ U.heap = h0) (fun _ _ _ _ _ => True) (fun _ U o U' => ∃ v L, o = .returned v ∧ own_Q_asb_init Z a1 zc h0 n0 v U'.heap L ∧ FrameEnd U o U' L ({ frames := 1, cells := 1, slots := 16, locals := 12 } : Room).cells ({ frames := 1, cells := 1, slots := 16, locals := 12 } : Room).slots) := by
  refine MetFree.of_bodySF (plainFor_of_name own_pn_asb_init) hisR ?_
  intro p e s m args below meth c s₁ Bd hml0 hP hK
  obtain ⟨rfl, hZ, hh⟩ := hP
  have hx := Bd.exec
  have hby := Bd.bytes
  have hml : c.maxLocals = 2 := hml0
  have hown : s.vm.findClass "java/lang/AbstractStringBuilder" = some m.cls := findClass_of_methodNamed Bd.named
  have hnm := (name_of_methodNamed Bd.named Bd.method).1
  have X0 : Stand p l e ({ frames := 1, cells := 1, slots := 16, locals := 12 } : Room) s m #[(.ref a1), (.int (16 : Int32))] below meth c s₁ [] 0 0 := Stand.of_body Bd
  have e0 : s₁.heap = h0 := by rw [← hh, Bd.state]; rfl
  have N0 := Fr.nil n0
  show OG.Go p.tables e below (OG.GP (own_Q_asb_init Z a1 zc h0 n0) ({ frames := 1, cells := 1, slots := 16, locals := 12 } : Room).cells ({ frames := 1, cells := 1, slots := 16, locals := 12 } : Room).slots s) (s₁.setTop (entryFrame m #[(.ref a1), (.int (16 : Int32))] 2))
  refine OG.Go.cast (own_ef_asb_init m a1 (16 : Int32)) ?_
  refine OG.aloadN X0 hx hby own_d_asb_init_0 rfl rfl rfl ?_
  refine OG.iO X0 hx hZ hby hown (by rw [hml]; rfl) (hw _ (List.mem_of_getElem? (i := 101) rfl)) (hw _ (List.mem_of_getElem? (i := 24) rfl)) (hw _ (List.mem_of_getElem? (i := 25) rfl)) e0 (W := 0) rfl (by decide) (by decide) own_d_asb_init_1 rfl ?_
  intro T101 X101 e101
  have f103 := Sta.ext O1.2 S_cs
  refine OG.gS X101 hx hZ hby hown (hw _ (List.mem_of_getElem? (i := 102) rfl)) Via.refl e101 f103 own_d_asb_init_4 rfl ?_
  intro T102 X102 e102
  refine OG.ifNo X102 hx hby own_d_asb_init_7 (feq hzc).1 rfl ?_
  refine OG.aloadN X102 hx hby own_d_asb_init_10 rfl rfl rfl ?_
  refine OG.iloadN X102 hx hby own_d_asb_init_11 rfl rfl ?_
  refine OG.yN X102 hx hZ hby (hw _ (List.mem_of_getElem? (i := 18) rfl)) e102 (N := 16) (cap := 16) rfl (by decide) (by decide) (by decide) (by decide) own_d_asb_init_12 rfl ?_
  intro T104 h104 b104 g104 X104 e104 E104 Y104 A104
  have ne105 : a1 ≠ b104 := Nat.ne_of_lt (Nat.lt_of_lt_of_le (Exa.lt E1) (Nat.le_of_eq g104.symm))
  have gn106 : n0 ≤ b104 := Nat.le_trans Z0 (Nat.le_of_eq g104.symm)
  have sz107 : h0.size ≤ b104 := Nat.le_trans (Nat.le_refl _) (Nat.le_of_eq g104.symm)
  have f108 := (Fld.ext E104 Bv1)
  have f109 := (Exa.ext E104 E1)
  refine OG.pF X104 hx hZ hby hown (hw _ (List.mem_of_getElem? (i := 103) rfl)) Via.refl e104 f108 f109 (Or.inl (hw _ (List.mem_of_getElem? (i := 104) rfl))) (hw _ (List.mem_of_getElem? (i := 90) rfl)) (ty := (.array .byte)) (by decide) rfl rfl own_d_asb_init_14 rfl ?_
  intro T110 h110 X110 e110 W110
  have f111 := Fld.same W110 f108
  have N112 := Fr.snoc X110 N0 g1
  refine OG.aloadN X110 hx hby own_d_asb_init_17 rfl rfl rfl ?_
  refine OG.iconst (v := (0 : Int32)) X110 hx hby own_d_asb_init_18 (by decide) rfl ?_
  have f113 := (Fld.other W110 (Fld.ext E104 Bc1) (Or.inr (slot_ne (Or.inl (hw _ (List.mem_of_getElem? (i := 106) rfl))) (Or.inl (hw _ (List.mem_of_getElem? (i := 104) rfl))) (by decide) (t := .byte) (t' := (.array .byte)) (by decide) (by decide))))
  have f114 := (Exa.wr W110 f109)
  refine OG.pFN (v' := (.int (0 : Int32))) X110 hx hZ hby hown (hw _ (List.mem_of_getElem? (i := 105) rfl)) Via.refl e110 f113 f114 (Or.inl (hw _ (List.mem_of_getElem? (i := 106) rfl))) (hw _ (List.mem_of_getElem? (i := 90) rfl)) (ty := .byte) (by decide) rfl rfl own_d_asb_init_19 rfl ?_
  intro T115 h115 X115 e115 W115
  have f116 := Fld.same W115 f113
  have N117 := Fr.snoc X115 N112 g1
  refine OG.goto (pc' := 38) X115 hx hby own_d_asb_init_22 (by decide) (by decide) ?_
  refine OG.retV X115 hx hby Bd.returns own_d_asb_init_38 Bd.notSynchronized (by decide) (by decide) ?_
  have f118 := (Exa.wr W115 f114)
  have f119 := (Fld.other W115 f111 (Or.inr (slot_ne (Or.inl (hw _ (List.mem_of_getElem? (i := 104) rfl))) (Or.inl (hw _ (List.mem_of_getElem? (i := 106) rfl))) (by decide) (t := (.array .byte)) (t' := .byte) (by decide) (by decide))))
  have f120 := (Fld.other W115 (Fld.other W110 (Fld.ext E104 Bn1) (Or.inr (slot_ne (Or.inl (hw _ (List.mem_of_getElem? (i := 128) rfl))) (Or.inl (hw _ (List.mem_of_getElem? (i := 104) rfl))) (by decide) (t := .int) (t' := (.array .byte)) (by decide) (by decide)))) (Or.inr (slot_ne (Or.inl (hw _ (List.mem_of_getElem? (i := 128) rfl))) (Or.inl (hw _ (List.mem_of_getElem? (i := 106) rfl))) (by decide) (t := .int) (t' := .byte) (by decide) (by decide))))
  have f121 := (OG.BA.other (OG.BA.other Y104 W110 (Ne.symm ne105)) W115 (Ne.symm ne105))
  have f122 := (Exa.wr W115 (Exa.wr W110 A104))
  rw [e115]
  exact ⟨b104, rfl, N117, (Keep.wr (Keep.wr (Keep.ext (Keep.refl h0 [a1]) E104) W110 (Or.inl (by simp))) W115 (Or.inl (by simp))), f118, f119, f116, f120, f121, f122, sz107⟩
theorem own_d_sb_init_0 : decode jdk_67_method_1_code 0 = .ok (.aload_n 0, 1) := by decide +kernel
theorem own_d_sb_init_1 : decode jdk_67_method_1_code 1 = .ok (.bipush 16, 2) := by decide +kernel
theorem own_d_sb_init_3 : decode jdk_67_method_1_code 3 = .ok (.invokespecial 1, 3) := by decide +kernel
theorem own_d_sb_init_6 : decode jdk_67_method_1_code 6 = .ok (.return_, 1) := by decide +kernel
theorem own_pn_sb_init : plainName "java/lang/StringBuilder" = true := by first | (simp [plainName, overriddenIn]; done) | decide +kernel
theorem own_ef_sb_init (m : MethodId) (x0 : Addr)  : entryFrame m #[(.ref x0)] 1 = mkF m 0 #[.val (.ref x0)] [] := by first | (simp [entryFrame, mkF, argsToLocals, Value.category]; done) | rfl
def own_Q_sb_init (Z : State) (a1 : Addr) (zc : Int32) (h0 : Heap) (n0 : Nat) (v : Option Value) (h : Heap) (L : List Loc) : Prop := ∃ t, v = none ∧ Fr n0 L ∧ Keep h0 h [a1] ∧ (Exa Z h a1 "java/lang/StringBuilder") ∧ (Fld Z h a1 "java/lang/AbstractStringBuilder" "value" "[B" (.ref t)) ∧ (Fld Z h a1 "java/lang/AbstractStringBuilder" "coder" "B" (.int (0 : Int32))) ∧ (Fld Z h a1 "java/lang/AbstractStringBuilder" "count" "I" (.int (Int32.ofNat 0))) ∧ (OG.BA Z h t (List.replicate 16 0)) ∧ (Exa Z h t "[B") ∧ h0.size ≤ t
set_option maxRecDepth 65536 in
set_option maxHeartbeats 40000000 in
theorem own_rm_sb_init (l : Launch) (Z : State) (a0 : Array Value) (hw : ∀ d ∈ tables_1, d.before a0 Z = true) (ws : List Jvm.Cond) (a1 : Addr) (zc : Int32) (h0 : Heap) (n0 : Nat) (Z0 : n0 ≤ h0.size) (O1 : Old Z n0 h0) (S_cs : Sta Z Z.heap "java/lang/String" "COMPACT_STRINGS" "Z" (.int zc)) (hzc : ¬ zc = (0 : Int32)) (E1 : Exa Z h0 a1 "java/lang/StringBuilder") (Bv1 : Fld Z h0 a1 "java/lang/AbstractStringBuilder" "value" "[B" .null) (Bc1 : Fld Z h0 a1 "java/lang/AbstractStringBuilder" "coder" "B" (.int (0 : Int32))) (Bn1 : Fld Z h0 a1 "java/lang/AbstractStringBuilder" "count" "I" (.int (0 : Int32))) (g1 : n0 ≤ a1) :
    MetFree l (⟨"java/lang/StringBuilder", "<init>", "()V"⟩ : MethodName) (head1 (Jvm.Cond.code (⟨"java/lang/StringBuilder", "<init>", "()V"⟩ : MethodName) jdk_67_method_1_code 1 none :: ws) ({ frames := 2, cells := 1, slots := 16, locals := 25 } : Room)) (fun a U => a = #[(.ref a1)] ∧ Z.Warmed39 U.vm ∧ U.heap = h0) (fun _ _ _ _ _ => True) (fun _ U o U' => ∃ v L, o = .returned v ∧ own_Q_sb_init Z a1 zc h0 n0 v U'.heap L ∧ FrameEnd U o U' L ({ frames := 2, cells := 1, slots := 16, locals := 25 } : Room).cells ({ frames := 2, cells := 1, slots := 16, locals := 25 } : Room).slots) := by
  refine MetFree.of_bodySF (plainFor_of_name own_pn_sb_init) hisR ?_
  intro p e s m args below meth c s₁ Bd hml0 hP hK
  obtain ⟨rfl, hZ, hh⟩ := hP
  have hx := Bd.exec
  have hby := Bd.bytes
  have hml : c.maxLocals = 1 := hml0
  have hown : s.vm.findClass "java/lang/StringBuilder" = some m.cls := findClass_of_methodNamed Bd.named
  have hnm := (name_of_methodNamed Bd.named Bd.method).1
  have X0 : Stand p l e ({ frames := 2, cells := 1, slots := 16, locals := 25 } : Room) s m #[(.ref a1)] below meth c s₁ [] 0 0 := Stand.of_body Bd
  have e0 : s₁.heap = h0 := by rw [← hh, Bd.state]; rfl
  have N0 := Fr.nil n0
  show OG.Go p.tables e below (OG.GP (own_Q_sb_init Z a1 zc h0 n0) ({ frames := 2, cells := 1, slots := 16, locals := 25 } : Room).cells ({ frames := 2, cells := 1, slots := 16, locals := 25 } : Room).slots s) (s₁.setTop (entryFrame m #[(.ref a1)] 1))
  refine OG.Go.cast (own_ef_sb_init m a1) ?_
  refine OG.aloadN X0 hx hby own_d_sb_init_0 rfl rfl rfl ?_
  refine OG.bipush (v := (16 : Int32)) X0 hx hby own_d_sb_init_1 (by decide) rfl ?_
  refine OG.cN X0 hx hZ hby (by rw [hml]; rfl) hown (y := (⟨"java/lang/AbstractStringBuilder", "<init>", "(I)V"⟩ : MethodName)) rfl rfl (hw _ (List.mem_of_getElem? (i := 95) rfl)) (hw _ (List.mem_of_getElem? (i := 96) rfl)) (hw _ (List.mem_of_getElem? (i := 100) rfl)) (hw _ (List.mem_of_getElem? (i := 99) rfl)) (by decide) (own_rm_asb_init l Z a0 hw [] a1 zc h0 n0 Z0 O1 S_cs hzc E1 Bv1 Bc1 Bn1 g1) e0 (argsL := [(.int (16 : Int32))]) (stk := [(.int (16 : Int32)), (.ref a1)]) (st := []) own_pd_5 rfl rfl rfl (W := 0) rfl (by decide) (by decide) (by decide) (by decide) own_d_sb_init_3 rfl ?_
  intro T101 L101 v101 X101 q101
  obtain ⟨ta101, rfl, N101, K101, E_101, Bv_101, Bc_101, Bn_101, Y_101, Et_101, sz101⟩ := q101
  have ne102 : a1 ≠ ta101 := Nat.ne_of_lt (Nat.lt_of_lt_of_le (Exa.lt E1) sz101)
  have gn103 : n0 ≤ ta101 := Nat.le_trans Z0 sz101
  have sz104 : h0.size ≤ ta101 := Nat.le_trans (Nat.le_refl _) sz101
  have M101 := Fr.app N0 N101
  show OG.Go _ _ _ _ (T101.setTop (mkF m 6 #[.val (.ref a1)] []))
  refine OG.retV X101 hx hby Bd.returns own_d_sb_init_6 Bd.notSynchronized (by decide) (by decide) ?_
  exact ⟨ta101, rfl, M101, (Keep.trans (Keep.refl h0 [a1]) K101 (allS (Or.inl (by simp)) all0)), E_101, Bv_101, Bc_101, Bn_101, Y_101, Et_101, sz104⟩
theorem own_d_asb_lat_0 : decode jdk_68_method_68_code 0 = .ok (.getstatic 18, 3) := by decide +kernel
theorem own_d_asb_lat_3 : decode jdk_68_method_68_code 3 = .ok (.ifCond .eq 14, 3) := by decide +kernel
theorem own_d_asb_lat_6 : decode jdk_68_method_68_code 6 = .ok (.aload_n 0, 1) := by decide +kernel
theorem own_d_asb_lat_7 : decode jdk_68_method_68_code 7 = .ok (.getfield 22, 3) := by decide +kernel
theorem own_d_asb_lat_10 : decode jdk_68_method_68_code 10 = .ok (.ifCond .ne 7, 3) := by decide +kernel
theorem own_d_asb_lat_13 : decode jdk_68_method_68_code 13 = .ok (.iconst 1, 1) := by decide +kernel
theorem own_d_asb_lat_14 : decode jdk_68_method_68_code 14 = .ok (.goto 4, 3) := by decide +kernel
theorem own_d_asb_lat_18 : decode jdk_68_method_68_code 18 = .ok (.ireturn, 1) := by decide +kernel
theorem own_pn_asb_lat : plainName "java/lang/AbstractStringBuilder" = true := by first | (simp [plainName, overriddenIn]; done) | decide +kernel
theorem own_ef_asb_lat (m : MethodId) (x0 : Addr)  : entryFrame m #[(.ref x0)] 1 = mkF m 0 #[.val (.ref x0)] [] := by first | (simp [entryFrame, mkF, argsToLocals, Value.category]; done) | rfl
def own_Q_asb_lat (Z : State) (a1 : Addr) (zc : Int32) (h0 : Heap) (n0 : Nat) (v : Option Value) (h : Heap) (L : List Loc) : Prop := v = some (.int (1 : Int32)) ∧ Fr n0 L ∧ h = h0
set_option maxRecDepth 65536 in
set_option maxHeartbeats 40000000 in
theorem own_rm_asb_lat (l : Launch) (Z : State) (a0 : Array Value) (hw : ∀ d ∈ tables_1, d.before a0 Z = true) (ws : List Jvm.Cond) (a1 : Addr) (zc : Int32) (h0 : Heap) (n0 : Nat) (Z0 : n0 ≤ h0.size) (O1 : Old Z n0 h0) (S_cs : Sta Z Z.heap "java/lang/String" "COMPACT_STRINGS" "Z" (.int zc)) (hzc : ¬ zc = (0 : Int32)) (F1 : Fld Z h0 a1 "java/lang/AbstractStringBuilder" "coder" "B" (.int (0 : Int32))) :
    MetFree l (⟨"java/lang/AbstractStringBuilder", "isLatin1", "()Z"⟩ : MethodName) (head1 (Jvm.Cond.code (⟨"java/lang/AbstractStringBuilder", "isLatin1", "()Z"⟩ : MethodName) jdk_68_method_68_code 1 (some .boolean) :: ws) ({ frames := 0, cells := 0, slots := 0, locals := 0 } : Room)) (fun a U => a = #[(.ref a1)] ∧ Z.Warmed39 U.vm ∧ U.heap = h0) (fun _ _ _ _ _ => True) (fun _ U o U' => ∃ v L, o = .returned v ∧ own_Q_asb_lat Z a1 zc h0 n0 v U'.heap L ∧ FrameEnd U o U' L ({ frames := 0, cells := 0, slots := 0, locals := 0 } : Room).cells ({ frames := 0, cells := 0, slots := 0, locals := 0 } : Room).slots) := by
  refine MetFree.of_bodySF (plainFor_of_name own_pn_asb_lat) hisR ?_
  intro p e s m args below meth c s₁ Bd hml0 hP hK
  obtain ⟨rfl, hZ, hh⟩ := hP
  have hx := Bd.exec
  have hby := Bd.bytes
  have hml : c.maxLocals = 1 := hml0
  have hown : s.vm.findClass "java/lang/AbstractStringBuilder" = some m.cls := findClass_of_methodNamed Bd.named
  have hnm := (name_of_methodNamed Bd.named Bd.method).1
  have X0 : Stand p l e ({ frames := 0, cells := 0, slots := 0, locals := 0 } : Room) s m #[(.ref a1)] below meth c s₁ [] 0 0 := Stand.of_body Bd
  have e0 : s₁.heap = h0 := by rw [← hh, Bd.state]; rfl
  have N0 := Fr.nil n0
  show OG.Go p.tables e below (OG.GP (own_Q_asb_lat Z a1 zc h0 n0) ({ frames := 0, cells := 0, slots := 0, locals := 0 } : Room).cells ({ frames := 0, cells := 0, slots := 0, locals := 0 } : Room).slots s) (s₁.setTop (entryFrame m #[(.ref a1)] 1))
  refine OG.Go.cast (own_ef_asb_lat m a1) ?_
  have f102 := Sta.ext O1.2 S_cs
  refine OG.gS X0 hx hZ hby hown (hw _ (List.mem_of_getElem? (i := 102) rfl)) Via.refl e0 f102 own_d_asb_lat_0 rfl ?_
  intro T101 X101 e101
  refine OG.ifNo X101 hx hby own_d_asb_lat_3 (feq hzc).1 rfl ?_
  refine OG.aloadN X101 hx hby own_d_asb_lat_6 rfl rfl rfl ?_
  refine OG.gF X101 hx hZ hby hown (hw _ (List.mem_of_getElem? (i := 105) rfl)) Via.refl e101 F1 own_d_asb_lat_7 rfl ?_
  intro T103 X103 e103
  refine OG.ifNo X103 hx hby own_d_asb_lat_10 (teq (by decide)).2 rfl ?_
  refine OG.iconst (v := (1 : Int32)) X103 hx hby own_d_asb_lat_13 (by decide) rfl ?_
  refine OG.goto (pc' := 18) X103 hx hby own_d_asb_lat_14 (by decide) (by decide) ?_
  refine OG.retZ X103 hx hby Bd.returns (by simp) own_d_asb_lat_18 Bd.notSynchronized (by decide) (by decide) ?_
  exact ⟨rfl, N0, e103⟩
theorem own_d_ensure_0 : decode jdk_68_method_9_code 0 = .ok (.aload_n 0, 1) := by decide +kernel
theorem own_d_ensure_1 : decode jdk_68_method_9_code 1 = .ok (.getfield 15, 3) := by decide +kernel
theorem own_d_ensure_4 : decode jdk_68_method_9_code 4 = .ok (.arraylength, 1) := by decide +kernel
theorem own_d_ensure_5 : decode jdk_68_method_9_code 5 = .ok (.aload_n 0, 1) := by decide +kernel
theorem own_d_ensure_6 : decode jdk_68_method_9_code 6 = .ok (.getfield 22, 3) := by decide +kernel
theorem own_d_ensure_9 : decode jdk_68_method_9_code 9 = .ok (.ishr, 1) := by decide +kernel
theorem own_d_ensure_10 : decode jdk_68_method_9_code 10 = .ok (.istore_n 2, 1) := by decide +kernel
theorem own_d_ensure_11 : decode jdk_68_method_9_code 11 = .ok (.iload_n 1, 1) := by decide +kernel
theorem own_d_ensure_12 : decode jdk_68_method_9_code 12 = .ok (.iload_n 2, 1) := by decide +kernel
theorem own_d_ensure_13 : decode jdk_68_method_9_code 13 = .ok (.isub, 1) := by decide +kernel
theorem own_d_ensure_14 : decode jdk_68_method_9_code 14 = .ok (.ifCond .le 24, 3) := by decide +kernel
theorem own_d_ensure_38 : decode jdk_68_method_9_code 38 = .ok (.return_, 1) := by decide +kernel
theorem own_pn_ensure : plainName "java/lang/AbstractStringBuilder" = true := by first | (simp [plainName, overriddenIn]; done) | decide +kernel
theorem own_ef_ensure (m : MethodId) (x0 : Addr) (x1 : Int32)  : entryFrame m #[(.ref x0), (.int x1)] 3 = mkF m 0 #[.val (.ref x0), .val (.int x1), .unset] [] := by first | (simp [entryFrame, mkF, argsToLocals, Value.category]; done) | rfl
def own_Q_ensure (Z : State) (a1 : Addr) (t1 : Addr) (bs : List Int32) (n : Nat) (mn : Nat) (h0 : Heap) (n0 : Nat) (v : Option Value) (h : Heap) (L : List Loc) : Prop := ∃ t bs', v = none ∧ Fr n0 L ∧ Keep h0 h [a1] ∧ (Exa Z h a1 "java/lang/StringBuilder") ∧ (Fld Z h a1 "java/lang/AbstractStringBuilder" "value" "[B" (.ref t)) ∧ (Fld Z h a1 "java/lang/AbstractStringBuilder" "coder" "B" (.int (0 : Int32))) ∧ (Fld Z h a1 "java/lang/AbstractStringBuilder" "count" "I" (.int (Int32.ofNat n))) ∧ (OG.BA Z h t bs') ∧ (Exa Z h t "[B") ∧ (bs'.length = 16 ∨ bs'.length = 34) ∧ mn ≤ bs'.length ∧ bs'.take n = bs.take n ∧ (t = t1 ∨ h0.size ≤ t) ∧ (mn ≤ bs.length → t = t1 ∧ bs' = bs)
set_option maxRecDepth 65536 in
set_option maxHeartbeats 40000000 in
theorem own_rm_ensure (l : Launch) (Z : State) (a0 : Array Value) (hw : ∀ d ∈ tables_1, d.before a0 Z = true) (ws : List Jvm.Cond) (a1 : Addr) (t1 : Addr) (bs : List Int32) (n : Nat) (mn : Nat) (h0 : Heap) (n0 : Nat) (Z0 : n0 ≤ h0.size) (E1 : Exa Z h0 a1 "java/lang/StringBuilder") (Bv1 : Fld Z h0 a1 "java/lang/AbstractStringBuilder" "value" "[B" (.ref t1)) (Bc1 : Fld Z h0 a1 "java/lang/AbstractStringBuilder" "coder" "B" (.int (0 : Int32))) (Bn1 : Fld Z h0 a1 "java/lang/AbstractStringBuilder" "count" "I" (.int (Int32.ofNat n))) (Y1 : OG.BA Z h0 t1 bs) (Et1 : Exa Z h0 t1 "[B") (hcap : (bs.length = 16 ∨ bs.length = 34)) (hmn : mn ≤ 34) (hn : n ≤ bs.length) (g1 : n0 ≤ a1) (hmb : mn ≤ bs.length) :
    MetFree l (⟨"java/lang/AbstractStringBuilder", "ensureCapacityInternal", "(I)V"⟩ : MethodName) (head1 (Jvm.Cond.code (⟨"java/lang/AbstractStringBuilder", "ensureCapacityInternal", "(I)V"⟩ : MethodName) jdk_68_method_9_code 3 none :: ws) ({ frames := 0, cells := 0, slots := 0, locals := 0 } : Room)) (fun a U => a = #[(.ref a1), (.int (Int32.ofNat mn))] ∧ Z.Warmed39 U.vm ∧ U.heap = h0) (fun _ _ _ _ _ => True) (fun _ U o U' => ∃ v L, o = .returned v ∧ own_Q_ensure Z a1 t1 bs n mn h0 n0 v U'.heap L ∧ FrameEnd U o U' L ({ frames := 0, cells := 0, slots := 0, locals := 0 } : Room).cells ({ frames := 0, cells := 0, slots := 0, locals := 0 } : Room).slots) := by
  refine MetFree.of_bodySF (plainFor_of_name own_pn_ensure) hisR ?_
  intro p e s m args below meth c s₁ Bd hml0 hP hK
  obtain ⟨rfl, hZ, hh⟩ := hP
  have hx := Bd.exec
  have hby := Bd.bytes
  have hml : c.maxLocals = 3 := hml0
  have hown : s.vm.findClass "java/lang/AbstractStringBuilder" = some m.cls := findClass_of_methodNamed Bd.named
  have hnm := (name_of_methodNamed Bd.named Bd.method).1
  have X0 : Stand p l e ({ frames := 0, cells := 0, slots := 0, locals := 0 } : Room) s m #[(.ref a1), (.int (Int32.ofNat mn))] below meth c s₁ [] 0 0 := Stand.of_body Bd
  have e0 : s₁.heap = h0 := by rw [← hh, Bd.state]; rfl
  have N0 := Fr.nil n0
  show OG.Go p.tables e below (OG.GP (own_Q_ensure Z a1 t1 bs n mn h0 n0) ({ frames := 0, cells := 0, slots := 0, locals := 0 } : Room).cells ({ frames := 0, cells := 0, slots := 0, locals := 0 } : Room).slots s) (s₁.setTop (entryFrame m #[(.ref a1), (.int (Int32.ofNat mn))] 3))
  refine OG.Go.cast (own_ef_ensure m a1 (Int32.ofNat mn)) ?_
  have hat : a1 ≠ t1 := ne_exa E1 Et1 (by decide)
  have hl : bs.length < 2147483648 := Y1.1
  refine OG.aloadN X0 hx hby own_d_ensure_0 rfl rfl rfl ?_
  refine OG.gF X0 hx hZ hby hown (hw _ (List.mem_of_getElem? (i := 103) rfl)) Via.refl e0 Bv1 own_d_ensure_1 rfl ?_
  intro T101 X101 e101
  refine OG.yL X101 hx hZ hby e101 Y1 own_d_ensure_4 rfl ?_
  refine OG.aloadN X101 hx hby own_d_ensure_5 rfl rfl rfl ?_
  refine OG.gF X101 hx hZ hby hown (hw _ (List.mem_of_getElem? (i := 105) rfl)) Via.refl e101 Bc1 own_d_ensure_6 rfl ?_
  intro T102 X102 e102
  refine OG.ishr X102 hx hby own_d_ensure_9 rfl ?_
  rw [OG.shr0]
  refine OG.istoreN (Ls' := #[.val (.ref a1), .val (.int (Int32.ofNat mn)), .val (.int (Int32.ofNat bs.length))]) X102 hx hby own_d_ensure_10 rfl rfl ?_
  refine OG.iloadN X102 hx hby own_d_ensure_11 rfl rfl ?_
  refine OG.iloadN X102 hx hby own_d_ensure_12 rfl rfl ?_
  refine OG.isub X102 hx hby own_d_ensure_13 rfl ?_
  by_cases hc14_103 : (0 : Int32) < ((Int32.ofNat mn) - (Int32.ofNat bs.length))
  · exact absurd ((OG.sub_pos (Nat.lt_of_le_of_lt hmn (by decide)) hl).mp hc14_103) (Nat.not_lt.mpr hmb)
  · refine OG.ifYes (pc' := 38) X102 hx hby own_d_ensure_14 (flt hc14_103).2.2.2 (by decide) (by decide) ?_
    refine OG.retV X102 hx hby Bd.returns own_d_ensure_38 Bd.notSynchronized (by decide) (by decide) ?_
    have h0n := fun q => hc14_103 ((OG.sub_pos (Nat.lt_of_le_of_lt hmn (by decide)) hl).mpr q)
    rw [e102]
    exact ⟨t1, bs, rfl, N0, (Keep.refl h0 [a1]), E1, Bv1, Bc1, Bn1, Y1, Et1, hcap, Nat.not_lt.mp h0n, rfl, Or.inl rfl, fun _ => ⟨rfl, rfl⟩⟩
theorem own_d_getbytes_0 : decode jdk_42_method_147_code 0 = .ok (.aload_n 0, 1) := by decide +kernel
theorem own_d_getbytes_1 : decode jdk_42_method_147_code 1 = .ok (.invokevirtual 335, 3) := by decide +kernel
theorem own_d_getbytes_4 : decode jdk_42_method_147_code 4 = .ok (.iload_n 3, 1) := by decide +kernel
theorem own_d_getbytes_5 : decode jdk_42_method_147_code 5 = .ok (.if_icmp .ne 23, 3) := by decide +kernel
theorem own_d_getbytes_8 : decode jdk_42_method_147_code 8 = .ok (.aload_n 0, 1) := by decide +kernel
theorem own_d_getbytes_9 : decode jdk_42_method_147_code 9 = .ok (.getfield 9, 3) := by decide +kernel
theorem own_d_getbytes_12 : decode jdk_42_method_147_code 12 = .ok (.iconst 0, 1) := by decide +kernel
theorem own_d_getbytes_13 : decode jdk_42_method_147_code 13 = .ok (.aload_n 1, 1) := by decide +kernel
theorem own_d_getbytes_14 : decode jdk_42_method_147_code 14 = .ok (.iload_n 2, 1) := by decide +kernel
theorem own_d_getbytes_15 : decode jdk_42_method_147_code 15 = .ok (.iload_n 3, 1) := by decide +kernel
theorem own_d_getbytes_16 : decode jdk_42_method_147_code 16 = .ok (.ishl, 1) := by decide +kernel
theorem own_d_getbytes_17 : decode jdk_42_method_147_code 17 = .ok (.aload_n 0, 1) := by decide +kernel
theorem own_d_getbytes_18 : decode jdk_42_method_147_code 18 = .ok (.getfield 9, 3) := by decide +kernel
theorem own_d_getbytes_21 : decode jdk_42_method_147_code 21 = .ok (.arraylength, 1) := by decide +kernel
theorem own_d_getbytes_22 : decode jdk_42_method_147_code 22 = .ok (.invokestatic 212, 3) := by decide +kernel
theorem own_d_getbytes_25 : decode jdk_42_method_147_code 25 = .ok (.goto 18, 3) := by decide +kernel
theorem own_d_getbytes_43 : decode jdk_42_method_147_code 43 = .ok (.return_, 1) := by decide +kernel
theorem own_pn_getbytes : plainName "java/lang/String" = true := by first | (simp [plainName, overriddenIn]; done) | decide +kernel
theorem own_ef_getbytes (m : MethodId) (x0 : Addr) (x1 : Addr) (x2 : Int32) (x3 : Int32)  : entryFrame m #[(.ref x0), (.ref x1), (.int x2), (.int x3)] 4 = mkF m 0 #[.val (.ref x0), .val (.ref x1), .val (.int x2), .val (.int x3)] [] := by first | (simp [entryFrame, mkF, argsToLocals, Value.category]; done) | rfl
def own_Q_getbytes (Z : State) (a1 : Addr) (t1 : Addr) (cs : List Int32) (a2 : Addr) (bs : List Int32) (d : Nat) (zc : Int32) (h0 : Heap) (n0 : Nat) (v : Option Value) (h : Heap) (L : List Loc) : Prop := v = none ∧ Fr n0 L ∧ Keep h0 h [a2] ∧ OG.BA Z h a2 (bs.take d ++ cs ++ bs.drop (d + cs.length))
set_option maxRecDepth 65536 in
set_option maxHeartbeats 40000000 in
theorem own_rm_getbytes (l : Launch) (Z : State) (a0 : Array Value) (hw : ∀ d ∈ tables_1, d.before a0 Z = true) (ws : List Jvm.Cond) (a1 : Addr) (t1 : Addr) (cs : List Int32) (a2 : Addr) (bs : List Int32) (d : Nat) (zc : Int32) (h0 : Heap) (n0 : Nat) (Z0 : n0 ≤ h0.size) (O1 : Old Z n0 h0) (S_cs : Sta Z Z.heap "java/lang/String" "COMPACT_STRINGS" "Z" (.int zc)) (hzc : ¬ zc = (0 : Int32)) (E1 : Exa Z h0 a1 "java/lang/String") (Fc1 : Fld Z h0 a1 "java/lang/String" "coder" "B" (.int (0 : Int32))) (Fv1 : Fld Z h0 a1 "java/lang/String" "value" "[B" (.ref t1)) (Y1 : OG.BA Z h0 t1 cs) (Y2 : OG.BA Z h0 a2 bs) (hd : d + cs.length ≤ bs.length) (g2 : n0 ≤ a2) :
    MetFree l (⟨"java/lang/String", "getBytes", "([BIB)V"⟩ : MethodName) (head1 (Jvm.Cond.code (⟨"java/lang/String", "getBytes", "([BIB)V"⟩ : MethodName) jdk_42_method_147_code 4 none :: ws) ({ frames := 1, cells := 0, slots := 0, locals := 18 } : Room)) (fun a U => a = #[(.ref a1), (.ref a2), (.int (Int32.ofNat d)), (.int (0 : Int32))] ∧ Z.Warmed39 U.vm ∧ U.heap = h0) (fun _ _ _ _ _ => True) (fun _ U o U' => ∃ v L, o = .returned v ∧ own_Q_getbytes Z a1 t1 cs a2 bs d zc h0 n0 v U'.heap L ∧ FrameEnd U o U' L ({ frames := 1, cells := 0, slots := 0, locals := 18 } : Room).cells ({ frames := 1, cells := 0, slots := 0, locals := 18 } : Room).slots) := by
  refine MetFree.of_bodySF (plainFor_of_name own_pn_getbytes) hisR ?_
  intro p e s m args below meth c s₁ Bd hml0 hP hK
  obtain ⟨rfl, hZ, hh⟩ := hP
  have hx := Bd.exec
  have hby := Bd.bytes
  have hml : c.maxLocals = 4 := hml0
  have hown : s.vm.findClass "java/lang/String" = some m.cls := findClass_of_methodNamed Bd.named
  have hnm := (name_of_methodNamed Bd.named Bd.method).1
  have X0 : Stand p l e ({ frames := 1, cells := 0, slots := 0, locals := 18 } : Room) s m #[(.ref a1), (.ref a2), (.int (Int32.ofNat d)), (.int (0 : Int32))] below meth c s₁ [] 0 0 := Stand.of_body Bd
  have e0 : s₁.heap = h0 := by rw [← hh, Bd.state]; rfl
  have N0 := Fr.nil n0
  show OG.Go p.tables e below (OG.GP (own_Q_getbytes Z a1 t1 cs a2 bs d zc h0 n0) ({ frames := 1, cells := 0, slots := 0, locals := 18 } : Room).cells ({ frames := 1, cells := 0, slots := 0, locals := 18 } : Room).slots s) (s₁.setTop (entryFrame m #[(.ref a1), (.ref a2), (.int (Int32.ofNat d)), (.int (0 : Int32))] 4))
  refine OG.Go.cast (own_ef_getbytes m a1 a2 (Int32.ofNat d) (0 : Int32)) ?_
  refine OG.aloadN X0 hx hby own_d_getbytes_0 rfl rfl rfl ?_
  refine OG.cV X0 hx hZ hby (by rw [hml]; rfl) hown (y := (⟨"java/lang/String", "coder", "()B"⟩ : MethodName)) (z := (⟨"java/lang/String", "coder", "()B"⟩ : MethodName)) (hw _ (List.mem_of_getElem? (i := 122) rfl)) (hw _ (List.mem_of_getElem? (i := 123) rfl)) (notFace_of_selects (args := #[]) (mvT hZ (hw _ (List.mem_of_getElem? (i := 125) rfl)))) (hw _ (List.mem_of_getElem? (i := 125) rfl)) (hw _ (List.mem_of_getElem? (i := 124) rfl)) (hw _ (List.mem_of_getElem? (i := 126) rfl)) (hw _ (List.mem_of_getElem? (i := 6) rfl)) (by decide) (own_rm_s_coder l Z a0 hw [] a1 zc h0 n0 Z0 O1 S_cs hzc Fc1) E1 e0 (argsL := []) (stk := [(.ref a1)]) (st := []) own_pd_0 rfl rfl rfl (W := 0) rfl (by decide) (by decide) (by decide) (by decide) own_d_getbytes_1 rfl ?_
  intro T101 L101 v101 X101 q101
  obtain ⟨rfl, N101, e101⟩ := q101
  have M101 := Fr.app N0 N101
  show OG.Go _ _ _ _ (T101.setTop (mkF m 4 #[.val (.ref a1), .val (.ref a2), .val (.int (Int32.ofNat d)), .val (.int (0 : Int32))] [(.int (0 : Int32))]))
  refine OG.iloadN X101 hx hby own_d_getbytes_4 rfl rfl ?_
  refine OG.icmpNo X101 hx hby own_d_getbytes_5 (teq (by decide)).2 rfl ?_
  refine OG.aloadN X101 hx hby own_d_getbytes_8 rfl rfl rfl ?_
  refine OG.gF X101 hx hZ hby hown (hw _ (List.mem_of_getElem? (i := 26) rfl)) Via.refl e101 Fv1 own_d_getbytes_9 rfl ?_
  intro T102 X102 e102
  refine OG.iconst (v := (0 : Int32)) X102 hx hby own_d_getbytes_12 (by decide) rfl ?_
  refine OG.aloadN X102 hx hby own_d_getbytes_13 rfl rfl rfl ?_
  refine OG.iloadN X102 hx hby own_d_getbytes_14 rfl rfl ?_
  refine OG.iloadN X102 hx hby own_d_getbytes_15 rfl rfl ?_
  refine OG.ishl X102 hx hby own_d_getbytes_16 rfl ?_
  rw [OG.shl0]
  refine OG.aloadN X102 hx hby own_d_getbytes_17 rfl rfl rfl ?_
  refine OG.gF X102 hx hZ hby hown (hw _ (List.mem_of_getElem? (i := 26) rfl)) Via.refl e102 Fv1 own_d_getbytes_18 rfl ?_
  intro T103 X103 e103
  refine OG.yL X103 hx hZ hby e103 Y1 own_d_getbytes_21 rfl ?_
  refine OG.yC X103 hx hZ hby hown (by rw [hml]; rfl) (hw _ (List.mem_of_getElem? (i := 150) rfl)) (hw _ (List.mem_of_getElem? (i := 153) rfl)) (hw _ (List.mem_of_getElem? (i := 151) rfl)) (hw _ (List.mem_of_getElem? (i := 152) rfl)) e103 Y1 Y2 (sn := 0) (dn := d) (kn := cs.length) rfl rfl rfl (by omega) hd M101 g2 (W := 0) rfl (by decide) (by decide) own_d_getbytes_22 rfl ?_
  intro T104 h104 L104 X104 e104 N104 K104 Y104
  refine OG.goto (pc' := 43) X104 hx hby own_d_getbytes_25 (by decide) (by decide) ?_
  refine OG.retV X104 hx hby Bd.returns own_d_getbytes_43 Bd.notSynchronized (by decide) (by decide) ?_
  rw [e104]
  rw [List.drop_zero, List.take_length] at Y104
  exact ⟨rfl, N104, (Keep.trans (Keep.refl h0 [a2]) K104 (allS (Or.inl (by simp)) all0)), Y104⟩
theorem own_d_inflate_0 : decode jdk_68_method_71_code 0 = .ok (.getstatic 18, 3) := by decide +kernel
theorem own_d_inflate_3 : decode jdk_68_method_71_code 3 = .ok (.ifCond .eq 18, 3) := by decide +kernel
theorem own_d_inflate_6 : decode jdk_68_method_71_code 6 = .ok (.aload_n 0, 1) := by decide +kernel
theorem own_d_inflate_7 : decode jdk_68_method_71_code 7 = .ok (.getfield 22, 3) := by decide +kernel
theorem own_d_inflate_10 : decode jdk_68_method_71_code 10 = .ok (.aload_n 1, 1) := by decide +kernel
theorem own_d_inflate_11 : decode jdk_68_method_71_code 11 = .ok (.invokevirtual 40, 3) := by decide +kernel
theorem own_d_inflate_14 : decode jdk_68_method_71_code 14 = .ok (.if_icmp .eq 7, 3) := by decide +kernel
theorem own_d_inflate_21 : decode jdk_68_method_71_code 21 = .ok (.return_, 1) := by decide +kernel
theorem own_pn_inflate : plainName "java/lang/AbstractStringBuilder" = true := by first | (simp [plainName, overriddenIn]; done) | decide +kernel
theorem own_ef_inflate (m : MethodId) (x0 : Addr) (x1 : Addr)  : entryFrame m #[(.ref x0), (.ref x1)] 2 = mkF m 0 #[.val (.ref x0), .val (.ref x1)] [] := by first | (simp [entryFrame, mkF, argsToLocals, Value.category]; done) | rfl
def own_Q_inflate (Z : State) (a1 : Addr) (a2 : Addr) (zc : Int32) (h0 : Heap) (n0 : Nat) (v : Option Value) (h : Heap) (L : List Loc) : Prop := v = none ∧ Fr n0 L ∧ h = h0
set_option maxRecDepth 65536 in
set_option maxHeartbeats 40000000 in
theorem own_rm_inflate (l : Launch) (Z : State) (a0 : Array Value) (hw : ∀ d ∈ tables_1, d.before a0 Z = true) (ws : List Jvm.Cond) (a1 : Addr) (a2 : Addr) (zc : Int32) (h0 : Heap) (n0 : Nat) (Z0 : n0 ≤ h0.size) (O1 : Old Z n0 h0) (S_cs : Sta Z Z.heap "java/lang/String" "COMPACT_STRINGS" "Z" (.int zc)) (hzc : ¬ zc = (0 : Int32)) (E1 : Exa Z h0 a1 "java/lang/StringBuilder") (Bc1 : Fld Z h0 a1 "java/lang/AbstractStringBuilder" "coder" "B" (.int (0 : Int32))) (E2 : Exa Z h0 a2 "java/lang/String") (Fc2 : Fld Z h0 a2 "java/lang/String" "coder" "B" (.int (0 : Int32))) :
    MetFree l (⟨"java/lang/AbstractStringBuilder", "inflateIfNeededFor", "(Ljava/lang/String;)V"⟩ : MethodName) (head1 (Jvm.Cond.code (⟨"java/lang/AbstractStringBuilder", "inflateIfNeededFor", "(Ljava/lang/String;)V"⟩ : MethodName) jdk_68_method_71_code 2 none :: ws) ({ frames := 1, cells := 0, slots := 0, locals := 13 } : Room)) (fun a U => a = #[(.ref a1), (.ref a2)] ∧ Z.Warmed39 U.vm ∧ U.heap = h0) (fun _ _ _ _ _ => True) (fun _ U o U' => ∃ v L, o = .returned v ∧ own_Q_inflate Z a1 a2 zc h0 n0 v U'.heap L ∧ FrameEnd U o U' L ({ frames := 1, cells := 0, slots := 0, locals := 13 } : Room).cells ({ frames := 1, cells := 0, slots := 0, locals := 13 } : Room).slots) := by
  refine MetFree.of_bodySF (plainFor_of_name own_pn_inflate) hisR ?_
  intro p e s m args below meth c s₁ Bd hml0 hP hK
  obtain ⟨rfl, hZ, hh⟩ := hP
  have hx := Bd.exec
  have hby := Bd.bytes
  have hml : c.maxLocals = 2 := hml0
  have hown : s.vm.findClass "java/lang/AbstractStringBuilder" = some m.cls := findClass_of_methodNamed Bd.named
  have hnm := (name_of_methodNamed Bd.named Bd.method).1
  have X0 : Stand p l e ({ frames := 1, cells := 0, slots := 0, locals := 13 } : Room) s m #[(.ref a1), (.ref a2)] below meth c s₁ [] 0 0 := Stand.of_body Bd
  have e0 : s₁.heap = h0 := by rw [← hh, Bd.state]; rfl
  have N0 := Fr.nil n0
  show OG.Go p.tables e below (OG.GP (own_Q_inflate Z a1 a2 zc h0 n0) ({ frames := 1, cells := 0, slots := 0, locals := 13 } : Room).cells ({ frames := 1, cells := 0, slots := 0, locals := 13 } : Room).slots s) (s₁.setTop (entryFrame m #[(.ref a1), (.ref a2)] 2))
  refine OG.Go.cast (own_ef_inflate m a1 a2) ?_
  have f102 := Sta.ext O1.2 S_cs
  refine OG.gS X0 hx hZ hby hown (hw _ (List.mem_of_getElem? (i := 102) rfl)) Via.refl e0 f102 own_d_inflate_0 rfl ?_
  intro T101 X101 e101
  refine OG.ifNo X101 hx hby own_d_inflate_3 (feq hzc).1 rfl ?_
  refine OG.aloadN X101 hx hby own_d_inflate_6 rfl rfl rfl ?_
  refine OG.gF X101 hx hZ hby hown (hw _ (List.mem_of_getElem? (i := 105) rfl)) Via.refl e101 Bc1 own_d_inflate_7 rfl ?_
  intro T103 X103 e103
  refine OG.aloadN X103 hx hby own_d_inflate_10 rfl rfl rfl ?_
  refine OG.cV X103 hx hZ hby (by rw [hml]; rfl) hown (y := (⟨"java/lang/String", "coder", "()B"⟩ : MethodName)) (z := (⟨"java/lang/String", "coder", "()B"⟩ : MethodName)) (hw _ (List.mem_of_getElem? (i := 144) rfl)) (hw _ (List.mem_of_getElem? (i := 123) rfl)) (notFace_of_selects (args := #[]) (mvT hZ (hw _ (List.mem_of_getElem? (i := 125) rfl)))) (hw _ (List.mem_of_getElem? (i := 125) rfl)) (hw _ (List.mem_of_getElem? (i := 124) rfl)) (hw _ (List.mem_of_getElem? (i := 126) rfl)) (hw _ (List.mem_of_getElem? (i := 6) rfl)) (by decide) (own_rm_s_coder l Z a0 hw [] a2 zc h0 n0 Z0 O1 S_cs hzc Fc2) E2 e103 (argsL := []) (stk := [(.ref a2), (.int (0 : Int32))]) (st := [(.int (0 : Int32))]) own_pd_0 rfl rfl rfl (W := 1) rfl (by decide) (by decide) (by decide) (by decide) own_d_inflate_11 rfl ?_
  intro T104 L104 v104 X104 q104
  obtain ⟨rfl, N104, e104⟩ := q104
  have M104 := Fr.app N0 N104
  show OG.Go _ _ _ _ (T104.setTop (mkF m 14 #[.val (.ref a1), .val (.ref a2)] [(.int (0 : Int32)), (.int (0 : Int32))]))
  refine OG.icmpYes (pc' := 21) X104 hx hby own_d_inflate_14 (teq (by decide)).1 (by decide) (by decide) ?_
  refine OG.retV X104 hx hby Bd.returns own_d_inflate_21 Bd.notSynchronized (by decide) (by decide) ?_
  exact ⟨rfl, M104, e104⟩
theorem own_d_putstr_0 : decode jdk_68_method_73_code 0 = .ok (.aload_n 0, 1) := by decide +kernel
theorem own_d_putstr_1 : decode jdk_68_method_73_code 1 = .ok (.aload_n 2, 1) := by decide +kernel
theorem own_d_putstr_2 : decode jdk_68_method_73_code 2 = .ok (.invokevirtual 397, 3) := by decide +kernel
theorem own_d_putstr_5 : decode jdk_68_method_73_code 5 = .ok (.aload_n 2, 1) := by decide +kernel
theorem own_d_putstr_6 : decode jdk_68_method_73_code 6 = .ok (.aload_n 0, 1) := by decide +kernel
theorem own_d_putstr_7 : decode jdk_68_method_73_code 7 = .ok (.getfield 15, 3) := by decide +kernel
theorem own_d_putstr_10 : decode jdk_68_method_73_code 10 = .ok (.iload_n 1, 1) := by decide +kernel
theorem own_d_putstr_11 : decode jdk_68_method_73_code 11 = .ok (.aload_n 0, 1) := by decide +kernel
theorem own_d_putstr_12 : decode jdk_68_method_73_code 12 = .ok (.getfield 22, 3) := by decide +kernel
theorem own_d_putstr_15 : decode jdk_68_method_73_code 15 = .ok (.invokevirtual 399, 3) := by decide +kernel
theorem own_d_putstr_18 : decode jdk_68_method_73_code 18 = .ok (.return_, 1) := by decide +kernel
theorem own_pn_putstr : plainName "java/lang/AbstractStringBuilder" = true := by first | (simp [plainName, overriddenIn]; done) | decide +kernel
theorem own_ef_putstr (m : MethodId) (x0 : Addr) (x1 : Int32) (x2 : Addr)  : entryFrame m #[(.ref x0), (.int x1), (.ref x2)] 3 = mkF m 0 #[.val (.ref x0), .val (.int x1), .val (.ref x2)] [] := by first | (simp [entryFrame, mkF, argsToLocals, Value.category]; done) | rfl
def own_Q_putstr (Z : State) (a1 : Addr) (t1 : Addr) (bs : List Int32) (n : Nat) (a2 : Addr) (t2 : Addr) (cs : List Int32) (d : Nat) (zc : Int32) (h0 : Heap) (n0 : Nat) (v : Option Value) (h : Heap) (L : List Loc) : Prop := v = none ∧ Fr n0 L ∧ Keep h0 h [t1] ∧ OG.BA Z h t1 (bs.take d ++ cs ++ bs.drop (d + cs.length))
set_option maxRecDepth 65536 in
set_option maxHeartbeats 40000000 in
theorem own_rm_putstr (l : Launch) (Z : State) (a0 : Array Value) (hw : ∀ d ∈ tables_1, d.before a0 Z = true) (ws : List Jvm.Cond) (a1 : Addr) (t1 : Addr) (bs : List Int32) (n : Nat) (a2 : Addr) (t2 : Addr) (cs : List Int32) (d : Nat) (zc : Int32) (h0 : Heap) (n0 : Nat) (Z0 : n0 ≤ h0.size) (O1 : Old Z n0 h0) (S_cs : Sta Z Z.heap "java/lang/String" "COMPACT_STRINGS" "Z" (.int zc)) (hzc : ¬ zc = (0 : Int32)) (E1 : Exa Z h0 a1 "java/lang/StringBuilder") (Bv1 : Fld Z h0 a1 "java/lang/AbstractStringBuilder" "value" "[B" (.ref t1)) (Bc1 : Fld Z h0 a1 "java/lang/AbstractStringBuilder" "coder" "B" (.int (0 : Int32))) (Bn1 : Fld Z h0 a1 "java/lang/AbstractStringBuilder" "count" "I" (.int (Int32.ofNat n))) (Y1 : OG.BA Z h0 t1 bs) (Et1 : Exa Z h0 t1 "[B") (E2 : Exa Z h0 a2 "java/lang/String") (Fc2 : Fld Z h0 a2 "java/lang/String" "coder" "B" (.int (0 : Int32))) (Fv2 : Fld Z h0 a2 "java/lang/String" "value" "[B" (.ref t2)) (Y2 : OG.BA Z h0 t2 cs) (hd : d + cs.length ≤ bs.length) (g2 : n0 ≤ t1) :
    MetFree l (⟨"java/lang/AbstractStringBuilder", "putStringAt", "(ILjava/lang/String;)V"⟩ : MethodName) (head1 (Jvm.Cond.code (⟨"java/lang/AbstractStringBuilder", "putStringAt", "(ILjava/lang/String;)V"⟩ : MethodName) jdk_68_method_73_code 3 none :: ws) ({ frames := 2, cells := 0, slots := 0, locals := 33 } : Room)) (fun a U => a = #[(.ref a1), (.int (Int32.ofNat d)), (.ref a2)] ∧ Z.Warmed39 U.vm ∧ U.heap = h0) (fun _ _ _ _ _ => True) (fun _ U o U' => ∃ v L, o = .returned v ∧ own_Q_putstr Z a1 t1 bs n a2 t2 cs d zc h0 n0 v U'.heap L ∧ FrameEnd U o U' L ({ frames := 2, cells := 0, slots := 0, locals := 33 } : Room).cells ({ frames := 2, cells := 0, slots := 0, locals := 33 } : Room).slots) := by
  refine MetFree.of_bodySF (plainFor_of_name own_pn_putstr) hisR ?_
  intro p e s m args below meth c s₁ Bd hml0 hP hK
  obtain ⟨rfl, hZ, hh⟩ := hP
  have hx := Bd.exec
  have hby := Bd.bytes
  have hml : c.maxLocals = 3 := hml0
  have hown : s.vm.findClass "java/lang/AbstractStringBuilder" = some m.cls := findClass_of_methodNamed Bd.named
  have hnm := (name_of_methodNamed Bd.named Bd.method).1
  have X0 : Stand p l e ({ frames := 2, cells := 0, slots := 0, locals := 33 } : Room) s m #[(.ref a1), (.int (Int32.ofNat d)), (.ref a2)] below meth c s₁ [] 0 0 := Stand.of_body Bd
  have e0 : s₁.heap = h0 := by rw [← hh, Bd.state]; rfl
  have N0 := Fr.nil n0
  show OG.Go p.tables e below (OG.GP (own_Q_putstr Z a1 t1 bs n a2 t2 cs d zc h0 n0) ({ frames := 2, cells := 0, slots := 0, locals := 33 } : Room).cells ({ frames := 2, cells := 0, slots := 0, locals := 33 } : Room).slots s) (s₁.setTop (entryFrame m #[(.ref a1), (.int (Int32.ofNat d)), (.ref a2)] 3))
  refine OG.Go.cast (own_ef_putstr m a1 (Int32.ofNat d) a2) ?_
  refine OG.aloadN X0 hx hby own_d_putstr_0 rfl rfl rfl ?_
  refine OG.aloadN X0 hx hby own_d_putstr_1 rfl rfl rfl ?_
  refine OG.cP X0 hx hZ hby (by rw [hml]; rfl) hown (y := (⟨"java/lang/AbstractStringBuilder", "inflateIfNeededFor", "(Ljava/lang/String;)V"⟩ : MethodName)) (hw _ (List.mem_of_getElem? (i := 139) rfl)) (hw _ (List.mem_of_getElem? (i := 140) rfl)) (OG.selfSel (hw _ (List.mem_of_getElem? (i := 142) rfl)) (hw _ (List.mem_of_getElem? (i := 140) rfl)) (hw _ (List.mem_of_getElem? (i := 141) rfl)) (by decide)) (hw _ (List.mem_of_getElem? (i := 141) rfl)) (hw _ (List.mem_of_getElem? (i := 143) rfl)) (hw _ (List.mem_of_getElem? (i := 99) rfl)) (by decide) (own_rm_inflate l Z a0 hw [] a1 a2 zc h0 n0 Z0 O1 S_cs hzc E1 Bc1 E2 Fc2) E1 e0 (argsL := [(.ref a2)]) (stk := [(.ref a2), (.ref a1)]) (st := []) own_pd_6 rfl rfl rfl (W := 0) rfl (by decide) (by decide) (by decide) (by decide) own_d_putstr_2 rfl ?_
  intro T101 L101 v101 X101 q101
  obtain ⟨rfl, N101, e101⟩ := q101
  have M101 := Fr.app N0 N101
  show OG.Go _ _ _ _ (T101.setTop (mkF m 5 #[.val (.ref a1), .val (.int (Int32.ofNat d)), .val (.ref a2)] []))
  refine OG.aloadN X101 hx hby own_d_putstr_5 rfl rfl rfl ?_
  refine OG.aloadN X101 hx hby own_d_putstr_6 rfl rfl rfl ?_
  refine OG.gF X101 hx hZ hby hown (hw _ (List.mem_of_getElem? (i := 103) rfl)) Via.refl e101 Bv1 own_d_putstr_7 rfl ?_
  intro T102 X102 e102
  refine OG.iloadN X102 hx hby own_d_putstr_10 rfl rfl ?_
  refine OG.aloadN X102 hx hby own_d_putstr_11 rfl rfl rfl ?_
  refine OG.gF X102 hx hZ hby hown (hw _ (List.mem_of_getElem? (i := 105) rfl)) Via.refl e102 Bc1 own_d_putstr_12 rfl ?_
  intro T103 X103 e103
  refine OG.cV X103 hx hZ hby (by rw [hml]; rfl) hown (y := (⟨"java/lang/String", "getBytes", "([BIB)V"⟩ : MethodName)) (z := (⟨"java/lang/String", "getBytes", "([BIB)V"⟩ : MethodName)) (hw _ (List.mem_of_getElem? (i := 145) rfl)) (hw _ (List.mem_of_getElem? (i := 146) rfl)) (notFace_of_selects (args := #[]) (mvT hZ (hw _ (List.mem_of_getElem? (i := 148) rfl)))) (hw _ (List.mem_of_getElem? (i := 148) rfl)) (hw _ (List.mem_of_getElem? (i := 147) rfl)) (hw _ (List.mem_of_getElem? (i := 149) rfl)) (hw _ (List.mem_of_getElem? (i := 6) rfl)) (by decide) (own_rm_getbytes l Z a0 hw [] a2 t2 cs t1 bs d zc h0 n0 Z0 O1 S_cs hzc E2 Fc2 Fv2 Y2 Y1 hd g2) E2 e103 (argsL := [(.ref t1), (.int (Int32.ofNat d)), (.int (0 : Int32))]) (stk := [(.int (0 : Int32)), (.int (Int32.ofNat d)), (.ref t1), (.ref a2)]) (st := []) own_pd_7 rfl rfl rfl (W := 0) rfl (by decide) (by decide) (by decide) (by decide) own_d_putstr_15 rfl ?_
  intro T104 L104 v104 X104 q104
  obtain ⟨rfl, N104, K104, Y104⟩ := q104
  have M104 := Fr.app M101 N104
  show OG.Go _ _ _ _ (T104.setTop (mkF m 18 #[.val (.ref a1), .val (.int (Int32.ofNat d)), .val (.ref a2)] []))
  refine OG.retV X104 hx hby Bd.returns own_d_putstr_18 Bd.notSynchronized (by decide) (by decide) ?_
  exact ⟨rfl, M104, (Keep.trans (Keep.refl h0 [t1]) K104 (allS (Or.inl (by simp)) all0)), Y104⟩
theorem own_join {bs bs' cs : List Int32} {n : Nat} (h : n + cs.length ≤ bs'.length) (ht : bs'.take n = bs.take n) (hn : n ≤ bs.length) : (bs'.take n ++ cs ++ bs'.drop (n + cs.length)).take (n + cs.length) = bs.take n ++ cs ∧ (bs'.take n ++ cs ++ bs'.drop (n + cs.length)).length = bs'.length := by
  constructor
  · rw [List.take_append_of_le_length (by rw [List.length_append, List.length_take]; omega), List.take_of_length_le (by rw [List.length_append, List.length_take]; omega), ht]
  · simp only [List.length_append, List.length_take, List.length_drop]; omega
theorem own_d_asb_apps_0 : decode jdk_68_method_22_code 0 = .ok (.aload_n 1, 1) := by decide +kernel
theorem own_d_asb_apps_1 : decode jdk_68_method_22_code 1 = .ok (.ifnonnull 8, 3) := by decide +kernel
theorem own_d_asb_apps_9 : decode jdk_68_method_22_code 9 = .ok (.aload_n 1, 1) := by decide +kernel
theorem own_d_asb_apps_10 : decode jdk_68_method_22_code 10 = .ok (.invokevirtual 32, 3) := by decide +kernel
theorem own_d_asb_apps_13 : decode jdk_68_method_22_code 13 = .ok (.istore_n 2, 1) := by decide +kernel
theorem own_d_asb_apps_14 : decode jdk_68_method_22_code 14 = .ok (.aload_n 0, 1) := by decide +kernel
theorem own_d_asb_apps_15 : decode jdk_68_method_22_code 15 = .ok (.aload_n 0, 1) := by decide +kernel
theorem own_d_asb_apps_16 : decode jdk_68_method_22_code 16 = .ok (.getfield 79, 3) := by decide +kernel
theorem own_d_asb_apps_19 : decode jdk_68_method_22_code 19 = .ok (.iload_n 2, 1) := by decide +kernel
theorem own_d_asb_apps_20 : decode jdk_68_method_22_code 20 = .ok (.iadd, 1) := by decide +kernel
theorem own_d_asb_apps_21 : decode jdk_68_method_22_code 21 = .ok (.invokevirtual 100, 3) := by decide +kernel
theorem own_d_asb_apps_24 : decode jdk_68_method_22_code 24 = .ok (.aload_n 0, 1) := by decide +kernel
theorem own_d_asb_apps_25 : decode jdk_68_method_22_code 25 = .ok (.aload_n 0, 1) := by decide +kernel
theorem own_d_asb_apps_26 : decode jdk_68_method_22_code 26 = .ok (.getfield 79, 3) := by decide +kernel
theorem own_d_asb_apps_29 : decode jdk_68_method_22_code 29 = .ok (.aload_n 1, 1) := by decide +kernel
theorem own_d_asb_apps_30 : decode jdk_68_method_22_code 30 = .ok (.invokevirtual 208, 3) := by decide +kernel
theorem own_d_asb_apps_33 : decode jdk_68_method_22_code 33 = .ok (.aload_n 0, 1) := by decide +kernel
theorem own_d_asb_apps_34 : decode jdk_68_method_22_code 34 = .ok (.dup, 1) := by decide +kernel
theorem own_d_asb_apps_35 : decode jdk_68_method_22_code 35 = .ok (.getfield 79, 3) := by decide +kernel
theorem own_d_asb_apps_38 : decode jdk_68_method_22_code 38 = .ok (.iload_n 2, 1) := by decide +kernel
theorem own_d_asb_apps_39 : decode jdk_68_method_22_code 39 = .ok (.iadd, 1) := by decide +kernel
theorem own_d_asb_apps_40 : decode jdk_68_method_22_code 40 = .ok (.putfield 79, 3) := by decide +kernel
theorem own_d_asb_apps_43 : decode jdk_68_method_22_code 43 = .ok (.aload_n 0, 1) := by decide +kernel
theorem own_d_asb_apps_44 : decode jdk_68_method_22_code 44 = .ok (.areturn, 1) := by decide +kernel
theorem own_pn_asb_apps : plainName "java/lang/AbstractStringBuilder" = true := by first | (simp [plainName, overriddenIn]; done) | decide +kernel
theorem own_ef_asb_apps (m : MethodId) (x0 : Addr) (x1 : Addr)  : entryFrame m #[(.ref x0), (.ref x1)] 3 = mkF m 0 #[.val (.ref x0), .val (.ref x1), .unset] [] := by first | (simp [entryFrame, mkF, argsToLocals, Value.category]; done) | rfl
def own_Q_asb_apps (Z : State) (a1 : Addr) (t1 : Addr) (bs : List Int32) (n : Nat) (a2 : Addr) (t2 : Addr) (cs : List Int32) (zc : Int32) (h0 : Heap) (n0 : Nat) (v : Option Value) (h : Heap) (L : List Loc) : Prop := ∃ t bs', v = some (.ref a1) ∧ Fr n0 L ∧ Keep h0 h [a1, t1] ∧ (Exa Z h a1 "java/lang/StringBuilder") ∧ (Fld Z h a1 "java/lang/AbstractStringBuilder" "value" "[B" (.ref t)) ∧ (Fld Z h a1 "java/lang/AbstractStringBuilder" "coder" "B" (.int (0 : Int32))) ∧ (Fld Z h a1 "java/lang/AbstractStringBuilder" "count" "I" (.int (Int32.ofNat (n + cs.length)))) ∧ (OG.BA Z h t bs') ∧ (Exa Z h t "[B") ∧ (bs'.length = 16 ∨ bs'.length = 34) ∧ n + cs.length ≤ bs'.length ∧ bs'.take (n + cs.length) = bs.take n ++ cs ∧ (t = t1 ∨ h0.size ≤ t)
set_option maxRecDepth 65536 in
set_option maxHeartbeats 40000000 in
theorem own_rm_asb_apps (l : Launch) (Z : State) (a0 : Array Value) (hw : ∀ d ∈ tables_1, d.before a0 Z = true) (ws : List Jvm.Cond) (a1 : Addr) (t1 : Addr) (bs : List Int32) (n : Nat) (a2 : Addr) (t2 : Addr) (cs : List Int32) (zc : Int32) (h0 : Heap) (n0 : Nat) (Z0 : n0 ≤ h0.size) (O1 : Old Z n0 h0) (S_cs : Sta Z Z.heap "java/lang/String" "COMPACT_STRINGS" "Z" (.int zc)) (hzc : ¬ zc = (0 : Int32)) (E1 : Exa Z h0 a1 "java/lang/StringBuilder") (Bv1 : Fld Z h0 a1 "java/lang/AbstractStringBuilder" "value" "[B" (.ref t1)) (Bc1 : Fld Z h0 a1 "java/lang/AbstractStringBuilder" "coder" "B" (.int (0 : Int32))) (Bn1 : Fld Z h0 a1 "java/lang/AbstractStringBuilder" "count" "I" (.int (Int32.ofNat n))) (Y1 : OG.BA Z h0 t1 bs) (Et1 : Exa Z h0 t1 "[B") (E2 : Exa Z h0 a2 "java/lang/String") (Fc2 : Fld Z h0 a2 "java/lang/String" "coder" "B" (.int (0 : Int32))) (Fv2 : Fld Z h0 a2 "java/lang/String" "value" "[B" (.ref t2)) (Y2 : OG.BA Z h0 t2 cs) (hcap : (bs.length = 16 ∨ bs.length = 34)) (hn : n ≤ bs.length) (hlen : n + cs.length ≤ bs.length) (g1 : n0 ≤ a1) (g2 : n0 ≤ t1) (hne : t2 ≠ t1) :
    MetFree l (⟨"java/lang/AbstractStringBuilder", "append", "(Ljava/lang/String;)Ljava/lang/AbstractStringBuilder;"⟩ : MethodName) (head1 (Jvm.Cond.code (⟨"java/lang/AbstractStringBuilder", "append", "(Ljava/lang/String;)Ljava/lang/AbstractStringBuilder;"⟩ : MethodName) jdk_68_method_22_code 3 (some (.object "java/lang/AbstractStringBuilder")) :: ws) ({ frames := 3, cells := 0, slots := 0, locals := 47 } : Room)) (fun a U => a = #[(.ref a1), (.ref a2)] ∧ Z.Warmed39 U.vm ∧ U.heap = h0) (fun _ _ _ _ _ => True) (fun _ U o U' => ∃ v L, o = .returned v ∧ own_Q_asb_apps Z a1 t1 bs n a2 t2 cs zc h0 n0 v U'.heap L ∧ FrameEnd U o U' L ({ frames := 3, cells := 0, slots := 0, locals := 47 } : Room).cells ({ frames := 3, cells := 0, slots := 0, locals := 47 } : Room).slots) := by
  refine MetFree.of_bodySF (plainFor_of_name own_pn_asb_apps) hisR ?_
  intro p e s m args below meth c s₁ Bd hml0 hP hK
  obtain ⟨rfl, hZ, hh⟩ := hP
  have hx := Bd.exec
  have hby := Bd.bytes
  have hml : c.maxLocals = 3 := hml0
  have hown : s.vm.findClass "java/lang/AbstractStringBuilder" = some m.cls := findClass_of_methodNamed Bd.named
  have hnm := (name_of_methodNamed Bd.named Bd.method).1
  have X0 : Stand p l e ({ frames := 3, cells := 0, slots := 0, locals := 47 } : Room) s m #[(.ref a1), (.ref a2)] below meth c s₁ [] 0 0 := Stand.of_body Bd
  have e0 : s₁.heap = h0 := by rw [← hh, Bd.state]; rfl
  have N0 := Fr.nil n0
  show OG.Go p.tables e below (OG.GP (own_Q_asb_apps Z a1 t1 bs n a2 t2 cs zc h0 n0) ({ frames := 3, cells := 0, slots := 0, locals := 47 } : Room).cells ({ frames := 3, cells := 0, slots := 0, locals := 47 } : Room).slots s) (s₁.setTop (entryFrame m #[(.ref a1), (.ref a2)] 3))
  refine OG.Go.cast (own_ef_asb_apps m a1 a2) ?_
  have hat : a1 ≠ t1 := ne_exa E1 Et1 (by decide)
  have haa : a1 ≠ a2 := ne_exa E1 E2 (by decide)
  have hatb : a1 ≠ t2 := OG.BA.neE Y2 E1 (hw _ (List.mem_of_getElem? (i := 90) rfl))
  have hab : a2 ≠ t1 := ne_exa E2 Et1 (by decide)
  refine OG.aloadN X0 hx hby own_d_asb_apps_0 rfl rfl rfl ?_
  refine OG.ifnonnullYes (pc' := 9) X0 hx hby own_d_asb_apps_1 (by decide) (by decide) ?_
  refine OG.aloadN X0 hx hby own_d_asb_apps_9 rfl rfl rfl ?_
  refine OG.cV X0 hx hZ hby (by rw [hml]; rfl) hown (y := (⟨"java/lang/String", "length", "()I"⟩ : MethodName)) (z := (⟨"java/lang/String", "length", "()I"⟩ : MethodName)) (hw _ (List.mem_of_getElem? (i := 117) rfl)) (hw _ (List.mem_of_getElem? (i := 118) rfl)) (notFace_of_selects (args := #[]) (mvT hZ (hw _ (List.mem_of_getElem? (i := 120) rfl)))) (hw _ (List.mem_of_getElem? (i := 120) rfl)) (hw _ (List.mem_of_getElem? (i := 119) rfl)) (hw _ (List.mem_of_getElem? (i := 121) rfl)) (hw _ (List.mem_of_getElem? (i := 6) rfl)) (by decide) (own_rm_s_len l Z a0 hw [] a2 t2 cs zc h0 n0 Z0 O1 S_cs hzc E2 Fc2 Fv2 Y2) E2 e0 (argsL := []) (stk := [(.ref a2)]) (st := []) own_pd_8 rfl rfl rfl (W := 0) rfl (by decide) (by decide) (by decide) (by decide) own_d_asb_apps_10 rfl ?_
  intro T101 L101 v101 X101 q101
  obtain ⟨rfl, N101, e101⟩ := q101
  have M101 := Fr.app N0 N101
  show OG.Go _ _ _ _ (T101.setTop (mkF m 13 #[.val (.ref a1), .val (.ref a2), .unset] [(.int (Int32.ofNat cs.length))]))
  refine OG.istoreN (Ls' := #[.val (.ref a1), .val (.ref a2), .val (.int (Int32.ofNat cs.length))]) X101 hx hby own_d_asb_apps_13 rfl rfl ?_
  refine OG.aloadN X101 hx hby own_d_asb_apps_14 rfl rfl rfl ?_
  refine OG.aloadN X101 hx hby own_d_asb_apps_15 rfl rfl rfl ?_
  refine OG.gF X101 hx hZ hby hown (hw _ (List.mem_of_getElem? (i := 127) rfl)) Via.refl e101 Bn1 own_d_asb_apps_16 rfl ?_
  intro T102 X102 e102
  refine OG.iloadN X102 hx hby own_d_asb_apps_19 rfl rfl ?_
  refine OG.iadd X102 hx hby own_d_asb_apps_20 rfl ?_
  rw [OG.addN]
  refine OG.cP X102 hx hZ hby (by rw [hml]; rfl) hown (y := (⟨"java/lang/AbstractStringBuilder", "ensureCapacityInternal", "(I)V"⟩ : MethodName)) (hw _ (List.mem_of_getElem? (i := 129) rfl)) (hw _ (List.mem_of_getElem? (i := 130) rfl)) (OG.selfSel (hw _ (List.mem_of_getElem? (i := 132) rfl)) (hw _ (List.mem_of_getElem? (i := 130) rfl)) (hw _ (List.mem_of_getElem? (i := 131) rfl)) (by decide)) (hw _ (List.mem_of_getElem? (i := 131) rfl)) (hw _ (List.mem_of_getElem? (i := 133) rfl)) (hw _ (List.mem_of_getElem? (i := 99) rfl)) (by decide) (own_rm_ensure l Z a0 hw [] a1 t1 bs n (n + cs.length) h0 n0 Z0 E1 Bv1 Bc1 Bn1 Y1 Et1 hcap (by omega) hn g1 hlen) E1 e102 (argsL := [(.int (Int32.ofNat (n + cs.length)))]) (stk := [(.int (Int32.ofNat (n + cs.length))), (.ref a1)]) (st := []) own_pd_5 rfl rfl rfl (W := 0) rfl (by decide) (by decide) (by decide) (by decide) own_d_asb_apps_21 rfl ?_
  intro T103 L103 v103 X103 q103
  obtain ⟨ta103, bx103, rfl, N103, K103, E_103, Bv_103, Bc_103, Bn_103, Y_103, Et_103, hc103, hm103, ht103, ho103, hs103⟩ := q103
  have ne104 : a1 ≠ ta103 := ho103.elim (fun e => e ▸ hat) (fun q => Nat.ne_of_lt (Nat.lt_of_lt_of_le (Exa.lt E1) q))
  have ne105 : a2 ≠ ta103 := ho103.elim (fun e => e ▸ hab) (fun q => Nat.ne_of_lt (Nat.lt_of_lt_of_le (Exa.lt E2) q))
  have ne106 : t2 ≠ ta103 := ho103.elim (fun e => e ▸ hne) (fun q => Nat.ne_of_lt (Nat.lt_of_lt_of_le (OG.BA.lt Y2) q))
  have gn107 : n0 ≤ ta103 := ho103.elim (fun e => e ▸ g2) (fun q => Nat.le_trans Z0 q)
  have or108 : ta103 = t1 ∨ h0.size ≤ ta103 := ho103.imp id (fun q => Nat.le_trans (Nat.le_refl _) q)
  have M103 := Fr.app M101 N103
  show OG.Go _ _ _ _ (T103.setTop (mkF m 24 #[.val (.ref a1), .val (.ref a2), .val (.int (Int32.ofNat cs.length))] []))
  have hm_ := hm103
  refine OG.aloadN X103 hx hby own_d_asb_apps_24 rfl rfl rfl ?_
  refine OG.aloadN X103 hx hby own_d_asb_apps_25 rfl rfl rfl ?_
  refine OG.gF X103 hx hZ hby hown (hw _ (List.mem_of_getElem? (i := 127) rfl)) Via.refl rfl Bn_103 own_d_asb_apps_26 rfl ?_
  intro T109 X109 e109
  refine OG.aloadN X109 hx hby own_d_asb_apps_29 rfl rfl rfl ?_
  have f111 := (Exa.keep E2 K103)
  have f112 := (Fld.keep Fc2 K103 (ninS (Ne.symm haa) nin0))
  have f113 := (Fld.keep Fv2 K103 (ninS (Ne.symm haa) nin0))
  have f114 := (OG.BA.keep Y2 K103 (ninS (Ne.symm hatb) nin0))
  have f115 := (Old.keep O1 K103 (allS g1 all0))
  refine OG.cP X109 hx hZ hby (by rw [hml]; rfl) hown (y := (⟨"java/lang/AbstractStringBuilder", "putStringAt", "(ILjava/lang/String;)V"⟩ : MethodName)) (hw _ (List.mem_of_getElem? (i := 134) rfl)) (hw _ (List.mem_of_getElem? (i := 135) rfl)) (OG.selfSel (hw _ (List.mem_of_getElem? (i := 137) rfl)) (hw _ (List.mem_of_getElem? (i := 135) rfl)) (hw _ (List.mem_of_getElem? (i := 136) rfl)) (by decide)) (hw _ (List.mem_of_getElem? (i := 136) rfl)) (hw _ (List.mem_of_getElem? (i := 138) rfl)) (hw _ (List.mem_of_getElem? (i := 99) rfl)) (by decide) (own_rm_putstr l Z a0 hw [] a1 ta103 bx103 n a2 t2 cs n zc T103.heap n0 (Nat.le_trans Z0 K103.1) f115 S_cs hzc E_103 Bv_103 Bc_103 Bn_103 Y_103 Et_103 f111 f112 f113 f114 hm_ gn107) E_103 e109 (argsL := [(.int (Int32.ofNat n)), (.ref a2)]) (stk := [(.ref a2), (.int (Int32.ofNat n)), (.ref a1)]) (st := []) own_pd_9 rfl rfl rfl (W := 0) rfl (by decide) (by decide) (by decide) (by decide) own_d_asb_apps_30 rfl ?_
  intro T110 L110 v110 X110 q110
  obtain ⟨rfl, N110, K110, Y110⟩ := q110
  have M110 := Fr.app M103 N110
  show OG.Go _ _ _ _ (T110.setTop (mkF m 33 #[.val (.ref a1), .val (.ref a2), .val (.int (Int32.ofNat cs.length))] []))
  refine OG.aloadN X110 hx hby own_d_asb_apps_33 rfl rfl rfl ?_
  refine OG.dup X110 hx hby own_d_asb_apps_34 rfl rfl ?_
  have f116 := (Fld.keep Bn_103 K110 (ninS ne104 nin0))
  refine OG.gF X110 hx hZ hby hown (hw _ (List.mem_of_getElem? (i := 127) rfl)) Via.refl rfl f116 own_d_asb_apps_35 rfl ?_
  intro T117 X117 e117
  refine OG.iloadN X117 hx hby own_d_asb_apps_38 rfl rfl ?_
  refine OG.iadd X117 hx hby own_d_asb_apps_39 rfl ?_
  rw [OG.addN]
  have f118 := (Exa.keep E_103 K110)
  refine OG.pF X117 hx hZ hby hown (hw _ (List.mem_of_getElem? (i := 127) rfl)) Via.refl e117 f116 f118 (Or.inl (hw _ (List.mem_of_getElem? (i := 128) rfl))) (hw _ (List.mem_of_getElem? (i := 90) rfl)) (ty := .int) (by decide) rfl rfl own_d_asb_apps_40 rfl ?_
  intro T119 h119 X119 e119 W119
  have f120 := Fld.same W119 f116
  have N121 := Fr.snoc X119 M110 g1
  refine OG.aloadN X119 hx hby own_d_asb_apps_43 rfl rfl rfl ?_
  refine OG.retA X119 hx hby Bd.returns rfl rfl rfl own_d_asb_apps_44 Bd.notSynchronized (by decide) (by decide) ?_
  show own_Q_asb_apps Z a1 t1 bs n a2 t2 cs zc h0 n0 _ T119.heap _
  rw [e119]
  have f122 := (Exa.wr W119 f118)
  have f123 := (Fld.other W119 (Fld.keep Bv_103 K110 (ninS ne104 nin0)) (Or.inr (slot_ne (Or.inl (hw _ (List.mem_of_getElem? (i := 104) rfl))) (Or.inl (hw _ (List.mem_of_getElem? (i := 128) rfl))) (by decide) (t := (.array .byte)) (t' := .int) (by decide) (by decide))))
  have f124 := (Fld.other W119 (Fld.keep Bc_103 K110 (ninS ne104 nin0)) (Or.inr (slot_ne (Or.inl (hw _ (List.mem_of_getElem? (i := 106) rfl))) (Or.inl (hw _ (List.mem_of_getElem? (i := 128) rfl))) (by decide) (t := .byte) (t' := .int) (by decide) (by decide))))
  have f125 := (OG.BA.other Y110 W119 (Ne.symm ne104))
  have f126 := (Exa.wr W119 (Exa.keep Et_103 K110))
  have hj := own_join (bs := bs) (bs' := bx103) (cs := cs) hm103 ht103 hn
  refine ⟨ta103, (bx103.take n ++ cs ++ bx103.drop (n + cs.length)), rfl, N121, ?_, f122, f123, f124, f120, f125, f126, ?_, ?_, hj.1, or108⟩
  · exact (Keep.wr (Keep.trans (Keep.trans (Keep.refl h0 [a1, t1]) K103 (allS (Or.inl (by simp)) all0)) K110 (allS (or108.elim (fun e => Or.inl (by simp [e])) Or.inr) all0)) W119 (Or.inl (by simp)))
  · rw [hj.2]; exact hc103
  · rw [hj.2]; exact hm103
theorem own_d_sb_apps_0 : decode jdk_67_method_7_code 0 = .ok (.aload_n 0, 1) := by decide +kernel
theorem own_d_sb_apps_1 : decode jdk_67_method_7_code 1 = .ok (.aload_n 1, 1) := by decide +kernel
theorem own_d_sb_apps_2 : decode jdk_67_method_7_code 2 = .ok (.invokespecial 29, 3) := by decide +kernel
theorem own_d_sb_apps_5 : decode jdk_67_method_7_code 5 = .ok (.pop, 1) := by decide +kernel
theorem own_d_sb_apps_6 : decode jdk_67_method_7_code 6 = .ok (.aload_n 0, 1) := by decide +kernel
theorem own_d_sb_apps_7 : decode jdk_67_method_7_code 7 = .ok (.areturn, 1) := by decide +kernel
theorem own_pn_sb_apps : plainName "java/lang/StringBuilder" = true := by first | (simp [plainName, overriddenIn]; done) | decide +kernel
theorem own_ef_sb_apps (m : MethodId) (x0 : Addr) (x1 : Addr)  : entryFrame m #[(.ref x0), (.ref x1)] 2 = mkF m 0 #[.val (.ref x0), .val (.ref x1)] [] := by first | (simp [entryFrame, mkF, argsToLocals, Value.category]; done) | rfl
def own_Q_sb_apps (Z : State) (a1 : Addr) (t1 : Addr) (bs : List Int32) (n : Nat) (a2 : Addr) (t2 : Addr) (cs : List Int32) (zc : Int32) (h0 : Heap) (n0 : Nat) (v : Option Value) (h : Heap) (L : List Loc) : Prop := ∃ t bs', v = some (.ref a1) ∧ Fr n0 L ∧ Keep h0 h [a1, t1] ∧ (Exa Z h a1 "java/lang/StringBuilder") ∧ (Fld Z h a1 "java/lang/AbstractStringBuilder" "value" "[B" (.ref t)) ∧ (Fld Z h a1 "java/lang/AbstractStringBuilder" "coder" "B" (.int (0 : Int32))) ∧ (Fld Z h a1 "java/lang/AbstractStringBuilder" "count" "I" (.int (Int32.ofNat (n + cs.length)))) ∧ (OG.BA Z h t bs') ∧ (Exa Z h t "[B") ∧ (bs'.length = 16 ∨ bs'.length = 34) ∧ n + cs.length ≤ bs'.length ∧ bs'.take (n + cs.length) = bs.take n ++ cs ∧ (t = t1 ∨ h0.size ≤ t)
set_option maxRecDepth 65536 in
set_option maxHeartbeats 40000000 in
theorem own_rm_sb_apps (l : Launch) (Z : State) (a0 : Array Value) (hw : ∀ d ∈ tables_1, d.before a0 Z = true) (ws : List Jvm.Cond) (a1 : Addr) (t1 : Addr) (bs : List Int32) (n : Nat) (a2 : Addr) (t2 : Addr) (cs : List Int32) (zc : Int32) (h0 : Heap) (n0 : Nat) (Z0 : n0 ≤ h0.size) (O1 : Old Z n0 h0) (S_cs : Sta Z Z.heap "java/lang/String" "COMPACT_STRINGS" "Z" (.int zc)) (hzc : ¬ zc = (0 : Int32)) (E1 : Exa Z h0 a1 "java/lang/StringBuilder") (Bv1 : Fld Z h0 a1 "java/lang/AbstractStringBuilder" "value" "[B" (.ref t1)) (Bc1 : Fld Z h0 a1 "java/lang/AbstractStringBuilder" "coder" "B" (.int (0 : Int32))) (Bn1 : Fld Z h0 a1 "java/lang/AbstractStringBuilder" "count" "I" (.int (Int32.ofNat n))) (Y1 : OG.BA Z h0 t1 bs) (Et1 : Exa Z h0 t1 "[B") (E2 : Exa Z h0 a2 "java/lang/String") (Fc2 : Fld Z h0 a2 "java/lang/String" "coder" "B" (.int (0 : Int32))) (Fv2 : Fld Z h0 a2 "java/lang/String" "value" "[B" (.ref t2)) (Y2 : OG.BA Z h0 t2 cs) (hcap : (bs.length = 16 ∨ bs.length = 34)) (hn : n ≤ bs.length) (hlen : n + cs.length ≤ bs.length) (g1 : n0 ≤ a1) (g2 : n0 ≤ t1) (hne : t2 ≠ t1) :
    MetFree l (⟨"java/lang/StringBuilder", "append", "(Ljava/lang/String;)Ljava/lang/StringBuilder;"⟩ : MethodName) (head1 (Jvm.Cond.code (⟨"java/lang/StringBuilder", "append", "(Ljava/lang/String;)Ljava/lang/StringBuilder;"⟩ : MethodName) jdk_67_method_7_code 2 (some (.object "java/lang/StringBuilder")) :: ws) ({ frames := 4, cells := 0, slots := 0, locals := 61 } : Room)) (fun a U => a = #[(.ref a1), (.ref a2)] ∧ Z.Warmed39 U.vm ∧ U.heap = h0) (fun _ _ _ _ _ => True) (fun _ U o U' => ∃ v L, o = .returned v ∧ own_Q_sb_apps Z a1 t1 bs n a2 t2 cs zc h0 n0 v U'.heap L ∧ FrameEnd U o U' L ({ frames := 4, cells := 0, slots := 0, locals := 61 } : Room).cells ({ frames := 4, cells := 0, slots := 0, locals := 61 } : Room).slots) := by
  refine MetFree.of_bodySF (plainFor_of_name own_pn_sb_apps) hisR ?_
  intro p e s m args below meth c s₁ Bd hml0 hP hK
  obtain ⟨rfl, hZ, hh⟩ := hP
  have hx := Bd.exec
  have hby := Bd.bytes
  have hml : c.maxLocals = 2 := hml0
  have hown : s.vm.findClass "java/lang/StringBuilder" = some m.cls := findClass_of_methodNamed Bd.named
  have hnm := (name_of_methodNamed Bd.named Bd.method).1
  have X0 : Stand p l e ({ frames := 4, cells := 0, slots := 0, locals := 61 } : Room) s m #[(.ref a1), (.ref a2)] below meth c s₁ [] 0 0 := Stand.of_body Bd
  have e0 : s₁.heap = h0 := by rw [← hh, Bd.state]; rfl
  have N0 := Fr.nil n0
  show OG.Go p.tables e below (OG.GP (own_Q_sb_apps Z a1 t1 bs n a2 t2 cs zc h0 n0) ({ frames := 4, cells := 0, slots := 0, locals := 61 } : Room).cells ({ frames := 4, cells := 0, slots := 0, locals := 61 } : Room).slots s) (s₁.setTop (entryFrame m #[(.ref a1), (.ref a2)] 2))
  refine OG.Go.cast (own_ef_sb_apps m a1 a2) ?_
  have hat : a1 ≠ t1 := ne_exa E1 Et1 (by decide)
  have haa : a1 ≠ a2 := ne_exa E1 E2 (by decide)
  have hatb : a1 ≠ t2 := OG.BA.neE Y2 E1 (hw _ (List.mem_of_getElem? (i := 90) rfl))
  have hab : a2 ≠ t1 := ne_exa E2 Et1 (by decide)
  refine OG.aloadN X0 hx hby own_d_sb_apps_0 rfl rfl rfl ?_
  refine OG.aloadN X0 hx hby own_d_sb_apps_1 rfl rfl rfl ?_
  refine OG.cU X0 hx hZ hby (by rw [hml]; rfl) hown (y := (⟨"java/lang/AbstractStringBuilder", "append", "(Ljava/lang/String;)Ljava/lang/AbstractStringBuilder;"⟩ : MethodName)) (hw _ (List.mem_of_getElem? (i := 112) rfl)) (OG.sameSelf (y := (⟨"java/lang/AbstractStringBuilder", "append", "(Ljava/lang/String;)Ljava/lang/AbstractStringBuilder;"⟩ : MethodName)) (hw _ (List.mem_of_getElem? (i := 132) rfl)) rfl (hw _ (List.mem_of_getElem? (i := 113) rfl)) (by decide)) (hw _ (List.mem_of_getElem? (i := 113) rfl)) (hw _ (List.mem_of_getElem? (i := 114) rfl)) (by decide) (hw _ (List.mem_of_getElem? (i := 116) rfl)) (hw _ (List.mem_of_getElem? (i := 99) rfl)) (own_rm_asb_apps l Z a0 hw [] a1 t1 bs n a2 t2 cs zc h0 n0 Z0 O1 S_cs hzc E1 Bv1 Bc1 Bn1 Y1 Et1 E2 Fc2 Fv2 Y2 hcap hn hlen g1 g2 hne) E1 e0 (argsL := [(.ref a2)]) (stk := [(.ref a2), (.ref a1)]) (st := []) own_pd_10 rfl rfl rfl (W := 0) rfl (by decide) (by decide) (by decide) (by decide) own_d_sb_apps_2 rfl ?_
  intro T101 L101 v101 X101 q101
  obtain ⟨ta101, bx101, rfl, N101, K101, E_101, Bv_101, Bc_101, Bn_101, Y_101, Et_101, hc101, hm101, ht101, ho101⟩ := q101
  have ne102 : a1 ≠ ta101 := ho101.elim (fun e => e ▸ hat) (fun q => Nat.ne_of_lt (Nat.lt_of_lt_of_le (Exa.lt E1) q))
  have ne103 : a2 ≠ ta101 := ho101.elim (fun e => e ▸ hab) (fun q => Nat.ne_of_lt (Nat.lt_of_lt_of_le (Exa.lt E2) q))
  have ne104 : t2 ≠ ta101 := ho101.elim (fun e => e ▸ hne) (fun q => Nat.ne_of_lt (Nat.lt_of_lt_of_le (OG.BA.lt Y2) q))
  have gn105 : n0 ≤ ta101 := ho101.elim (fun e => e ▸ g2) (fun q => Nat.le_trans Z0 q)
  have or106 : ta101 = t1 ∨ h0.size ≤ ta101 := ho101.imp id (fun q => Nat.le_trans (Nat.le_refl _) q)
  have M101 := Fr.app N0 N101
  show OG.Go _ _ _ _ (T101.setTop (mkF m 5 #[.val (.ref a1), .val (.ref a2)] [(.ref a1)]))
  refine OG.pop X101 hx hby own_d_sb_apps_5 rfl rfl ?_
  refine OG.aloadN X101 hx hby own_d_sb_apps_6 rfl rfl rfl ?_
  refine OG.retA X101 hx hby Bd.returns rfl rfl rfl own_d_sb_apps_7 Bd.notSynchronized (by decide) (by decide) ?_
  exact ⟨ta101, bx101, rfl, M101, (Keep.trans (Keep.refl h0 [a1, t1]) K101 (allS (Or.inl (by simp)) (allS (Or.inl (by simp)) all0))), E_101, Bv_101, Bc_101, Bn_101, Y_101, Et_101, hc101, hm101, ht101, or106⟩
theorem own_d_getval_0 : decode jdk_68_method_64_code 0 = .ok (.aload_n 0, 1) := by decide +kernel
theorem own_d_getval_1 : decode jdk_68_method_64_code 1 = .ok (.getfield 15, 3) := by decide +kernel
theorem own_d_getval_4 : decode jdk_68_method_64_code 4 = .ok (.areturn, 1) := by decide +kernel
theorem own_pn_getval : plainName "java/lang/AbstractStringBuilder" = true := by first | (simp [plainName, overriddenIn]; done) | decide +kernel
theorem own_ef_getval (m : MethodId) (x0 : Addr)  : entryFrame m #[(.ref x0)] 1 = mkF m 0 #[.val (.ref x0)] [] := by first | (simp [entryFrame, mkF, argsToLocals, Value.category]; done) | rfl
def own_Q_getval (Z : State) (a1 : Addr) (t1 : Addr) (h0 : Heap) (n0 : Nat) (v : Option Value) (h : Heap) (L : List Loc) : Prop := v = some (.ref t1) ∧ Fr n0 L ∧ h = h0
set_option maxRecDepth 65536 in
set_option maxHeartbeats 40000000 in
theorem own_rm_getval (l : Launch) (Z : State) (a0 : Array Value) (hw : ∀ d ∈ tables_1, d.before a0 Z = true) (ws : List Jvm.Cond) (a1 : Addr) (t1 : Addr) (h0 : Heap) (n0 : Nat) (Z0 : n0 ≤ h0.size) (Bv1 : Fld Z h0 a1 "java/lang/AbstractStringBuilder" "value" "[B" (.ref t1)) :
    MetFree l (⟨"java/lang/AbstractStringBuilder", "getValue", "()[B"⟩ : MethodName) (head1 (Jvm.Cond.code (⟨"java/lang/AbstractStringBuilder", "getValue", "()[B"⟩ : MethodName) jdk_68_method_64_code 1 (some (.array .byte)) :: ws) ({ frames := 0, cells := 0, slots := 0, locals := 0 } : Room)) (fun a U => a = #[(.ref a1)] ∧ Z.Warmed39 U.vm ∧ U.heap = h0) (fun _ _ _ _ _ => True) (fun _ U o U' => ∃ v L, o = .returned v ∧ own_Q_getval Z a1 t1 h0 n0 v U'.heap L ∧ FrameEnd U o U' L ({ frames := 0, cells := 0, slots := 0, locals := 0 } : Room).cells ({ frames := 0, cells := 0, slots := 0, locals := 0 } : Room).slots) := by
  refine MetFree.of_bodySF (plainFor_of_name own_pn_getval) hisR ?_
  intro p e s m args below meth c s₁ Bd hml0 hP hK
  obtain ⟨rfl, hZ, hh⟩ := hP
  have hx := Bd.exec
  have hby := Bd.bytes
  have hml : c.maxLocals = 1 := hml0
  have hown : s.vm.findClass "java/lang/AbstractStringBuilder" = some m.cls := findClass_of_methodNamed Bd.named
  have hnm := (name_of_methodNamed Bd.named Bd.method).1
  have X0 : Stand p l e ({ frames := 0, cells := 0, slots := 0, locals := 0 } : Room) s m #[(.ref a1)] below meth c s₁ [] 0 0 := Stand.of_body Bd
  have e0 : s₁.heap = h0 := by rw [← hh, Bd.state]; rfl
  have N0 := Fr.nil n0
  show OG.Go p.tables e below (OG.GP (own_Q_getval Z a1 t1 h0 n0) ({ frames := 0, cells := 0, slots := 0, locals := 0 } : Room).cells ({ frames := 0, cells := 0, slots := 0, locals := 0 } : Room).slots s) (s₁.setTop (entryFrame m #[(.ref a1)] 1))
  refine OG.Go.cast (own_ef_getval m a1) ?_
  refine OG.aloadN X0 hx hby own_d_getval_0 rfl rfl rfl ?_
  refine OG.gF X0 hx hZ hby hown (hw _ (List.mem_of_getElem? (i := 103) rfl)) Via.refl e0 Bv1 own_d_getval_1 rfl ?_
  intro T101 X101 e101
  refine OG.retA X101 hx hby Bd.returns rfl rfl rfl own_d_getval_4 Bd.notSynchronized (by decide) (by decide) ?_
  exact ⟨rfl, N0, e101⟩
theorem own_d_asb_len_0 : decode jdk_68_method_6_code 0 = .ok (.aload_n 0, 1) := by decide +kernel
theorem own_d_asb_len_1 : decode jdk_68_method_6_code 1 = .ok (.getfield 79, 3) := by decide +kernel
theorem own_d_asb_len_4 : decode jdk_68_method_6_code 4 = .ok (.ireturn, 1) := by decide +kernel
theorem own_pn_asb_len : plainName "java/lang/AbstractStringBuilder" = true := by first | (simp [plainName, overriddenIn]; done) | decide +kernel
theorem own_ef_asb_len (m : MethodId) (x0 : Addr)  : entryFrame m #[(.ref x0)] 1 = mkF m 0 #[.val (.ref x0)] [] := by first | (simp [entryFrame, mkF, argsToLocals, Value.category]; done) | rfl
def own_Q_asb_len (Z : State) (a1 : Addr) (n : Nat) (h0 : Heap) (n0 : Nat) (v : Option Value) (h : Heap) (L : List Loc) : Prop := v = some (.int (Int32.ofNat n)) ∧ Fr n0 L ∧ h = h0
set_option maxRecDepth 65536 in
set_option maxHeartbeats 40000000 in
theorem own_rm_asb_len (l : Launch) (Z : State) (a0 : Array Value) (hw : ∀ d ∈ tables_1, d.before a0 Z = true) (ws : List Jvm.Cond) (a1 : Addr) (n : Nat) (h0 : Heap) (n0 : Nat) (Z0 : n0 ≤ h0.size) (Bn1 : Fld Z h0 a1 "java/lang/AbstractStringBuilder" "count" "I" (.int (Int32.ofNat n))) :
    MetFree l (⟨"java/lang/AbstractStringBuilder", "length", "()I"⟩ : MethodName) (head1 (Jvm.Cond.code (⟨"java/lang/AbstractStringBuilder", "length", "()I"⟩ : MethodName) jdk_68_method_6_code 1 (some .int) :: ws) ({ frames := 0, cells := 0, slots := 0, locals := 0 } : Room)) (fun a U => a = #[(.ref a1)] ∧ Z.Warmed39 U.vm ∧ U.heap = h0) (fun _ _ _ _ _ => True) (fun _ U o U' => ∃ v L, o = .returned v ∧ own_Q_asb_len Z a1 n h0 n0 v U'.heap L ∧ FrameEnd U o U' L ({ frames := 0, cells := 0, slots := 0, locals := 0 } : Room).cells ({ frames := 0, cells := 0, slots := 0, locals := 0 } : Room).slots) := by
  refine MetFree.of_bodySF (plainFor_of_name own_pn_asb_len) hisR ?_
  intro p e s m args below meth c s₁ Bd hml0 hP hK
  obtain ⟨rfl, hZ, hh⟩ := hP
  have hx := Bd.exec
  have hby := Bd.bytes
  have hml : c.maxLocals = 1 := hml0
  have hown : s.vm.findClass "java/lang/AbstractStringBuilder" = some m.cls := findClass_of_methodNamed Bd.named
  have hnm := (name_of_methodNamed Bd.named Bd.method).1
  have X0 : Stand p l e ({ frames := 0, cells := 0, slots := 0, locals := 0 } : Room) s m #[(.ref a1)] below meth c s₁ [] 0 0 := Stand.of_body Bd
  have e0 : s₁.heap = h0 := by rw [← hh, Bd.state]; rfl
  have N0 := Fr.nil n0
  show OG.Go p.tables e below (OG.GP (own_Q_asb_len Z a1 n h0 n0) ({ frames := 0, cells := 0, slots := 0, locals := 0 } : Room).cells ({ frames := 0, cells := 0, slots := 0, locals := 0 } : Room).slots s) (s₁.setTop (entryFrame m #[(.ref a1)] 1))
  refine OG.Go.cast (own_ef_asb_len m a1) ?_
  refine OG.aloadN X0 hx hby own_d_asb_len_0 rfl rfl rfl ?_
  refine OG.gF X0 hx hZ hby hown (hw _ (List.mem_of_getElem? (i := 127) rfl)) Via.refl e0 Bn1 own_d_asb_len_1 rfl ?_
  intro T101 X101 e101
  refine OG.retI X101 hx hby Bd.returns own_d_asb_len_4 Bd.notSynchronized (by decide) (by decide) ?_
  exact ⟨rfl, N0, e101⟩
theorem own_d_sb_len_0 : decode jdk_67_method_93_code 0 = .ok (.aload_n 0, 1) := by decide +kernel
theorem own_d_sb_len_1 : decode jdk_67_method_93_code 1 = .ok (.invokespecial 343, 3) := by decide +kernel
theorem own_d_sb_len_4 : decode jdk_67_method_93_code 4 = .ok (.ireturn, 1) := by decide +kernel
theorem own_pn_sb_len : plainName "java/lang/StringBuilder" = true := by first | (simp [plainName, overriddenIn]; done) | decide +kernel
theorem own_ef_sb_len (m : MethodId) (x0 : Addr)  : entryFrame m #[(.ref x0)] 1 = mkF m 0 #[.val (.ref x0)] [] := by first | (simp [entryFrame, mkF, argsToLocals, Value.category]; done) | rfl
def own_Q_sb_len (Z : State) (a1 : Addr) (n : Nat) (h0 : Heap) (n0 : Nat) (v : Option Value) (h : Heap) (L : List Loc) : Prop := v = some (.int (Int32.ofNat n)) ∧ Fr n0 L ∧ h = h0
set_option maxRecDepth 65536 in
set_option maxHeartbeats 40000000 in
theorem own_rm_sb_len (l : Launch) (Z : State) (a0 : Array Value) (hw : ∀ d ∈ tables_1, d.before a0 Z = true) (ws : List Jvm.Cond) (a1 : Addr) (n : Nat) (h0 : Heap) (n0 : Nat) (Z0 : n0 ≤ h0.size) (Bn1 : Fld Z h0 a1 "java/lang/AbstractStringBuilder" "count" "I" (.int (Int32.ofNat n))) (E1 : Exa Z h0 a1 "java/lang/StringBuilder") :
    MetFree l (⟨"java/lang/StringBuilder", "length", "()I"⟩ : MethodName) (head1 (Jvm.Cond.code (⟨"java/lang/StringBuilder", "length", "()I"⟩ : MethodName) jdk_67_method_93_code 1 (some .int) :: ws) ({ frames := 1, cells := 0, slots := 0, locals := 12 } : Room)) (fun a U => a = #[(.ref a1)] ∧ Z.Warmed39 U.vm ∧ U.heap = h0) (fun _ _ _ _ _ => True) (fun _ U o U' => ∃ v L, o = .returned v ∧ own_Q_sb_len Z a1 n h0 n0 v U'.heap L ∧ FrameEnd U o U' L ({ frames := 1, cells := 0, slots := 0, locals := 12 } : Room).cells ({ frames := 1, cells := 0, slots := 0, locals := 12 } : Room).slots) := by
  refine MetFree.of_bodySF (plainFor_of_name own_pn_sb_len) hisR ?_
  intro p e s m args below meth c s₁ Bd hml0 hP hK
  obtain ⟨rfl, hZ, hh⟩ := hP
  have hx := Bd.exec
  have hby := Bd.bytes
  have hml : c.maxLocals = 1 := hml0
  have hown : s.vm.findClass "java/lang/StringBuilder" = some m.cls := findClass_of_methodNamed Bd.named
  have hnm := (name_of_methodNamed Bd.named Bd.method).1
  have X0 : Stand p l e ({ frames := 1, cells := 0, slots := 0, locals := 12 } : Room) s m #[(.ref a1)] below meth c s₁ [] 0 0 := Stand.of_body Bd
  have e0 : s₁.heap = h0 := by rw [← hh, Bd.state]; rfl
  have N0 := Fr.nil n0
  show OG.Go p.tables e below (OG.GP (own_Q_sb_len Z a1 n h0 n0) ({ frames := 1, cells := 0, slots := 0, locals := 12 } : Room).cells ({ frames := 1, cells := 0, slots := 0, locals := 12 } : Room).slots s) (s₁.setTop (entryFrame m #[(.ref a1)] 1))
  refine OG.Go.cast (own_ef_sb_len m a1) ?_
  refine OG.aloadN X0 hx hby own_d_sb_len_0 rfl rfl rfl ?_
  refine OG.cU X0 hx hZ hby (by rw [hml]; rfl) hown (y := (⟨"java/lang/AbstractStringBuilder", "length", "()I"⟩ : MethodName)) (hw _ (List.mem_of_getElem? (i := 178) rfl)) (OG.sameSelf (y := (⟨"java/lang/AbstractStringBuilder", "length", "()I"⟩ : MethodName)) (hw _ (List.mem_of_getElem? (i := 132) rfl)) rfl (hw _ (List.mem_of_getElem? (i := 174) rfl)) (by decide)) (hw _ (List.mem_of_getElem? (i := 174) rfl)) (hw _ (List.mem_of_getElem? (i := 114) rfl)) (by decide) (hw _ (List.mem_of_getElem? (i := 179) rfl)) (hw _ (List.mem_of_getElem? (i := 99) rfl)) (own_rm_asb_len l Z a0 hw [] a1 n h0 n0 Z0 Bn1) E1 e0 (argsL := []) (stk := [(.ref a1)]) (st := []) own_pd_8 rfl rfl rfl (W := 0) rfl (by decide) (by decide) (by decide) (by decide) own_d_sb_len_1 rfl ?_
  intro T101 L101 v101 X101 q101
  obtain ⟨rfl, N101, e101⟩ := q101
  have M101 := Fr.app N0 N101
  show OG.Go _ _ _ _ (T101.setTop (mkF m 4 #[.val (.ref a1)] [(.int (Int32.ofNat n))]))
  refine OG.retI X101 hx hby Bd.returns own_d_sb_len_4 Bd.notSynchronized (by decide) (by decide) ?_
  exact ⟨rfl, M101, e101⟩
theorem own_d_chklen_0 : decode jdk_65_method_131_code 0 = .ok (.iload_n 1, 1) := by decide +kernel
theorem own_d_chklen_1 : decode jdk_65_method_131_code 1 = .ok (.iload_n 0, 1) := by decide +kernel
theorem own_d_chklen_2 : decode jdk_65_method_131_code 2 = .ok (.if_icmp .ge 35, 3) := by decide +kernel
theorem own_d_chklen_37 : decode jdk_65_method_131_code 37 = .ok (.return_, 1) := by decide +kernel
theorem own_pn_chklen : plainName "java/util/Arrays" = true := by first | (simp [plainName, overriddenIn]; done) | decide +kernel
theorem own_ef_chklen (m : MethodId) (x0 : Int32) (x1 : Int32)  : entryFrame m #[(.int x0), (.int x1)] 2 = mkF m 0 #[.val (.int x0), .val (.int x1)] [] := by first | (simp [entryFrame, mkF, argsToLocals, Value.category]; done) | rfl
def own_Q_chklen (Z : State) (n : Nat) (h0 : Heap) (n0 : Nat) (v : Option Value) (h : Heap) (L : List Loc) : Prop := v = none ∧ Fr n0 L ∧ h = h0
set_option maxRecDepth 65536 in
set_option maxHeartbeats 40000000 in
theorem own_rm_chklen (l : Launch) (Z : State) (a0 : Array Value) (hw : ∀ d ∈ tables_1, d.before a0 Z = true) (ws : List Jvm.Cond) (n : Nat) (h0 : Heap) (n0 : Nat) (Z0 : n0 ≤ h0.size) (hn0 : ¬ (Int32.ofNat n) < (0 : Int32)) :
    MetFree l (⟨"java/util/Arrays", "checkLength", "(II)V"⟩ : MethodName) (head1 (Jvm.Cond.code (⟨"java/util/Arrays", "checkLength", "(II)V"⟩ : MethodName) jdk_65_method_131_code 2 none :: ws) ({ frames := 0, cells := 0, slots := 0, locals := 0 } : Room)) (fun a U => a = #[(.int (0 : Int32)), (.int (Int32.ofNat n))] ∧ Z.Warmed39 U.vm ∧ U.heap = h0) (fun _ _ _ _ _ => True) (fun _ U o U' => ∃ v L, o = .returned v ∧ own_Q_chklen Z n h0 n0 v U'.heap L ∧ FrameEnd U o U' L ({ frames := 0, cells := 0, slots := 0, locals := 0 } : Room).cells ({ frames := 0, cells := 0, slots := 0, locals := 0 } : Room).slots) := by
  refine MetFree.of_bodySF (plainFor_of_name own_pn_chklen) hisR ?_
  intro p e s m args below meth c s₁ Bd hml0 hP hK
  obtain ⟨rfl, hZ, hh⟩ := hP
  have hx := Bd.exec
  have hby := Bd.bytes
  have hml : c.maxLocals = 2 := hml0
  have hown : s.vm.findClass "java/util/Arrays" = some m.cls := findClass_of_methodNamed Bd.named
  have hnm := (name_of_methodNamed Bd.named Bd.method).1
  have X0 : Stand p l e ({ frames := 0, cells := 0, slots := 0, locals := 0 } : Room) s m #[(.int (0 : Int32)), (.int (Int32.ofNat n))] below meth c s₁ [] 0 0 := Stand.of_body Bd
  have e0 : s₁.heap = h0 := by rw [← hh, Bd.state]; rfl
  have N0 := Fr.nil n0
  show OG.Go p.tables e below (OG.GP (own_Q_chklen Z n h0 n0) ({ frames := 0, cells := 0, slots := 0, locals := 0 } : Room).cells ({ frames := 0, cells := 0, slots := 0, locals := 0 } : Room).slots s) (s₁.setTop (entryFrame m #[(.int (0 : Int32)), (.int (Int32.ofNat n))] 2))
  refine OG.Go.cast (own_ef_chklen m (0 : Int32) (Int32.ofNat n)) ?_
  refine OG.iloadN X0 hx hby own_d_chklen_0 rfl rfl ?_
  refine OG.iloadN X0 hx hby own_d_chklen_1 rfl rfl ?_
  refine OG.icmpYes (pc' := 37) X0 hx hby own_d_chklen_2 (flt hn0).2.1 (by decide) (by decide) ?_
  refine OG.retV X0 hx hby Bd.returns own_d_chklen_37 Bd.notSynchronized (by decide) (by decide) ?_
  exact ⟨rfl, N0, e0⟩
theorem own_minN {n m : Nat} (h : n ≤ m) (hm : m < 2147483648) : (if (Int32.ofNat n) < (Int32.ofNat m) then (Int32.ofNat n) else (Int32.ofNat m)) = (Int32.ofNat n) := by
  split
  · rfl
  · rename_i q
    rw [OG.ofN_ltiff (by omega) hm] at q
    rw [show m = n by omega]
theorem own_cpr {bs : List Int32} {n : Nat} : (List.replicate n (0 : Int32)).take 0 ++ (bs.drop 0).take n ++ (List.replicate n (0 : Int32)).drop (0 + n) = bs.take n := by
  rw [List.take_zero, List.nil_append, List.drop_zero, List.drop_of_length_le (by simp), List.append_nil]
theorem own_d_cprb_0 : decode jdk_65_method_133_code 0 = .ok (.iload_n 1, 1) := by decide +kernel
theorem own_d_cprb_1 : decode jdk_65_method_133_code 1 = .ok (.iload_n 2, 1) := by decide +kernel
theorem own_d_cprb_2 : decode jdk_65_method_133_code 2 = .ok (.invokestatic 343, 3) := by decide +kernel
theorem own_d_cprb_5 : decode jdk_65_method_133_code 5 = .ok (.iload_n 2, 1) := by decide +kernel
theorem own_d_cprb_6 : decode jdk_65_method_133_code 6 = .ok (.iload_n 1, 1) := by decide +kernel
theorem own_d_cprb_7 : decode jdk_65_method_133_code 7 = .ok (.isub, 1) := by decide +kernel
theorem own_d_cprb_8 : decode jdk_65_method_133_code 8 = .ok (.istore_n 3, 1) := by decide +kernel
theorem own_d_cprb_9 : decode jdk_65_method_133_code 9 = .ok (.iload_n 3, 1) := by decide +kernel
theorem own_d_cprb_10 : decode jdk_65_method_133_code 10 = .ok (.newarray .byte, 2) := by decide +kernel
theorem own_d_cprb_12 : decode jdk_65_method_133_code 12 = .ok (.astore 4, 2) := by decide +kernel
theorem own_d_cprb_14 : decode jdk_65_method_133_code 14 = .ok (.aload_n 0, 1) := by decide +kernel
theorem own_d_cprb_15 : decode jdk_65_method_133_code 15 = .ok (.iload_n 1, 1) := by decide +kernel
theorem own_d_cprb_16 : decode jdk_65_method_133_code 16 = .ok (.aload 4, 2) := by decide +kernel
theorem own_d_cprb_18 : decode jdk_65_method_133_code 18 = .ok (.iconst 0, 1) := by decide +kernel
theorem own_d_cprb_19 : decode jdk_65_method_133_code 19 = .ok (.aload_n 0, 1) := by decide +kernel
theorem own_d_cprb_20 : decode jdk_65_method_133_code 20 = .ok (.arraylength, 1) := by decide +kernel
theorem own_d_cprb_21 : decode jdk_65_method_133_code 21 = .ok (.iload_n 1, 1) := by decide +kernel
theorem own_d_cprb_22 : decode jdk_65_method_133_code 22 = .ok (.isub, 1) := by decide +kernel
theorem own_d_cprb_23 : decode jdk_65_method_133_code 23 = .ok (.iload_n 3, 1) := by decide +kernel
theorem own_d_cprb_24 : decode jdk_65_method_133_code 24 = .ok (.invokestatic 304, 3) := by decide +kernel
theorem own_d_cprb_27 : decode jdk_65_method_133_code 27 = .ok (.invokestatic 150, 3) := by decide +kernel
theorem own_d_cprb_30 : decode jdk_65_method_133_code 30 = .ok (.aload 4, 2) := by decide +kernel
theorem own_d_cprb_32 : decode jdk_65_method_133_code 32 = .ok (.areturn, 1) := by decide +kernel
theorem own_pn_cprb : plainName "java/util/Arrays" = true := by first | (simp [plainName, overriddenIn]; done) | decide +kernel
theorem own_ef_cprb (m : MethodId) (x0 : Addr) (x1 : Int32) (x2 : Int32)  : entryFrame m #[(.ref x0), (.int x1), (.int x2)] 5 = mkF m 0 #[.val (.ref x0), .val (.int x1), .val (.int x2), .unset, .unset] [] := by first | (simp [entryFrame, mkF, argsToLocals, Value.category]; done) | rfl
def own_Q_cprb (Z : State) (t1 : Addr) (bs : List Int32) (n : Nat) (h0 : Heap) (n0 : Nat) (v : Option Value) (h : Heap) (L : List Loc) : Prop := ∃ t, v = some (.ref t) ∧ Fr n0 L ∧ Keep h0 h [] ∧ OG.BA Z h t (bs.take n) ∧ Exa Z h t "[B" ∧ h0.size ≤ t
set_option maxRecDepth 65536 in
set_option maxHeartbeats 40000000 in
theorem own_rm_cprb (l : Launch) (Z : State) (a0 : Array Value) (hw : ∀ d ∈ tables_1, d.before a0 Z = true) (ws : List Jvm.Cond) (t1 : Addr) (bs : List Int32) (n : Nat) (h0 : Heap) (n0 : Nat) (Z0 : n0 ≤ h0.size) (Y1 : OG.BA Z h0 t1 bs) (hn : n ≤ bs.length) (h34 : bs.length ≤ 34) :
    MetFree l (⟨"java/util/Arrays", "copyOfRangeByte", "([BII)[B"⟩ : MethodName) (head1 (Jvm.Cond.code (⟨"java/util/Arrays", "copyOfRangeByte", "([BII)[B"⟩ : MethodName) jdk_65_method_133_code 5 (some (.array .byte)) :: ws) ({ frames := 1, cells := 1, slots := 34, locals := 18 } : Room)) (fun a U => a = #[(.ref t1), (.int (0 : Int32)), (.int (Int32.ofNat n))] ∧ Z.Warmed39 U.vm ∧ U.heap = h0) (fun _ _ _ _ _ => True) (fun _ U o U' => ∃ v L, o = .returned v ∧ own_Q_cprb Z t1 bs n h0 n0 v U'.heap L ∧ FrameEnd U o U' L ({ frames := 1, cells := 1, slots := 34, locals := 18 } : Room).cells ({ frames := 1, cells := 1, slots := 34, locals := 18 } : Room).slots) := by
  refine MetFree.of_bodySF (plainFor_of_name own_pn_cprb) hisR ?_
  intro p e s m args below meth c s₁ Bd hml0 hP hK
  obtain ⟨rfl, hZ, hh⟩ := hP
  have hx := Bd.exec
  have hby := Bd.bytes
  have hml : c.maxLocals = 5 := hml0
  have hown : s.vm.findClass "java/util/Arrays" = some m.cls := findClass_of_methodNamed Bd.named
  have hnm := (name_of_methodNamed Bd.named Bd.method).1
  have X0 : Stand p l e ({ frames := 1, cells := 1, slots := 34, locals := 18 } : Room) s m #[(.ref t1), (.int (0 : Int32)), (.int (Int32.ofNat n))] below meth c s₁ [] 0 0 := Stand.of_body Bd
  have e0 : s₁.heap = h0 := by rw [← hh, Bd.state]; rfl
  have N0 := Fr.nil n0
  show OG.Go p.tables e below (OG.GP (own_Q_cprb Z t1 bs n h0 n0) ({ frames := 1, cells := 1, slots := 34, locals := 18 } : Room).cells ({ frames := 1, cells := 1, slots := 34, locals := 18 } : Room).slots s) (s₁.setTop (entryFrame m #[(.ref t1), (.int (0 : Int32)), (.int (Int32.ofNat n))] 5))
  refine OG.Go.cast (own_ef_cprb m t1 (0 : Int32) (Int32.ofNat n)) ?_
  have hn0 : ¬ (Int32.ofNat n) < (0 : Int32) := OG.ofN_nn (by omega)
  refine OG.iloadN X0 hx hby own_d_cprb_0 rfl rfl ?_
  refine OG.iloadN X0 hx hby own_d_cprb_1 rfl rfl ?_
  refine OG.cS X0 hx hZ hby (by rw [hml]; rfl) hown (y := (⟨"java/util/Arrays", "checkLength", "(II)V"⟩ : MethodName)) (hw _ (List.mem_of_getElem? (i := 192) rfl)) (hw _ (List.mem_of_getElem? (i := 193) rfl)) (hw _ (List.mem_of_getElem? (i := 194) rfl)) (hw _ (List.mem_of_getElem? (i := 187) rfl)) (by decide) (own_rm_chklen l Z a0 hw [] n h0 n0 Z0 hn0) e0 (argsL := [(.int (0 : Int32)), (.int (Int32.ofNat n))]) (stk := [(.int (Int32.ofNat n)), (.int (0 : Int32))]) (st := []) own_pd_2 rfl rfl rfl (W := 0) rfl (by decide) (by decide) (by decide) (by decide) own_d_cprb_2 rfl ?_
  intro T101 L101 v101 X101 q101
  obtain ⟨rfl, N101, e101⟩ := q101
  have M101 := Fr.app N0 N101
  show OG.Go _ _ _ _ (T101.setTop (mkF m 5 #[.val (.ref t1), .val (.int (0 : Int32)), .val (.int (Int32.ofNat n)), .unset, .unset] []))
  refine OG.iloadN X101 hx hby own_d_cprb_5 rfl rfl ?_
  refine OG.iloadN X101 hx hby own_d_cprb_6 rfl rfl ?_
  refine OG.isub X101 hx hby own_d_cprb_7 rfl ?_
  rw [OG.sub0]
  refine OG.istoreN (Ls' := #[.val (.ref t1), .val (.int (0 : Int32)), .val (.int (Int32.ofNat n)), .val (.int (Int32.ofNat n)), .unset]) X101 hx hby own_d_cprb_8 rfl rfl ?_
  refine OG.iloadN X101 hx hby own_d_cprb_9 rfl rfl ?_
  refine OG.yN X101 hx hZ hby (hw _ (List.mem_of_getElem? (i := 18) rfl)) e101 (N := n) (cap := 34) rfl (Nat.le_trans hn h34) (by decide) (by decide) (by decide) own_d_cprb_10 rfl ?_
  intro T102 h102 b102 g102 X102 e102 E102 Y102 A102
  have ne103 : t1 ≠ b102 := Nat.ne_of_lt (Nat.lt_of_lt_of_le (OG.BA.lt Y1) (Nat.le_of_eq g102.symm))
  have gn104 : n0 ≤ b102 := Nat.le_trans Z0 (Nat.le_of_eq g102.symm)
  have sz105 : h0.size ≤ b102 := Nat.le_trans (Nat.le_refl _) (Nat.le_of_eq g102.symm)
  refine OG.astore (Ls' := #[.val (.ref t1), .val (.int (0 : Int32)), .val (.int (Int32.ofNat n)), .val (.int (Int32.ofNat n)), .val (.ref b102)]) X102 hx hby own_d_cprb_12 rfl rfl rfl ?_
  refine OG.aloadN X102 hx hby own_d_cprb_14 rfl rfl rfl ?_
  refine OG.iloadN X102 hx hby own_d_cprb_15 rfl rfl ?_
  refine OG.aload X102 hx hby own_d_cprb_16 rfl rfl rfl ?_
  refine OG.iconst (v := (0 : Int32)) X102 hx hby own_d_cprb_18 (by decide) rfl ?_
  refine OG.aloadN X102 hx hby own_d_cprb_19 rfl rfl rfl ?_
  have f106 := (OG.BA.ext Y1 E102)
  refine OG.yL X102 hx hZ hby e102 f106 own_d_cprb_20 rfl ?_
  refine OG.iloadN X102 hx hby own_d_cprb_21 rfl rfl ?_
  refine OG.isub X102 hx hby own_d_cprb_22 rfl ?_
  rw [OG.sub0]
  refine OG.iloadN X102 hx hby own_d_cprb_23 rfl rfl ?_
  refine OG.cS X102 hx hZ hby (by rw [hml]; rfl) hown (y := (⟨"java/lang/Math", "min", "(II)I"⟩ : MethodName)) (hw _ (List.mem_of_getElem? (i := 195) rfl)) (hw _ (List.mem_of_getElem? (i := 196) rfl)) (hw _ (List.mem_of_getElem? (i := 198) rfl)) (hw _ (List.mem_of_getElem? (i := 197) rfl)) (by decide) (own_rm_m_min l Z a0 hw [] (Int32.ofNat bs.length) (Int32.ofNat n) (Int32.ofNat n) h102 n0 (Nat.le_trans Z0 E102.1) (own_minN hn Y1.1)) e102 (argsL := [(.int (Int32.ofNat bs.length)), (.int (Int32.ofNat n))]) (stk := [(.int (Int32.ofNat n)), (.int (Int32.ofNat bs.length)), (.int (0 : Int32)), (.ref b102), (.int (0 : Int32)), (.ref t1)]) (st := [(.int (0 : Int32)), (.ref b102), (.int (0 : Int32)), (.ref t1)]) own_pd_11 rfl rfl rfl (W := 4) rfl (by decide) (by decide) (by decide) (by decide) own_d_cprb_24 rfl ?_
  intro T107 L107 v107 X107 q107
  obtain ⟨rfl, N107, e107⟩ := q107
  have M107 := Fr.app M101 N107
  show OG.Go _ _ _ _ (T107.setTop (mkF m 27 #[.val (.ref t1), .val (.int (0 : Int32)), .val (.int (Int32.ofNat n)), .val (.int (Int32.ofNat n)), .val (.ref b102)] [(.int (Int32.ofNat n)), (.int (0 : Int32)), (.ref b102), (.int (0 : Int32)), (.ref t1)]))
  refine OG.yC X107 hx hZ hby hown (by rw [hml]; rfl) (hw _ (List.mem_of_getElem? (i := 199) rfl)) (hw _ (List.mem_of_getElem? (i := 153) rfl)) (hw _ (List.mem_of_getElem? (i := 151) rfl)) (hw _ (List.mem_of_getElem? (i := 152) rfl)) e107 f106 Y102 (sn := 0) (dn := 0) (kn := n) rfl rfl rfl (by omega) (by simp) M107 gn104 (W := 0) rfl (by decide) (by decide) own_d_cprb_27 rfl ?_
  intro T108 h108 L108 X108 e108 N108 K108 Y108
  refine OG.aload X108 hx hby own_d_cprb_30 rfl rfl rfl ?_
  refine OG.retA X108 hx hby Bd.returns rfl rfl rfl own_d_cprb_32 Bd.notSynchronized (by decide) (by decide) ?_
  have f109 := (Exa.keep A102 K108)
  rw [e108]
  rw [own_cpr] at Y108
  exact ⟨b102, rfl, N108, (Keep.trans (Keep.ext (Keep.refl h0 []) E102) K108 (allS (Or.inr sz105) all0)), Y108, f109, sz105⟩
theorem own_d_cpr_0 : decode jdk_65_method_132_code 0 = .ok (.iload_n 1, 1) := by decide +kernel
theorem own_d_cpr_1 : decode jdk_65_method_132_code 1 = .ok (.ifCond .ne 9, 3) := by decide +kernel
theorem own_d_cpr_4 : decode jdk_65_method_132_code 4 = .ok (.iload_n 2, 1) := by decide +kernel
theorem own_d_cpr_5 : decode jdk_65_method_132_code 5 = .ok (.aload_n 0, 1) := by decide +kernel
theorem own_d_cpr_6 : decode jdk_65_method_132_code 6 = .ok (.arraylength, 1) := by decide +kernel
theorem own_d_cpr_7 : decode jdk_65_method_132_code 7 = .ok (.if_icmp .eq 10, 3) := by decide +kernel
theorem own_d_cpr_10 : decode jdk_65_method_132_code 10 = .ok (.aload_n 0, 1) := by decide +kernel
theorem own_d_cpr_11 : decode jdk_65_method_132_code 11 = .ok (.iload_n 1, 1) := by decide +kernel
theorem own_d_cpr_12 : decode jdk_65_method_132_code 12 = .ok (.iload_n 2, 1) := by decide +kernel
theorem own_d_cpr_13 : decode jdk_65_method_132_code 13 = .ok (.invokestatic 339, 3) := by decide +kernel
theorem own_d_cpr_16 : decode jdk_65_method_132_code 16 = .ok (.areturn, 1) := by decide +kernel
theorem own_pn_cpr : plainName "java/util/Arrays" = true := by first | (simp [plainName, overriddenIn]; done) | decide +kernel
theorem own_ef_cpr (m : MethodId) (x0 : Addr) (x1 : Int32) (x2 : Int32)  : entryFrame m #[(.ref x0), (.int x1), (.int x2)] 3 = mkF m 0 #[.val (.ref x0), .val (.int x1), .val (.int x2)] [] := by first | (simp [entryFrame, mkF, argsToLocals, Value.category]; done) | rfl
def own_Q_cpr (Z : State) (t1 : Addr) (bs : List Int32) (n : Nat) (h0 : Heap) (n0 : Nat) (v : Option Value) (h : Heap) (L : List Loc) : Prop := ∃ t, v = some (.ref t) ∧ Fr n0 L ∧ Keep h0 h [] ∧ OG.BA Z h t (bs.take n) ∧ Exa Z h t "[B" ∧ h0.size ≤ t
set_option maxRecDepth 65536 in
set_option maxHeartbeats 40000000 in
theorem own_rm_cpr (l : Launch) (Z : State) (a0 : Array Value) (hw : ∀ d ∈ tables_1, d.before a0 Z = true) (ws : List Jvm.Cond) (t1 : Addr) (bs : List Int32) (n : Nat) (h0 : Heap) (n0 : Nat) (Z0 : n0 ≤ h0.size) (Y1 : OG.BA Z h0 t1 bs) (hn : n ≤ bs.length) (h34 : bs.length ≤ 34) (Et1 : Exa Z h0 t1 "[B") (hnc : n ≠ bs.length) :
    MetFree l (⟨"java/util/Arrays", "copyOfRange", "([BII)[B"⟩ : MethodName) (head1 (Jvm.Cond.code (⟨"java/util/Arrays", "copyOfRange", "([BII)[B"⟩ : MethodName) jdk_65_method_132_code 3 (some (.array .byte)) :: ws) ({ frames := 2, cells := 1, slots := 34, locals := 34 } : Room)) (fun a U => a = #[(.ref t1), (.int (0 : Int32)), (.int (Int32.ofNat n))] ∧ Z.Warmed39 U.vm ∧ U.heap = h0) (fun _ _ _ _ _ => True) (fun _ U o U' => ∃ v L, o = .returned v ∧ own_Q_cpr Z t1 bs n h0 n0 v U'.heap L ∧ FrameEnd U o U' L ({ frames := 2, cells := 1, slots := 34, locals := 34 } : Room).cells ({ frames := 2, cells := 1, slots := 34, locals := 34 } : Room).slots) := by
  refine MetFree.of_bodySF (plainFor_of_name own_pn_cpr) hisR ?_
  intro p e s m args below meth c s₁ Bd hml0 hP hK
  obtain ⟨rfl, hZ, hh⟩ := hP
  have hx := Bd.exec
  have hby := Bd.bytes
  have hml : c.maxLocals = 3 := hml0
  have hown : s.vm.findClass "java/util/Arrays" = some m.cls := findClass_of_methodNamed Bd.named
  have hnm := (name_of_methodNamed Bd.named Bd.method).1
  have X0 : Stand p l e ({ frames := 2, cells := 1, slots := 34, locals := 34 } : Room) s m #[(.ref t1), (.int (0 : Int32)), (.int (Int32.ofNat n))] below meth c s₁ [] 0 0 := Stand.of_body Bd
  have e0 : s₁.heap = h0 := by rw [← hh, Bd.state]; rfl
  have N0 := Fr.nil n0
  show OG.Go p.tables e below (OG.GP (own_Q_cpr Z t1 bs n h0 n0) ({ frames := 2, cells := 1, slots := 34, locals := 34 } : Room).cells ({ frames := 2, cells := 1, slots := 34, locals := 34 } : Room).slots s) (s₁.setTop (entryFrame m #[(.ref t1), (.int (0 : Int32)), (.int (Int32.ofNat n))] 3))
  refine OG.Go.cast (own_ef_cpr m t1 (0 : Int32) (Int32.ofNat n)) ?_
  refine OG.iloadN X0 hx hby own_d_cpr_0 rfl rfl ?_
  refine OG.ifNo X0 hx hby own_d_cpr_1 (teq (by decide)).2 rfl ?_
  refine OG.iloadN X0 hx hby own_d_cpr_4 rfl rfl ?_
  refine OG.aloadN X0 hx hby own_d_cpr_5 rfl rfl rfl ?_
  refine OG.yL X0 hx hZ hby e0 Y1 own_d_cpr_6 rfl ?_
  by_cases hc7_101 : (Int32.ofNat n) = (Int32.ofNat bs.length)
  · exact absurd ((OG.ofN_inj (by omega) Y1.1).mp hc7_101) hnc
  · refine OG.icmpNo X0 hx hby own_d_cpr_7 (feq hc7_101).1 rfl ?_
    refine OG.aloadN X0 hx hby own_d_cpr_10 rfl rfl rfl ?_
    refine OG.iloadN X0 hx hby own_d_cpr_11 rfl rfl ?_
    refine OG.iloadN X0 hx hby own_d_cpr_12 rfl rfl ?_
    refine OG.cS X0 hx hZ hby (by rw [hml]; rfl) hown (y := (⟨"java/util/Arrays", "copyOfRangeByte", "([BII)[B"⟩ : MethodName)) (hw _ (List.mem_of_getElem? (i := 189) rfl)) (hw _ (List.mem_of_getElem? (i := 190) rfl)) (hw _ (List.mem_of_getElem? (i := 191) rfl)) (hw _ (List.mem_of_getElem? (i := 187) rfl)) (by decide) (own_rm_cprb l Z a0 hw [] t1 bs n h0 n0 Z0 Y1 hn h34) e0 (argsL := [(.ref t1), (.int (0 : Int32)), (.int (Int32.ofNat n))]) (stk := [(.int (Int32.ofNat n)), (.int (0 : Int32)), (.ref t1)]) (st := []) own_pd_12 rfl rfl rfl (W := 0) rfl (by decide) (by decide) (by decide) (by decide) own_d_cpr_13 rfl ?_
    intro T102 L102 v102 X102 q102
    obtain ⟨ta102, rfl, N102, K102, Y102, E102, sz102⟩ := q102
    have ne103 : t1 ≠ ta102 := Nat.ne_of_lt (Nat.lt_of_lt_of_le (OG.BA.lt Y1) sz102)
    have gn104 : n0 ≤ ta102 := Nat.le_trans Z0 sz102
    have sz105 : h0.size ≤ ta102 := Nat.le_trans (Nat.le_refl _) sz102
    have M102 := Fr.app N0 N102
    show OG.Go _ _ _ _ (T102.setTop (mkF m 16 #[.val (.ref t1), .val (.int (0 : Int32)), .val (.int (Int32.ofNat n))] [(.ref ta102)]))
    refine OG.retA X102 hx hby Bd.returns rfl rfl rfl own_d_cpr_16 Bd.notSynchronized (by decide) (by decide) ?_
    exact ⟨ta102, rfl, M102, (Keep.trans (Keep.refl h0 []) K102 all0), Y102, E102, sz105⟩
theorem own_d_s_inita_0 : decode jdk_42_method_150_code 0 = .ok (.aload_n 0, 1) := by decide +kernel
theorem own_d_s_inita_1 : decode jdk_42_method_150_code 1 = .ok (.invokespecial 1, 3) := by decide +kernel
theorem own_d_s_inita_4 : decode jdk_42_method_150_code 4 = .ok (.aload_n 1, 1) := by decide +kernel
theorem own_d_s_inita_5 : decode jdk_42_method_150_code 5 = .ok (.invokevirtual 552, 3) := by decide +kernel
theorem own_d_s_inita_8 : decode jdk_42_method_150_code 8 = .ok (.astore_n 3, 1) := by decide +kernel
theorem own_d_s_inita_9 : decode jdk_42_method_150_code 9 = .ok (.aload_n 1, 1) := by decide +kernel
theorem own_d_s_inita_10 : decode jdk_42_method_150_code 10 = .ok (.invokevirtual 549, 3) := by decide +kernel
theorem own_d_s_inita_13 : decode jdk_42_method_150_code 13 = .ok (.istore 4, 2) := by decide +kernel
theorem own_d_s_inita_15 : decode jdk_42_method_150_code 15 = .ok (.aload_n 1, 1) := by decide +kernel
theorem own_d_s_inita_16 : decode jdk_42_method_150_code 16 = .ok (.invokevirtual 1047, 3) := by decide +kernel
theorem own_d_s_inita_19 : decode jdk_42_method_150_code 19 = .ok (.ifCond .eq 22, 3) := by decide +kernel
theorem own_d_s_inita_22 : decode jdk_42_method_150_code 22 = .ok (.aload_n 0, 1) := by decide +kernel
theorem own_d_s_inita_23 : decode jdk_42_method_150_code 23 = .ok (.iconst 0, 1) := by decide +kernel
theorem own_d_s_inita_24 : decode jdk_42_method_150_code 24 = .ok (.putfield 15, 3) := by decide +kernel
theorem own_d_s_inita_27 : decode jdk_42_method_150_code 27 = .ok (.aload_n 0, 1) := by decide +kernel
theorem own_d_s_inita_28 : decode jdk_42_method_150_code 28 = .ok (.aload_n 3, 1) := by decide +kernel
theorem own_d_s_inita_29 : decode jdk_42_method_150_code 29 = .ok (.iconst 0, 1) := by decide +kernel
theorem own_d_s_inita_30 : decode jdk_42_method_150_code 30 = .ok (.iload 4, 2) := by decide +kernel
theorem own_d_s_inita_32 : decode jdk_42_method_150_code 32 = .ok (.invokestatic 54, 3) := by decide +kernel
theorem own_d_s_inita_35 : decode jdk_42_method_150_code 35 = .ok (.putfield 9, 3) := by decide +kernel
theorem own_d_s_inita_38 : decode jdk_42_method_150_code 38 = .ok (.goto 59, 3) := by decide +kernel
theorem own_d_s_inita_97 : decode jdk_42_method_150_code 97 = .ok (.return_, 1) := by decide +kernel
theorem own_pn_s_inita : plainName "java/lang/String" = true := by first | (simp [plainName, overriddenIn]; done) | decide +kernel
theorem own_ef_s_inita (m : MethodId) (x0 : Addr) (x1 : Addr)  : entryFrame m #[(.ref x0), (.ref x1), .null] 5 = mkF m 0 #[.val (.ref x0), .val (.ref x1), .val .null, .unset, .unset] [] := by first | (simp [entryFrame, mkF, argsToLocals, Value.category]; done) | rfl
def own_Q_s_inita (Z : State) (a0_ : Addr) (a1 : Addr) (t1 : Addr) (bs : List Int32) (n : Nat) (zc : Int32) (h0 : Heap) (n0 : Nat) (v : Option Value) (h : Heap) (L : List Loc) : Prop := ∃ t, v = none ∧ Fr n0 L ∧ Keep h0 h [a0_] ∧ (Exa Z h a0_ "java/lang/String") ∧ (Fld Z h a0_ "java/lang/String" "coder" "B" (.int (0 : Int32))) ∧ (Fld Z h a0_ "java/lang/String" "value" "[B" (.ref t)) ∧ (OG.BA Z h t (bs.take n)) ∧ h0.size ≤ t
set_option maxRecDepth 65536 in
set_option maxHeartbeats 40000000 in
theorem own_rm_s_inita (l : Launch) (Z : State) (a0 : Array Value) (hw : ∀ d ∈ tables_1, d.before a0 Z = true) (ws : List Jvm.Cond) (a0_ : Addr) (a1 : Addr) (t1 : Addr) (bs : List Int32) (n : Nat) (zc : Int32) (h0 : Heap) (n0 : Nat) (Z0 : n0 ≤ h0.size) (O1 : Old Z n0 h0) (S_cs : Sta Z Z.heap "java/lang/String" "COMPACT_STRINGS" "Z" (.int zc)) (hzc : ¬ zc = (0 : Int32)) (E0 : Exa Z h0 a0_ "java/lang/String") (Fc0 : Fld Z h0 a0_ "java/lang/String" "coder" "B" (.int (0 : Int32))) (Fv0 : Fld Z h0 a0_ "java/lang/String" "value" "[B" .null) (g0 : n0 ≤ a0_) (E1 : Exa Z h0 a1 "java/lang/StringBuilder") (Bv1 : Fld Z h0 a1 "java/lang/AbstractStringBuilder" "value" "[B" (.ref t1)) (Bc1 : Fld Z h0 a1 "java/lang/AbstractStringBuilder" "coder" "B" (.int (0 : Int32))) (Bn1 : Fld Z h0 a1 "java/lang/AbstractStringBuilder" "count" "I" (.int (Int32.ofNat n))) (Y1 : OG.BA Z h0 t1 bs) (Et1 : Exa Z h0 t1 "[B") (hn : n ≤ bs.length) (h34 : bs.length ≤ 34) (hnc : n ≠ bs.length) :
    MetFree l (⟨"java/lang/String", "<init>", "(Ljava/lang/AbstractStringBuilder;Ljava/lang/Void;)V"⟩ : MethodName) (head1 (Jvm.Cond.code (⟨"java/lang/String", "<init>", "(Ljava/lang/AbstractStringBuilder;Ljava/lang/Void;)V"⟩ : MethodName) jdk_42_method_150_code 5 none :: ws) ({ frames := 3, cells := 1, slots := 34, locals := 49 } : Room)) (fun a U => a = #[(.ref a0_), (.ref a1), .null] ∧ Z.Warmed39 U.vm ∧ U.heap = h0) (fun _ _ _ _ _ => True) (fun _ U o U' => ∃ v L, o = .returned v ∧ own_Q_s_inita Z a0_ a1 t1 bs n zc h0 n0 v U'.heap L ∧ FrameEnd U o U' L ({ frames := 3, cells := 1, slots := 34, locals := 49 } : Room).cells ({ frames := 3, cells := 1, slots := 34, locals := 49 } : Room).slots) := by
  refine MetFree.of_bodySF (plainFor_of_name own_pn_s_inita) hisR ?_
  intro p e s m args below meth c s₁ Bd hml0 hP hK
  obtain ⟨rfl, hZ, hh⟩ := hP
  have hx := Bd.exec
  have hby := Bd.bytes
  have hml : c.maxLocals = 5 := hml0
  have hown : s.vm.findClass "java/lang/String" = some m.cls := findClass_of_methodNamed Bd.named
  have hnm := (name_of_methodNamed Bd.named Bd.method).1
  have X0 : Stand p l e ({ frames := 3, cells := 1, slots := 34, locals := 49 } : Room) s m #[(.ref a0_), (.ref a1), .null] below meth c s₁ [] 0 0 := Stand.of_body Bd
  have e0 : s₁.heap = h0 := by rw [← hh, Bd.state]; rfl
  have N0 := Fr.nil n0
  show OG.Go p.tables e below (OG.GP (own_Q_s_inita Z a0_ a1 t1 bs n zc h0 n0) ({ frames := 3, cells := 1, slots := 34, locals := 49 } : Room).cells ({ frames := 3, cells := 1, slots := 34, locals := 49 } : Room).slots s) (s₁.setTop (entryFrame m #[(.ref a0_), (.ref a1), .null] 5))
  refine OG.Go.cast (own_ef_s_inita m a0_ a1) ?_
  have h01 : a0_ ≠ a1 := ne_exa E0 E1 (by decide)
  have h0t : a0_ ≠ t1 := ne_exa E0 Et1 (by decide)
  refine OG.aloadN X0 hx hby own_d_s_inita_0 rfl rfl rfl ?_
  refine OG.iO X0 hx hZ hby hown (by rw [hml]; rfl) (hw _ (List.mem_of_getElem? (i := 23) rfl)) (hw _ (List.mem_of_getElem? (i := 24) rfl)) (hw _ (List.mem_of_getElem? (i := 25) rfl)) e0 (W := 0) rfl (by decide) (by decide) own_d_s_inita_1 rfl ?_
  intro T101 X101 e101
  refine OG.aloadN X101 hx hby own_d_s_inita_4 rfl rfl rfl ?_
  refine OG.cV X101 hx hZ hby (by rw [hml]; rfl) hown (y := (⟨"java/lang/AbstractStringBuilder", "getValue", "()[B"⟩ : MethodName)) (z := (⟨"java/lang/AbstractStringBuilder", "getValue", "()[B"⟩ : MethodName)) (hw _ (List.mem_of_getElem? (i := 167) rfl)) (hw _ (List.mem_of_getElem? (i := 168) rfl)) (notFace_of_selects (args := #[]) (mvT hZ (hw _ (List.mem_of_getElem? (i := 170) rfl)))) (hw _ (List.mem_of_getElem? (i := 170) rfl)) (hw _ (List.mem_of_getElem? (i := 169) rfl)) (hw _ (List.mem_of_getElem? (i := 171) rfl)) (hw _ (List.mem_of_getElem? (i := 99) rfl)) (by decide) (own_rm_getval l Z a0 hw [] a1 t1 h0 n0 Z0 Bv1) E1 e101 (argsL := []) (stk := [(.ref a1)]) (st := []) own_pd_13 rfl rfl rfl (W := 0) rfl (by decide) (by decide) (by decide) (by decide) own_d_s_inita_5 rfl ?_
  intro T102 L102 v102 X102 q102
  obtain ⟨rfl, N102, e102⟩ := q102
  have M102 := Fr.app N0 N102
  show OG.Go _ _ _ _ (T102.setTop (mkF m 8 #[.val (.ref a0_), .val (.ref a1), .val .null, .unset, .unset] [(.ref t1)]))
  refine OG.astoreN (Ls' := #[.val (.ref a0_), .val (.ref a1), .val .null, .val (.ref t1), .unset]) X102 hx hby own_d_s_inita_8 rfl rfl rfl ?_
  refine OG.aloadN X102 hx hby own_d_s_inita_9 rfl rfl rfl ?_
  refine OG.cV X102 hx hZ hby (by rw [hml]; rfl) hown (y := (⟨"java/lang/AbstractStringBuilder", "length", "()I"⟩ : MethodName)) (z := (⟨"java/lang/StringBuilder", "length", "()I"⟩ : MethodName)) (hw _ (List.mem_of_getElem? (i := 172) rfl)) (hw _ (List.mem_of_getElem? (i := 173) rfl)) (OG.nfSel (args' := #[]) (mvT hZ (hw _ (List.mem_of_getElem? (i := 132) rfl))) rfl) (hw _ (List.mem_of_getElem? (i := 175) rfl)) (hw _ (List.mem_of_getElem? (i := 176) rfl)) (hw _ (List.mem_of_getElem? (i := 177) rfl)) (hw _ (List.mem_of_getElem? (i := 91) rfl)) (by decide) (own_rm_sb_len l Z a0 hw [] a1 n h0 n0 Z0 Bn1 E1) E1 e102 (argsL := []) (stk := [(.ref a1)]) (st := []) own_pd_8 rfl rfl rfl (W := 0) rfl (by decide) (by decide) (by decide) (by decide) own_d_s_inita_10 rfl ?_
  intro T103 L103 v103 X103 q103
  obtain ⟨rfl, N103, e103⟩ := q103
  have M103 := Fr.app M102 N103
  show OG.Go _ _ _ _ (T103.setTop (mkF m 13 #[.val (.ref a0_), .val (.ref a1), .val .null, .val (.ref t1), .unset] [(.int (Int32.ofNat n))]))
  refine OG.istore (Ls' := #[.val (.ref a0_), .val (.ref a1), .val .null, .val (.ref t1), .val (.int (Int32.ofNat n))]) X103 hx hby own_d_s_inita_13 rfl rfl ?_
  refine OG.aloadN X103 hx hby own_d_s_inita_15 rfl rfl rfl ?_
  refine OG.cV X103 hx hZ hby (by rw [hml]; rfl) hown (y := (⟨"java/lang/AbstractStringBuilder", "isLatin1", "()Z"⟩ : MethodName)) (z := (⟨"java/lang/AbstractStringBuilder", "isLatin1", "()Z"⟩ : MethodName)) (hw _ (List.mem_of_getElem? (i := 180) rfl)) (hw _ (List.mem_of_getElem? (i := 181) rfl)) (notFace_of_selects (args := #[]) (mvT hZ (hw _ (List.mem_of_getElem? (i := 183) rfl)))) (hw _ (List.mem_of_getElem? (i := 183) rfl)) (hw _ (List.mem_of_getElem? (i := 182) rfl)) (hw _ (List.mem_of_getElem? (i := 184) rfl)) (hw _ (List.mem_of_getElem? (i := 99) rfl)) (by decide) (own_rm_asb_lat l Z a0 hw [] a1 zc h0 n0 Z0 O1 S_cs hzc Bc1) E1 e103 (argsL := []) (stk := [(.ref a1)]) (st := []) own_pd_3 rfl rfl rfl (W := 0) rfl (by decide) (by decide) (by decide) (by decide) own_d_s_inita_16 rfl ?_
  intro T104 L104 v104 X104 q104
  obtain ⟨rfl, N104, e104⟩ := q104
  have M104 := Fr.app M103 N104
  show OG.Go _ _ _ _ (T104.setTop (mkF m 19 #[.val (.ref a0_), .val (.ref a1), .val .null, .val (.ref t1), .val (.int (Int32.ofNat n))] [(.int (1 : Int32))]))
  refine OG.ifNo X104 hx hby own_d_s_inita_19 (feq (by decide)).1 rfl ?_
  refine OG.aloadN X104 hx hby own_d_s_inita_22 rfl rfl rfl ?_
  refine OG.iconst (v := (0 : Int32)) X104 hx hby own_d_s_inita_23 (by decide) rfl ?_
  refine OG.pFN (v' := (.int (0 : Int32))) X104 hx hZ hby hown (hw _ (List.mem_of_getElem? (i := 28) rfl)) Via.refl e104 Fc0 E0 (Or.inr ⟨(hw _ (List.mem_of_getElem? (i := 29) rfl)), rfl, hnm⟩) (hw _ (List.mem_of_getElem? (i := 14) rfl)) (ty := .byte) (by decide) rfl rfl own_d_s_inita_24 rfl ?_
  intro T105 h105 X105 e105 W105
  have f106 := Fld.same W105 Fc0
  have N107 := Fr.snoc X105 M104 g0
  refine OG.aloadN X105 hx hby own_d_s_inita_27 rfl rfl rfl ?_
  refine OG.aloadN X105 hx hby own_d_s_inita_28 rfl rfl rfl ?_
  refine OG.iconst (v := (0 : Int32)) X105 hx hby own_d_s_inita_29 (by decide) rfl ?_
  refine OG.iload X105 hx hby own_d_s_inita_30 rfl rfl ?_
  have f109 := (OG.BA.other Y1 W105 (Ne.symm h0t))
  have f110 := (Exa.wr W105 Et1)
  refine OG.cS X105 hx hZ hby (by rw [hml]; rfl) hown (y := (⟨"java/util/Arrays", "copyOfRange", "([BII)[B"⟩ : MethodName)) (hw _ (List.mem_of_getElem? (i := 185) rfl)) (hw _ (List.mem_of_getElem? (i := 186) rfl)) (hw _ (List.mem_of_getElem? (i := 188) rfl)) (hw _ (List.mem_of_getElem? (i := 187) rfl)) (by decide) (own_rm_cpr l Z a0 hw [] t1 bs n h105 n0 (Nat.le_trans Z0 (Nat.le_of_eq (Wr.size W105).symm)) f109 hn h34 f110 hnc) e105 (argsL := [(.ref t1), (.int (0 : Int32)), (.int (Int32.ofNat n))]) (stk := [(.int (Int32.ofNat n)), (.int (0 : Int32)), (.ref t1), (.ref a0_)]) (st := [(.ref a0_)]) own_pd_12 rfl rfl rfl (W := 1) rfl (by decide) (by decide) (by decide) (by decide) own_d_s_inita_32 rfl ?_
  intro T108 L108 v108 X108 q108
  obtain ⟨ta108, rfl, N108, K108, Y108, E108, sz108⟩ := q108
  have f111 := (Exa.wr W105 E1)
  have ne112 : a1 ≠ ta108 := Nat.ne_of_lt (Nat.lt_of_lt_of_le (Exa.lt f111) sz108)
  have ne113 : t1 ≠ ta108 := Nat.ne_of_lt (Nat.lt_of_lt_of_le (OG.BA.lt f109) sz108)
  have f114 := (Exa.wr W105 E0)
  have ne115 : a0_ ≠ ta108 := Nat.ne_of_lt (Nat.lt_of_lt_of_le (Exa.lt f114) sz108)
  have gn116 : n0 ≤ ta108 := Nat.le_trans (Nat.le_trans Z0 (Nat.le_of_eq (Wr.size W105).symm)) sz108
  have sz117 : h0.size ≤ ta108 := Nat.le_trans (Nat.le_trans (Nat.le_refl _) (Nat.le_of_eq (Wr.size W105).symm)) sz108
  have M108 := Fr.app N107 N108
  show OG.Go _ _ _ _ (T108.setTop (mkF m 35 #[.val (.ref a0_), .val (.ref a1), .val .null, .val (.ref t1), .val (.int (Int32.ofNat n))] [(.ref ta108), (.ref a0_)]))
  have f118 := (Fld.keep (Fld.other W105 Fv0 (Or.inr (slot_ne (Or.inr (hw _ (List.mem_of_getElem? (i := 27) rfl))) (Or.inr (hw _ (List.mem_of_getElem? (i := 29) rfl))) (by decide) (t := (.array .byte)) (t' := .byte) (by decide) (by decide)))) K108 nin0)
  have f119 := (Exa.keep f114 K108)
  refine OG.pF X108 hx hZ hby hown (hw _ (List.mem_of_getElem? (i := 26) rfl)) Via.refl rfl f118 f119 (Or.inr ⟨(hw _ (List.mem_of_getElem? (i := 27) rfl)), rfl, hnm⟩) (hw _ (List.mem_of_getElem? (i := 14) rfl)) (ty := (.array .byte)) (by decide) rfl rfl own_d_s_inita_35 rfl ?_
  intro T120 h120 X120 e120 W120
  have f121 := Fld.same W120 f118
  have N122 := Fr.snoc X120 M108 g0
  refine OG.goto (pc' := 97) X120 hx hby own_d_s_inita_38 (by decide) (by decide) ?_
  refine OG.retV X120 hx hby Bd.returns own_d_s_inita_97 Bd.notSynchronized (by decide) (by decide) ?_
  have f123 := (Exa.wr W120 f119)
  have f124 := (Fld.other W120 (Fld.keep f106 K108 nin0) (Or.inr (slot_ne (Or.inr (hw _ (List.mem_of_getElem? (i := 29) rfl))) (Or.inr (hw _ (List.mem_of_getElem? (i := 27) rfl))) (by decide) (t := .byte) (t' := (.array .byte)) (by decide) (by decide))))
  have f125 := (OG.BA.other Y108 W120 (Ne.symm ne115))
  rw [e120]
  exact ⟨ta108, rfl, N122, (Keep.wr (Keep.trans (Keep.wr (Keep.refl h0 [a0_]) W105 (Or.inl (by simp))) K108 all0) W120 (Or.inl (by simp))), f123, f124, f121, f125, sz117⟩
theorem own_d_s_initb_0 : decode jdk_42_method_53_code 0 = .ok (.aload_n 0, 1) := by decide +kernel
theorem own_d_s_initb_1 : decode jdk_42_method_53_code 1 = .ok (.aload_n 1, 1) := by decide +kernel
theorem own_d_s_initb_2 : decode jdk_42_method_53_code 2 = .ok (.aconst_null, 1) := by decide +kernel
theorem own_d_s_initb_3 : decode jdk_42_method_53_code 3 = .ok (.invokespecial 489, 3) := by decide +kernel
theorem own_d_s_initb_6 : decode jdk_42_method_53_code 6 = .ok (.return_, 1) := by decide +kernel
theorem own_pn_s_initb : plainName "java/lang/String" = true := by first | (simp [plainName, overriddenIn]; done) | decide +kernel
theorem own_ef_s_initb (m : MethodId) (x0 : Addr) (x1 : Addr)  : entryFrame m #[(.ref x0), (.ref x1)] 2 = mkF m 0 #[.val (.ref x0), .val (.ref x1)] [] := by first | (simp [entryFrame, mkF, argsToLocals, Value.category]; done) | rfl
def own_Q_s_initb (Z : State) (a0_ : Addr) (a1 : Addr) (t1 : Addr) (bs : List Int32) (n : Nat) (zc : Int32) (h0 : Heap) (n0 : Nat) (v : Option Value) (h : Heap) (L : List Loc) : Prop := ∃ t, v = none ∧ Fr n0 L ∧ Keep h0 h [a0_] ∧ (Exa Z h a0_ "java/lang/String") ∧ (Fld Z h a0_ "java/lang/String" "coder" "B" (.int (0 : Int32))) ∧ (Fld Z h a0_ "java/lang/String" "value" "[B" (.ref t)) ∧ (OG.BA Z h t (bs.take n)) ∧ h0.size ≤ t
set_option maxRecDepth 65536 in
set_option maxHeartbeats 40000000 in
theorem own_rm_s_initb (l : Launch) (Z : State) (a0 : Array Value) (hw : ∀ d ∈ tables_1, d.before a0 Z = true) (ws : List Jvm.Cond) (a0_ : Addr) (a1 : Addr) (t1 : Addr) (bs : List Int32) (n : Nat) (zc : Int32) (h0 : Heap) (n0 : Nat) (Z0 : n0 ≤ h0.size) (O1 : Old Z n0 h0) (S_cs : Sta Z Z.heap "java/lang/String" "COMPACT_STRINGS" "Z" (.int zc)) (hzc : ¬ zc = (0 : Int32)) (E0 : Exa Z h0 a0_ "java/lang/String") (Fc0 : Fld Z h0 a0_ "java/lang/String" "coder" "B" (.int (0 : Int32))) (Fv0 : Fld Z h0 a0_ "java/lang/String" "value" "[B" .null) (g0 : n0 ≤ a0_) (E1 : Exa Z h0 a1 "java/lang/StringBuilder") (Bv1 : Fld Z h0 a1 "java/lang/AbstractStringBuilder" "value" "[B" (.ref t1)) (Bc1 : Fld Z h0 a1 "java/lang/AbstractStringBuilder" "coder" "B" (.int (0 : Int32))) (Bn1 : Fld Z h0 a1 "java/lang/AbstractStringBuilder" "count" "I" (.int (Int32.ofNat n))) (Y1 : OG.BA Z h0 t1 bs) (Et1 : Exa Z h0 t1 "[B") (hn : n ≤ bs.length) (h34 : bs.length ≤ 34) (hnc : n ≠ bs.length) :
    MetFree l (⟨"java/lang/String", "<init>", "(Ljava/lang/StringBuilder;)V"⟩ : MethodName) (head1 (Jvm.Cond.code (⟨"java/lang/String", "<init>", "(Ljava/lang/StringBuilder;)V"⟩ : MethodName) jdk_42_method_53_code 2 none :: ws) ({ frames := 4, cells := 1, slots := 34, locals := 65 } : Room)) (fun a U => a = #[(.ref a0_), (.ref a1)] ∧ Z.Warmed39 U.vm ∧ U.heap = h0) (fun _ _ _ _ _ => True) (fun _ U o U' => ∃ v L, o = .returned v ∧ own_Q_s_initb Z a0_ a1 t1 bs n zc h0 n0 v U'.heap L ∧ FrameEnd U o U' L ({ frames := 4, cells := 1, slots := 34, locals := 65 } : Room).cells ({ frames := 4, cells := 1, slots := 34, locals := 65 } : Room).slots) := by
  refine MetFree.of_bodySF (plainFor_of_name own_pn_s_initb) hisR ?_
  intro p e s m args below meth c s₁ Bd hml0 hP hK
  obtain ⟨rfl, hZ, hh⟩ := hP
  have hx := Bd.exec
  have hby := Bd.bytes
  have hml : c.maxLocals = 2 := hml0
  have hown : s.vm.findClass "java/lang/String" = some m.cls := findClass_of_methodNamed Bd.named
  have hnm := (name_of_methodNamed Bd.named Bd.method).1
  have X0 : Stand p l e ({ frames := 4, cells := 1, slots := 34, locals := 65 } : Room) s m #[(.ref a0_), (.ref a1)] below meth c s₁ [] 0 0 := Stand.of_body Bd
  have e0 : s₁.heap = h0 := by rw [← hh, Bd.state]; rfl
  have N0 := Fr.nil n0
  show OG.Go p.tables e below (OG.GP (own_Q_s_initb Z a0_ a1 t1 bs n zc h0 n0) ({ frames := 4, cells := 1, slots := 34, locals := 65 } : Room).cells ({ frames := 4, cells := 1, slots := 34, locals := 65 } : Room).slots s) (s₁.setTop (entryFrame m #[(.ref a0_), (.ref a1)] 2))
  refine OG.Go.cast (own_ef_s_initb m a0_ a1) ?_
  have h01 : a0_ ≠ a1 := ne_exa E0 E1 (by decide)
  have h0t : a0_ ≠ t1 := ne_exa E0 Et1 (by decide)
  refine OG.aloadN X0 hx hby own_d_s_initb_0 rfl rfl rfl ?_
  refine OG.aloadN X0 hx hby own_d_s_initb_1 rfl rfl rfl ?_
  refine OG.aconstNull X0 hx hby own_d_s_initb_2 rfl ?_
  refine OG.cN X0 hx hZ hby (by rw [hml]; rfl) hown (y := (⟨"java/lang/String", "<init>", "(Ljava/lang/AbstractStringBuilder;Ljava/lang/Void;)V"⟩ : MethodName)) rfl rfl (hw _ (List.mem_of_getElem? (i := 164) rfl)) (hw _ (List.mem_of_getElem? (i := 165) rfl)) (hw _ (List.mem_of_getElem? (i := 166) rfl)) (hw _ (List.mem_of_getElem? (i := 6) rfl)) (by decide) (own_rm_s_inita l Z a0 hw [] a0_ a1 t1 bs n zc h0 n0 Z0 O1 S_cs hzc E0 Fc0 Fv0 g0 E1 Bv1 Bc1 Bn1 Y1 Et1 hn h34 hnc) e0 (argsL := [(.ref a1), .null]) (stk := [.null, (.ref a1), (.ref a0_)]) (st := []) own_pd_14 rfl rfl rfl (W := 0) rfl (by decide) (by decide) (by decide) (by decide) own_d_s_initb_3 rfl ?_
  intro T101 L101 v101 X101 q101
  obtain ⟨ta101, rfl, N101, K101, E_101, Fc_101, Fv_101, Y_101, sz101⟩ := q101
  have ne102 : a1 ≠ ta101 := Nat.ne_of_lt (Nat.lt_of_lt_of_le (Exa.lt E1) sz101)
  have ne103 : t1 ≠ ta101 := Nat.ne_of_lt (Nat.lt_of_lt_of_le (OG.BA.lt Y1) sz101)
  have ne104 : a0_ ≠ ta101 := Nat.ne_of_lt (Nat.lt_of_lt_of_le (Exa.lt E0) sz101)
  have gn105 : n0 ≤ ta101 := Nat.le_trans Z0 sz101
  have sz106 : h0.size ≤ ta101 := Nat.le_trans (Nat.le_refl _) sz101
  have M101 := Fr.app N0 N101
  show OG.Go _ _ _ _ (T101.setTop (mkF m 6 #[.val (.ref a0_), .val (.ref a1)] []))
  refine OG.retV X101 hx hby Bd.returns own_d_s_initb_6 Bd.notSynchronized (by decide) (by decide) ?_
  exact ⟨ta101, rfl, M101, (Keep.trans (Keep.refl h0 [a0_]) K101 (allS (Or.inl (by simp)) all0)), E_101, Fc_101, Fv_101, Y_101, sz106⟩
theorem own_d_sb_tos_0 : decode jdk_67_method_42_code 0 = .ok (.new 18, 3) := by decide +kernel
theorem own_d_sb_tos_3 : decode jdk_67_method_42_code 3 = .ok (.dup, 1) := by decide +kernel
theorem own_d_sb_tos_4 : decode jdk_67_method_42_code 4 = .ok (.aload_n 0, 1) := by decide +kernel
theorem own_d_sb_tos_5 : decode jdk_67_method_42_code 5 = .ok (.invokespecial 137, 3) := by decide +kernel
theorem own_d_sb_tos_8 : decode jdk_67_method_42_code 8 = .ok (.areturn, 1) := by decide +kernel
theorem own_pn_sb_tos : plainName "java/lang/StringBuilder" = true := by first | (simp [plainName, overriddenIn]; done) | decide +kernel
theorem own_ef_sb_tos (m : MethodId) (x0 : Addr)  : entryFrame m #[(.ref x0)] 1 = mkF m 0 #[.val (.ref x0)] [] := by first | (simp [entryFrame, mkF, argsToLocals, Value.category]; done) | rfl
def own_Q_sb_tos (Z : State) (a1 : Addr) (t1 : Addr) (bs : List Int32) (n : Nat) (zc : Int32) (h0 : Heap) (n0 : Nat) (v : Option Value) (h : Heap) (L : List Loc) : Prop := ∃ a t, v = some (.ref a) ∧ Fr n0 L ∧ Keep h0 h [] ∧ (Exa Z h a "java/lang/String") ∧ (Fld Z h a "java/lang/String" "coder" "B" (.int (0 : Int32))) ∧ (Fld Z h a "java/lang/String" "value" "[B" (.ref t)) ∧ (OG.BA Z h t (bs.take n)) ∧ h0.size ≤ t ∧ h0.size ≤ a ∧ a ≠ t
set_option maxRecDepth 65536 in
set_option maxHeartbeats 40000000 in
theorem own_rm_sb_tos (l : Launch) (Z : State) (a0 : Array Value) (hw : ∀ d ∈ tables_1, d.before a0 Z = true) (ws : List Jvm.Cond) (a1 : Addr) (t1 : Addr) (bs : List Int32) (n : Nat) (zc : Int32) (h0 : Heap) (n0 : Nat) (Z0 : n0 ≤ h0.size) (O1 : Old Z n0 h0) (S_cs : Sta Z Z.heap "java/lang/String" "COMPACT_STRINGS" "Z" (.int zc)) (hzc : ¬ zc = (0 : Int32)) (E1 : Exa Z h0 a1 "java/lang/StringBuilder") (Bv1 : Fld Z h0 a1 "java/lang/AbstractStringBuilder" "value" "[B" (.ref t1)) (Bc1 : Fld Z h0 a1 "java/lang/AbstractStringBuilder" "coder" "B" (.int (0 : Int32))) (Bn1 : Fld Z h0 a1 "java/lang/AbstractStringBuilder" "count" "I" (.int (Int32.ofNat n))) (Y1 : OG.BA Z h0 t1 bs) (Et1 : Exa Z h0 t1 "[B") (hn : n ≤ bs.length) (h34 : bs.length ≤ 34) (hnc : n ≠ bs.length) :
    MetFree l (⟨"java/lang/StringBuilder", "toString", "()Ljava/lang/String;"⟩ : MethodName) (head1 (Jvm.Cond.code (⟨"java/lang/StringBuilder", "toString", "()Ljava/lang/String;"⟩ : MethodName) jdk_67_method_42_code 1 (some (.object "java/lang/String")) :: ws) ({ frames := 5, cells := 2, slots := 38, locals := 79 } : Room)) (fun a U => a = #[(.ref a1)] ∧ Z.Warmed39 U.vm ∧ U.heap = h0) (fun _ _ _ _ _ => True) (fun _ U o U' => ∃ v L, o = .returned v ∧ own_Q_sb_tos Z a1 t1 bs n zc h0 n0 v U'.heap L ∧ FrameEnd U o U' L ({ frames := 5, cells := 2, slots := 38, locals := 79 } : Room).cells ({ frames := 5, cells := 2, slots := 38, locals := 79 } : Room).slots) := by
  refine MetFree.of_bodySF (plainFor_of_name own_pn_sb_tos) hisR ?_
  intro p e s m args below meth c s₁ Bd hml0 hP hK
  obtain ⟨rfl, hZ, hh⟩ := hP
  have hx := Bd.exec
  have hby := Bd.bytes
  have hml : c.maxLocals = 1 := hml0
  have hown : s.vm.findClass "java/lang/StringBuilder" = some m.cls := findClass_of_methodNamed Bd.named
  have hnm := (name_of_methodNamed Bd.named Bd.method).1
  have X0 : Stand p l e ({ frames := 5, cells := 2, slots := 38, locals := 79 } : Room) s m #[(.ref a1)] below meth c s₁ [] 0 0 := Stand.of_body Bd
  have e0 : s₁.heap = h0 := by rw [← hh, Bd.state]; rfl
  have N0 := Fr.nil n0
  show OG.Go p.tables e below (OG.GP (own_Q_sb_tos Z a1 t1 bs n zc h0 n0) ({ frames := 5, cells := 2, slots := 38, locals := 79 } : Room).cells ({ frames := 5, cells := 2, slots := 38, locals := 79 } : Room).slots s) (s₁.setTop (entryFrame m #[(.ref a1)] 1))
  refine OG.Go.cast (own_ef_sb_tos m a1) ?_
  refine OG.nO X0 hx hZ hby hown (hw _ (List.mem_of_getElem? (i := 160) rfl)) (hw _ (List.mem_of_getElem? (i := 14) rfl)) (hw _ (List.mem_of_getElem? (i := 6) rfl)) e0 own_d_sb_tos_0 (by decide) (by decide) rfl ?_
  intro T101 h101 b101 g101 X101 e101 E101 A101 D101
  have ne102 : a1 ≠ b101 := Nat.ne_of_lt (Nat.lt_of_lt_of_le (Exa.lt E1) (Nat.le_of_eq g101.symm))
  have ne103 : t1 ≠ b101 := Nat.ne_of_lt (Nat.lt_of_lt_of_le (OG.BA.lt Y1) (Nat.le_of_eq g101.symm))
  have gn104 : n0 ≤ b101 := Nat.le_trans Z0 (Nat.le_of_eq g101.symm)
  have sz105 : h0.size ≤ b101 := Nat.le_trans (Nat.le_refl _) (Nat.le_of_eq g101.symm)
  have f106 : Fld Z h101 b101 "java/lang/String" "value" "[B" .null := D101 (Or.inr (hw _ (List.mem_of_getElem? (i := 27) rfl))) (ty := (.array .byte)) (by decide)
  have f107 : Fld Z h101 b101 "java/lang/String" "coder" "B" (.int (0 : Int32)) := D101 (Or.inr (hw _ (List.mem_of_getElem? (i := 29) rfl))) (ty := .byte) (by decide)
  refine OG.dup X101 hx hby own_d_sb_tos_3 rfl rfl ?_
  refine OG.aloadN X101 hx hby own_d_sb_tos_4 rfl rfl rfl ?_
  have f109 := (Exa.ext E101 E1)
  have f110 := (Fld.ext E101 Bv1)
  have f111 := (Fld.ext E101 Bc1)
  have f112 := (Fld.ext E101 Bn1)
  have f113 := (OG.BA.ext Y1 E101)
  have f114 := (Exa.ext E101 Et1)
  have f115 := (Old.ext O1 E101)
  refine OG.cN X101 hx hZ hby (by rw [hml]; rfl) hown (y := (⟨"java/lang/String", "<init>", "(Ljava/lang/StringBuilder;)V"⟩ : MethodName)) rfl rfl (hw _ (List.mem_of_getElem? (i := 161) rfl)) (hw _ (List.mem_of_getElem? (i := 162) rfl)) (hw _ (List.mem_of_getElem? (i := 163) rfl)) (hw _ (List.mem_of_getElem? (i := 6) rfl)) (by decide) (own_rm_s_initb l Z a0 hw [] b101 a1 t1 bs n zc h101 n0 (Nat.le_trans Z0 E101.1) f115 S_cs hzc A101 f107 f106 gn104 f109 f110 f111 f112 f113 f114 hn h34 hnc) e101 (argsL := [(.ref a1)]) (stk := [(.ref a1), (.ref b101), (.ref b101)]) (st := [(.ref b101)]) own_pd_15 rfl rfl rfl (W := 1) rfl (by decide) (by decide) (by decide) (by decide) own_d_sb_tos_5 rfl ?_
  intro T108 L108 v108 X108 q108
  obtain ⟨ta108, rfl, N108, K108, E_108, Fc_108, Fv_108, Y_108, sz108⟩ := q108
  have ne116 : a1 ≠ ta108 := Nat.ne_of_lt (Nat.lt_of_lt_of_le (Exa.lt f109) sz108)
  have ne117 : t1 ≠ ta108 := Nat.ne_of_lt (Nat.lt_of_lt_of_le (OG.BA.lt f113) sz108)
  have ne118 : b101 ≠ ta108 := Nat.ne_of_lt (Nat.lt_of_lt_of_le (Exa.lt A101) sz108)
  have gn119 : n0 ≤ ta108 := Nat.le_trans (Nat.le_trans Z0 E101.1) sz108
  have sz120 : h0.size ≤ ta108 := Nat.le_trans (Nat.le_trans (Nat.le_refl _) E101.1) sz108
  have M108 := Fr.app N0 N108
  show OG.Go _ _ _ _ (T108.setTop (mkF m 8 #[.val (.ref a1)] [(.ref b101)]))
  refine OG.retA X108 hx hby Bd.returns rfl rfl rfl own_d_sb_tos_8 Bd.notSynchronized (by decide) (by decide) ?_
  exact ⟨b101, ta108, rfl, M108, (Keep.trans (Keep.ext (Keep.refl h0 []) E101) K108 (allS (Or.inr sz105) all0)), E_108, Fc_108, Fv_108, Y_108, sz120, sz105, ne118⟩
theorem own_le255 {c : Nat} (h : c < 256) : ¬ (255 : Int32) < (Int32.ofNat c) := by
  rw [show (255 : Int32) = Int32.ofNat 255 from rfl, OG.ofN_ltiff (by decide) (by omega)]
  omega
theorem own_narbb (x : Int32) : nar .byte x.toInt8.toInt32 = x.toInt8.toInt32 := by
  show x.toInt8.toInt32.toInt8.toInt32 = x.toInt8.toInt32
  simp
theorem own_narc {c : Nat} (h : c < 256) : nar .char (Int32.ofNat c) = Int32.ofNat c := OG.i2c_id (by rw [Int32.toInt_ofNat_of_lt (by omega)]; omega) (by rw [Int32.toInt_ofNat_of_lt (by omega)]; omega)
theorem own_byte (y : Int32) : ∃ c, c < 256 ∧ (y &&& (255 : Int32)).toUInt32.toUInt16.toUInt32.toInt32 = Int32.ofNat c := by
  have h := OG.and255 y
  refine ⟨(y &&& (255 : Int32)).toInt.toNat, by omega, ?_⟩
  rw [OG.i2c_id h.1 (by omega), ← Int32.toInt_inj, Int32.toInt_ofNat_of_lt (by omega)]
  omega
theorem own_sh31 : ((0 : Int32).toUInt32 >>> ((31 : Int32) &&& 31).toUInt32).toInt32 = (0 : Int32) := by decide
theorem own_d_cfal_0 : decode jdk_52_method_15_code 0 = .ok (.iload_n 1, 1) := by decide +kernel
theorem own_d_cfal_1 : decode jdk_52_method_15_code 1 = .ok (.aload_n 0, 1) := by decide +kernel
theorem own_d_cfal_2 : decode jdk_52_method_15_code 2 = .ok (.arraylength, 1) := by decide +kernel
theorem own_d_cfal_3 : decode jdk_52_method_15_code 3 = .ok (.isub, 1) := by decide +kernel
theorem own_d_cfal_4 : decode jdk_52_method_15_code 4 = .ok (.bipush 31, 2) := by decide +kernel
theorem own_d_cfal_6 : decode jdk_52_method_15_code 6 = .ok (.iushr, 1) := by decide +kernel
theorem own_d_cfal_7 : decode jdk_52_method_15_code 7 = .ok (.i2b, 1) := by decide +kernel
theorem own_d_cfal_8 : decode jdk_52_method_15_code 8 = .ok (.ireturn, 1) := by decide +kernel
theorem own_pn_cfal : plainName "java/lang/StringUTF16" = true := by first | (simp [plainName, overriddenIn]; done) | decide +kernel
theorem own_ef_cfal (m : MethodId) (x0 : Addr) (x1 : Int32)  : entryFrame m #[(.ref x0), (.int x1)] 2 = mkF m 0 #[.val (.ref x0), .val (.int x1)] [] := by first | (simp [entryFrame, mkF, argsToLocals, Value.category]; done) | rfl
def own_Q_cfal (Z : State) (t1 : Addr) (bs : List Int32) (n : Nat) (h0 : Heap) (n0 : Nat) (v : Option Value) (h : Heap) (L : List Loc) : Prop := v = some (.int (0 : Int32)) ∧ Fr n0 L ∧ h = h0
set_option maxRecDepth 65536 in
set_option maxHeartbeats 40000000 in
theorem own_rm_cfal (l : Launch) (Z : State) (a0 : Array Value) (hw : ∀ d ∈ tables_1, d.before a0 Z = true) (ws : List Jvm.Cond) (t1 : Addr) (bs : List Int32) (n : Nat) (h0 : Heap) (n0 : Nat) (Z0 : n0 ≤ h0.size) (Y1 : OG.BA Z h0 t1 bs) (hb : bs.length = n) :
    MetFree l (⟨"java/lang/StringUTF16", "coderFromArrayLen", "([BI)B"⟩ : MethodName) (head1 (Jvm.Cond.code (⟨"java/lang/StringUTF16", "coderFromArrayLen", "([BI)B"⟩ : MethodName) jdk_52_method_15_code 2 (some .byte) :: ws) ({ frames := 0, cells := 0, slots := 0, locals := 0 } : Room)) (fun a U => a = #[(.ref t1), (.int (Int32.ofNat n))] ∧ Z.Warmed39 U.vm ∧ U.heap = h0) (fun _ _ _ _ _ => True) (fun _ U o U' => ∃ v L, o = .returned v ∧ own_Q_cfal Z t1 bs n h0 n0 v U'.heap L ∧ FrameEnd U o U' L ({ frames := 0, cells := 0, slots := 0, locals := 0 } : Room).cells ({ frames := 0, cells := 0, slots := 0, locals := 0 } : Room).slots) := by
  refine MetFree.of_bodySF (plainFor_of_name own_pn_cfal) hisR ?_
  intro p e s m args below meth c s₁ Bd hml0 hP hK
  obtain ⟨rfl, hZ, hh⟩ := hP
  have hx := Bd.exec
  have hby := Bd.bytes
  have hml : c.maxLocals = 2 := hml0
  have hown : s.vm.findClass "java/lang/StringUTF16" = some m.cls := findClass_of_methodNamed Bd.named
  have hnm := (name_of_methodNamed Bd.named Bd.method).1
  have X0 : Stand p l e ({ frames := 0, cells := 0, slots := 0, locals := 0 } : Room) s m #[(.ref t1), (.int (Int32.ofNat n))] below meth c s₁ [] 0 0 := Stand.of_body Bd
  have e0 : s₁.heap = h0 := by rw [← hh, Bd.state]; rfl
  have N0 := Fr.nil n0
  show OG.Go p.tables e below (OG.GP (own_Q_cfal Z t1 bs n h0 n0) ({ frames := 0, cells := 0, slots := 0, locals := 0 } : Room).cells ({ frames := 0, cells := 0, slots := 0, locals := 0 } : Room).slots s) (s₁.setTop (entryFrame m #[(.ref t1), (.int (Int32.ofNat n))] 2))
  refine OG.Go.cast (own_ef_cfal m t1 (Int32.ofNat n)) ?_
  refine OG.iloadN X0 hx hby own_d_cfal_0 rfl rfl ?_
  refine OG.aloadN X0 hx hby own_d_cfal_1 rfl rfl rfl ?_
  refine OG.yL X0 hx hZ hby e0 Y1 own_d_cfal_2 rfl ?_
  refine OG.isub X0 hx hby own_d_cfal_3 rfl ?_
  rw [hb, show (Int32.ofNat n) - (Int32.ofNat n) = (0 : Int32) from by simp]
  refine OG.bipush (v := (31 : Int32)) X0 hx hby own_d_cfal_4 (by decide) rfl ?_
  refine OG.iushr X0 hx hby own_d_cfal_6 rfl ?_
  rw [own_sh31]
  refine OG.i2b X0 hx hby own_d_cfal_7 rfl ?_
  rw [show (0 : Int32).toInt8.toInt32 = (0 : Int32) from by decide]
  refine OG.retZ X0 hx hby Bd.returns (by simp) own_d_cfal_8 Bd.notSynchronized (by decide) (by decide) ?_
  exact ⟨rfl, N0, e0⟩
theorem own_d_s_initc0_0 : decode jdk_42_method_149_code 0 = .ok (.aload_n 0, 1) := by decide +kernel
theorem own_d_s_initc0_1 : decode jdk_42_method_149_code 1 = .ok (.invokespecial 1, 3) := by decide +kernel
theorem own_d_s_initc0_4 : decode jdk_42_method_149_code 4 = .ok (.iload_n 3, 1) := by decide +kernel
theorem own_d_s_initc0_5 : decode jdk_42_method_149_code 5 = .ok (.ifCond .ne 22, 3) := by decide +kernel
theorem own_d_s_initc0_8 : decode jdk_42_method_149_code 8 = .ok (.aload_n 0, 1) := by decide +kernel
theorem own_d_s_initc0_9 : decode jdk_42_method_149_code 9 = .ok (.ldc 7, 2) := by decide +kernel
theorem own_d_s_initc0_11 : decode jdk_42_method_149_code 11 = .ok (.getfield 9, 3) := by decide +kernel
theorem own_d_s_initc0_14 : decode jdk_42_method_149_code 14 = .ok (.putfield 9, 3) := by decide +kernel
theorem own_d_s_initc0_17 : decode jdk_42_method_149_code 17 = .ok (.aload_n 0, 1) := by decide +kernel
theorem own_d_s_initc0_18 : decode jdk_42_method_149_code 18 = .ok (.ldc 7, 2) := by decide +kernel
theorem own_d_s_initc0_20 : decode jdk_42_method_149_code 20 = .ok (.getfield 15, 3) := by decide +kernel
theorem own_d_s_initc0_23 : decode jdk_42_method_149_code 23 = .ok (.putfield 15, 3) := by decide +kernel
theorem own_d_s_initc0_26 : decode jdk_42_method_149_code 26 = .ok (.return_, 1) := by decide +kernel
theorem own_pn_s_initc0 : plainName "java/lang/String" = true := by first | (simp [plainName, overriddenIn]; done) | decide +kernel
theorem own_ef_s_initc0 (m : MethodId) (x0 : Addr) (x1 : Addr) (x2 : Int32) (x3 : Int32)  : entryFrame m #[(.ref x0), (.ref x1), (.int x2), (.int x3), .null] 6 = mkF m 0 #[.val (.ref x0), .val (.ref x1), .val (.int x2), .val (.int x3), .val .null, .unset] [] := by first | (simp [entryFrame, mkF, argsToLocals, Value.category]; done) | rfl
def own_Q_s_initc0 (Z : State) (a0_ : Addr) (zc : Int32) (c1 : Addr) (kc : ClassId) (h0 : Heap) (n0 : Nat) (v : Option Value) (h : Heap) (L : List Loc) : Prop := ∃ t bs, v = none ∧ Fr n0 L ∧ Keep h0 h [a0_] ∧ (Exa Z h a0_ "java/lang/String") ∧ (Fld Z h a0_ "java/lang/String" "coder" "B" (.int (0 : Int32))) ∧ (Fld Z h a0_ "java/lang/String" "value" "[B" (.ref t)) ∧ (OG.BA Z h t bs) ∧ bs.length = 0
set_option maxRecDepth 65536 in
set_option maxHeartbeats 40000000 in
theorem own_rm_s_initc0 (l : Launch) (Z : State) (a0 : Array Value) (hw : ∀ d ∈ tables_1, d.before a0 Z = true) (ws : List Jvm.Cond) (a0_ : Addr) (zc : Int32) (c1 : Addr) (kc : ClassId) (h0 : Heap) (n0 : Nat) (Z0 : n0 ≤ h0.size) (O1 : Old Z n0 h0) (S_cs : Sta Z Z.heap "java/lang/String" "COMPACT_STRINGS" "Z" (.int zc)) (hzc : ¬ zc = (0 : Int32)) (E0 : Exa Z h0 a0_ "java/lang/String") (Fc0 : Fld Z h0 a0_ "java/lang/String" "coder" "B" (.int (0 : Int32))) (Fv0 : Fld Z h0 a0_ "java/lang/String" "value" "[B" .null) (g0 : n0 ≤ a0_) (V1 : Arv Z h0 c1 kc .char (0 : Int32) [] (.int (0 : Int32))) :
    MetFree l (⟨"java/lang/String", "<init>", "([CIILjava/lang/Void;)V"⟩ : MethodName) (head1 (Jvm.Cond.code (⟨"java/lang/String", "<init>", "([CIILjava/lang/Void;)V"⟩ : MethodName) jdk_42_method_149_code 6 none :: ws) ({ frames := 1, cells := 4, slots := 8, locals := 12 } : Room)) (fun a U => a = #[(.ref a0_), (.ref c1), (.int (0 : Int32)), (.int (0 : Int32)), .null] ∧ Z.Warmed39 U.vm ∧ U.heap = h0 ∧ CHv Z own_EL U.vm h0) (fun _ _ _ _ _ => True) (fun _ U o U' => ∃ v L, o = .returned v ∧ own_Q_s_initc0 Z a0_ zc c1 kc h0 n0 v U'.heap L ∧ CHr Z own_EL U.vm U.heap U'.vm U'.heap ∧ ReturnedEndW U o U' L ({ frames := 1, cells := 4, slots := 8, locals := 12 } : Room).cells ({ frames := 1, cells := 4, slots := 8, locals := 12 } : Room).slots) := by
  refine MetFree.of_bodySF (plainFor_of_name own_pn_s_initc0) hisR ?_
  intro p e s m args below meth c s₁ Bd hml0 hP hK
  obtain ⟨rfl, hZ, hh, hCH⟩ := hP
  have hx := Bd.exec
  have hby := Bd.bytes
  have hml : c.maxLocals = 6 := hml0
  have hown : s.vm.findClass "java/lang/String" = some m.cls := findClass_of_methodNamed Bd.named
  have hnm := (name_of_methodNamed Bd.named Bd.method).1
  have X0 : Stand p l e ({ frames := 1, cells := 4, slots := 8, locals := 12 } : Room) (s.setVm s.vm) m #[(.ref a0_), (.ref c1), (.int (0 : Int32)), (.int (0 : Int32)), .null] below meth c s₁ [] 0 0 := Stand.of_body Bd
  have e0 : s₁.heap = h0 := by rw [← hh, Bd.state]; rfl
  have N0 := Fr.nil n0
  have CH0 : CHr Z own_EL s.vm s.heap s.vm h0 := by rw [hh]; exact CHr.refl hCH
  have hS0 : s.Since s.vm h0.size := (State.WarmedH.refl s).since _
  show OG.Go p.tables e below (OG.GH Z own_EL (own_Q_s_initc0 Z a0_ zc c1 kc h0 n0) ({ frames := 1, cells := 4, slots := 8, locals := 12 } : Room).cells ({ frames := 1, cells := 4, slots := 8, locals := 12 } : Room).slots s) (s₁.setTop (entryFrame m #[(.ref a0_), (.ref c1), (.int (0 : Int32)), (.int (0 : Int32)), .null] 6))
  refine OG.Go.cast (own_ef_s_initc0 m a0_ c1 (0 : Int32) (0 : Int32)) ?_
  refine OG.aloadN X0 hx hby own_d_s_initc0_0 rfl rfl rfl ?_
  refine OG.iO X0 hx hZ hby hown (by rw [hml]; rfl) (hw _ (List.mem_of_getElem? (i := 23) rfl)) (hw _ (List.mem_of_getElem? (i := 24) rfl)) (hw _ (List.mem_of_getElem? (i := 25) rfl)) e0 (W := 0) rfl (by decide) (by decide) own_d_s_initc0_1 rfl ?_
  intro T101 X101 e101
  refine OG.iloadN X101 hx hby own_d_s_initc0_4 rfl rfl ?_
  refine OG.ifNo X101 hx hby own_d_s_initc0_5 (teq (by decide)).2 rfl ?_
  refine OG.aloadN X101 hx hby own_d_s_initc0_8 rfl rfl rfl ?_
  have sf103 : Safe Z own_EL s.vm h0 a0_ := OG.Safe.null (show Z.vm.Alike s.vm from hZ.alike) E0 Fv0
  refine OG.ldcH X101 hx hZ hby hown (text := "") (hw _ (List.mem_of_getElem? (i := 38) rfl)) (own_wS hw) e101 hS0 (Nat.le_refl _) (own_hEL hw) (by simp [own_EL]) CH0.1 (vs := []) (z := (0 : Int32)) ⟨by decide, by decide⟩ (by decide) (by decide) (n := 0) (by decide) (by decide) (by decide) (by decide) own_d_s_initc0_9 rfl ?_
  intro la102 T102 h102 k102 lt102 kk102 X102 e102 E102 S102 hk102 Zw102 Ow102 C102 Ea102 Fa102 Fb102 Va102 Ne102
  have CH104 := CHr.trans CH0 (C102)
  have Ya102 : OG.BA Z h102 lt102 [] := OG.BA.of Va102 rfl rfl (by decide)
  have f105 := (CHr.safe C102 (Exa.lt E0) sf103)
  have f105a : a0_ ≠ la102 := (Ne102 _ f105).1
  have f105b : a0_ ≠ lt102 := (Ne102 _ f105).2
  refine OG.gF X102 hx Zw102 hby Ow102 (hw _ (List.mem_of_getElem? (i := 26) rfl)) Via.refl e102 Fb102 own_d_s_initc0_11 rfl ?_
  intro T106 X106 e106
  have f107 := (Fld.ext E102 Fv0)
  have f108 := (Exa.ext E102 E0)
  refine OG.pF X106 hx Zw102 hby Ow102 (hw _ (List.mem_of_getElem? (i := 26) rfl)) Via.refl e106 f107 f108 (Or.inr ⟨(hw _ (List.mem_of_getElem? (i := 27) rfl)), rfl, hnm⟩) (hw _ (List.mem_of_getElem? (i := 14) rfl)) (ty := (.array .byte)) (by decide) rfl rfl own_d_s_initc0_14 rfl ?_
  intro T109 h109 X109 e109 W109
  have f110 := Fld.same W109 f107
  have N111 := Fr.snoc X109 N0 g0
  have CH112 := CHr.trans CH104 (CHr.wr W109 f105 CH104.1)
  refine OG.aloadN X109 hx hby own_d_s_initc0_17 rfl rfl rfl ?_
  refine OG.ldcH X109 hx Zw102 hby Ow102 (text := "") (hw _ (List.mem_of_getElem? (i := 38) rfl)) (own_wS hw) e109 S102 (Nat.le_trans hk102 (Nat.le_of_eq (Wr.size W109).symm)) (own_hEL hw) (by simp [own_EL]) CH112.1 (vs := []) (z := (0 : Int32)) ⟨by decide, by decide⟩ (by decide) (by decide) (n := 0) (by decide) (by decide) (by decide) (by decide) own_d_s_initc0_18 rfl ?_
  intro la113 T113 h113 k113 lt113 kk113 X113 e113 E113 S113 hk113 Zw113 Ow113 C113 Ea113 Fa113 Fb113 Va113 Ne113
  have f114 := (Safe.wr W109 f105 CH104.1 f105)
  have f115 := (Exa.wr W109 f108)
  have CH116 := CHr.trans CH112 (C113)
  have Ya113 : OG.BA Z h113 lt113 [] := OG.BA.of Va113 rfl rfl (by decide)
  have f117 := (CHr.safe C113 (Exa.lt f115) f114)
  have f117a : a0_ ≠ la113 := (Ne113 _ f117).1
  have f117b : a0_ ≠ lt113 := (Ne113 _ f117).2
  refine OG.gF X113 hx Zw113 hby Ow113 (hw _ (List.mem_of_getElem? (i := 28) rfl)) Via.refl e113 Fa113 own_d_s_initc0_20 rfl ?_
  intro T118 X118 e118
  have f119 := (Fld.ext E113 (Fld.other W109 (Fld.ext E102 Fc0) (Or.inr (slot_ne (Or.inr (hw _ (List.mem_of_getElem? (i := 29) rfl))) (Or.inr (hw _ (List.mem_of_getElem? (i := 27) rfl))) (by decide) (t := .byte) (t' := (.array .byte)) (by decide) (by decide)))))
  have f120 := (Exa.ext E113 f115)
  refine OG.pFN (v' := (.int (0 : Int32))) X118 hx Zw113 hby Ow113 (hw _ (List.mem_of_getElem? (i := 28) rfl)) Via.refl e118 f119 f120 (Or.inr ⟨(hw _ (List.mem_of_getElem? (i := 29) rfl)), rfl, hnm⟩) (hw _ (List.mem_of_getElem? (i := 14) rfl)) (ty := .byte) (by decide) rfl rfl own_d_s_initc0_23 rfl ?_
  intro T121 h121 X121 e121 W121
  have f122 := Fld.same W121 f119
  have N123 := Fr.snoc X121 N111 g0
  have CH124 := CHr.trans CH116 (CHr.wr W121 f117 CH116.1)
  refine OG.retVH X121 hx Zw113 hby (own_hEL hw) S113 (by rw [e121]; exact (Nat.le_trans hk113 (Nat.le_of_eq (Wr.size W121).symm))) (by rw [e121]; exact CH124) Bd.returns own_d_s_initc0_26 Bd.notSynchronized (by decide) (by decide) ?_
  have f125 := (Exa.wr W121 f120)
  have f126 := (Fld.other W121 (Fld.ext E113 f110) (Or.inr (slot_ne (Or.inr (hw _ (List.mem_of_getElem? (i := 27) rfl))) (Or.inr (hw _ (List.mem_of_getElem? (i := 29) rfl))) (by decide) (t := (.array .byte)) (t' := .byte) (by decide) (by decide))))
  have f127 := (OG.BA.other (OG.BA.ext (OG.BA.other Ya102 W109 (Ne.symm f105b)) E113) W121 (Ne.symm f105b))
  rw [e121]
  exact ⟨lt102, _, rfl, N123, (Keep.wr (Keep.ext (Keep.wr (Keep.ext (Keep.refl h0 [a0_]) E102) W109 (Or.inl (by simp))) E113) W121 (Or.inl (by simp))), f125, f122, f126, f127, rfl⟩
theorem own_d_s_inits0_0 : decode jdk_42_method_3_code 0 = .ok (.aload_n 0, 1) := by decide +kernel
theorem own_d_s_inits0_1 : decode jdk_42_method_3_code 1 = .ok (.aload_n 1, 1) := by decide +kernel
theorem own_d_s_inits0_2 : decode jdk_42_method_3_code 2 = .ok (.iconst 0, 1) := by decide +kernel
theorem own_d_s_inits0_3 : decode jdk_42_method_3_code 3 = .ok (.aload_n 1, 1) := by decide +kernel
theorem own_d_s_inits0_4 : decode jdk_42_method_3_code 4 = .ok (.arraylength, 1) := by decide +kernel
theorem own_d_s_inits0_5 : decode jdk_42_method_3_code 5 = .ok (.aconst_null, 1) := by decide +kernel
theorem own_d_s_inits0_6 : decode jdk_42_method_3_code 6 = .ok (.invokespecial 27, 3) := by decide +kernel
theorem own_d_s_inits0_9 : decode jdk_42_method_3_code 9 = .ok (.return_, 1) := by decide +kernel
theorem own_pn_s_inits0 : plainName "java/lang/String" = true := by first | (simp [plainName, overriddenIn]; done) | decide +kernel
theorem own_ef_s_inits0 (m : MethodId) (x0 : Addr) (x1 : Addr)  : entryFrame m #[(.ref x0), (.ref x1)] 2 = mkF m 0 #[.val (.ref x0), .val (.ref x1)] [] := by first | (simp [entryFrame, mkF, argsToLocals, Value.category]; done) | rfl
def own_Q_s_inits0 (Z : State) (a0_ : Addr) (zc : Int32) (c1 : Addr) (kc : ClassId) (h0 : Heap) (n0 : Nat) (v : Option Value) (h : Heap) (L : List Loc) : Prop := ∃ t bs, v = none ∧ Fr n0 L ∧ Keep h0 h [a0_] ∧ (Exa Z h a0_ "java/lang/String") ∧ (Fld Z h a0_ "java/lang/String" "coder" "B" (.int (0 : Int32))) ∧ (Fld Z h a0_ "java/lang/String" "value" "[B" (.ref t)) ∧ (OG.BA Z h t bs) ∧ bs.length = 0
set_option maxRecDepth 65536 in
set_option maxHeartbeats 40000000 in
theorem own_rm_s_inits0 (l : Launch) (Z : State) (a0 : Array Value) (hw : ∀ d ∈ tables_1, d.before a0 Z = true) (ws : List Jvm.Cond) (a0_ : Addr) (zc : Int32) (c1 : Addr) (kc : ClassId) (h0 : Heap) (n0 : Nat) (Z0 : n0 ≤ h0.size) (O1 : Old Z n0 h0) (S_cs : Sta Z Z.heap "java/lang/String" "COMPACT_STRINGS" "Z" (.int zc)) (hzc : ¬ zc = (0 : Int32)) (E0 : Exa Z h0 a0_ "java/lang/String") (Fc0 : Fld Z h0 a0_ "java/lang/String" "coder" "B" (.int (0 : Int32))) (Fv0 : Fld Z h0 a0_ "java/lang/String" "value" "[B" .null) (g0 : n0 ≤ a0_) (V1 : Arv Z h0 c1 kc .char (0 : Int32) [] (.int (0 : Int32))) :
    MetFree l (⟨"java/lang/String", "<init>", "([C)V"⟩ : MethodName) (head1 (Jvm.Cond.code (⟨"java/lang/String", "<init>", "([C)V"⟩ : MethodName) jdk_42_method_3_code 2 none :: ws) ({ frames := 2, cells := 4, slots := 8, locals := 29 } : Room)) (fun a U => a = #[(.ref a0_), (.ref c1)] ∧ Z.Warmed39 U.vm ∧ U.heap = h0 ∧ CHv Z own_EL U.vm h0) (fun _ _ _ _ _ => True) (fun _ U o U' => ∃ v L, o = .returned v ∧ own_Q_s_inits0 Z a0_ zc c1 kc h0 n0 v U'.heap L ∧ CHr Z own_EL U.vm U.heap U'.vm U'.heap ∧ ReturnedEndW U o U' L ({ frames := 2, cells := 4, slots := 8, locals := 29 } : Room).cells ({ frames := 2, cells := 4, slots := 8, locals := 29 } : Room).slots) := by
  refine MetFree.of_bodySF (plainFor_of_name own_pn_s_inits0) hisR ?_
  intro p e s m args below meth c s₁ Bd hml0 hP hK
  obtain ⟨rfl, hZ, hh, hCH⟩ := hP
  have hx := Bd.exec
  have hby := Bd.bytes
  have hml : c.maxLocals = 2 := hml0
  have hown : s.vm.findClass "java/lang/String" = some m.cls := findClass_of_methodNamed Bd.named
  have hnm := (name_of_methodNamed Bd.named Bd.method).1
  have X0 : Stand p l e ({ frames := 2, cells := 4, slots := 8, locals := 29 } : Room) (s.setVm s.vm) m #[(.ref a0_), (.ref c1)] below meth c s₁ [] 0 0 := Stand.of_body Bd
  have e0 : s₁.heap = h0 := by rw [← hh, Bd.state]; rfl
  have N0 := Fr.nil n0
  have CH0 : CHr Z own_EL s.vm s.heap s.vm h0 := by rw [hh]; exact CHr.refl hCH
  have hS0 : s.Since s.vm h0.size := (State.WarmedH.refl s).since _
  show OG.Go p.tables e below (OG.GH Z own_EL (own_Q_s_inits0 Z a0_ zc c1 kc h0 n0) ({ frames := 2, cells := 4, slots := 8, locals := 29 } : Room).cells ({ frames := 2, cells := 4, slots := 8, locals := 29 } : Room).slots s) (s₁.setTop (entryFrame m #[(.ref a0_), (.ref c1)] 2))
  refine OG.Go.cast (own_ef_s_inits0 m a0_ c1) ?_
  refine OG.aloadN X0 hx hby own_d_s_inits0_0 rfl rfl rfl ?_
  refine OG.aloadN X0 hx hby own_d_s_inits0_1 rfl rfl rfl ?_
  refine OG.iconst (v := (0 : Int32)) X0 hx hby own_d_s_inits0_2 (by decide) rfl ?_
  refine OG.aloadN X0 hx hby own_d_s_inits0_3 rfl rfl rfl ?_
  refine OG.aL X0 hx hZ hby e0 V1 own_d_s_inits0_4 rfl ?_
  refine OG.aconstNull X0 hx hby own_d_s_inits0_5 rfl ?_
  refine OG.cNH X0 hx hZ hby (by rw [hml]; rfl) hown (y := (⟨"java/lang/String", "<init>", "([CIILjava/lang/Void;)V"⟩ : MethodName)) rfl rfl (hw _ (List.mem_of_getElem? (i := 35) rfl)) (hw _ (List.mem_of_getElem? (i := 36) rfl)) (hw _ (List.mem_of_getElem? (i := 37) rfl)) (hw _ (List.mem_of_getElem? (i := 6) rfl)) (by decide) (own_rm_s_initc0 l Z a0 hw [] a0_ zc c1 kc  h0 n0 Z0 O1 S_cs hzc E0 Fc0 Fv0 g0 V1 ) e0 hS0 (Nat.le_refl _) (own_hEL hw) CH0.1 (argsL := [(.ref c1), (.int (0 : Int32)), (.int (0 : Int32)), .null]) (stk := [.null, (.int (0 : Int32)), (.int (0 : Int32)), (.ref c1), (.ref a0_)]) (st := []) own_pd_16 rfl rfl rfl (W := 0) rfl (by decide) (by decide) (by decide) (by decide) own_d_s_inits0_6 rfl ?_
  intro T101 L101 v101 X101 S101 Zw101 Ow101 C101 q101
  obtain ⟨ta101, bx101, rfl, N101, K101, E_101, Fc_101, Fv_101, Y_101, hl101⟩ := q101
  have CH102 := CHr.trans CH0 (C101)
  have M101 := Fr.app N0 N101
  show OG.Go _ _ _ _ (T101.setTop (mkF m 9 #[.val (.ref a0_), .val (.ref c1)] []))
  refine OG.retVH X101 hx Zw101 hby (own_hEL hw) S101 (Nat.le_refl _) CH102 Bd.returns own_d_s_inits0_9 Bd.notSynchronized (by decide) (by decide) ?_
  exact ⟨ta101, _, rfl, M101, (Keep.trans (Keep.refl h0 [a0_]) K101 (allS (Or.inl (by simp)) all0)), E_101, Fc_101, Fv_101, Y_101, hl101⟩
theorem own_d_cmp5_2_0 : decode jdk_52_method_21_code 0 = .ok (.iconst 0, 1) := by decide +kernel
theorem own_d_cmp5_2_1 : decode jdk_52_method_21_code 1 = .ok (.istore 5, 2) := by decide +kernel
theorem own_d_cmp5_2_3 : decode jdk_52_method_21_code 3 = .ok (.iload 5, 2) := by decide +kernel
theorem own_d_cmp5_2_5 : decode jdk_52_method_21_code 5 = .ok (.iload 4, 2) := by decide +kernel
theorem own_d_cmp5_2_7 : decode jdk_52_method_21_code 7 = .ok (.if_icmp .ge 37, 3) := by decide +kernel
theorem own_d_cmp5_2_10 : decode jdk_52_method_21_code 10 = .ok (.aload_n 0, 1) := by decide +kernel
theorem own_d_cmp5_2_11 : decode jdk_52_method_21_code 11 = .ok (.iload_n 1, 1) := by decide +kernel
theorem own_d_cmp5_2_12 : decode jdk_52_method_21_code 12 = .ok (.caload, 1) := by decide +kernel
theorem own_d_cmp5_2_13 : decode jdk_52_method_21_code 13 = .ok (.istore 6, 2) := by decide +kernel
theorem own_d_cmp5_2_15 : decode jdk_52_method_21_code 15 = .ok (.iload 6, 2) := by decide +kernel
theorem own_d_cmp5_2_17 : decode jdk_52_method_21_code 17 = .ok (.sipush 255, 3) := by decide +kernel
theorem own_d_cmp5_2_20 : decode jdk_52_method_21_code 20 = .ok (.if_icmp .le 6, 3) := by decide +kernel
theorem own_d_cmp5_2_26 : decode jdk_52_method_21_code 26 = .ok (.aload_n 2, 1) := by decide +kernel
theorem own_d_cmp5_2_27 : decode jdk_52_method_21_code 27 = .ok (.iload_n 3, 1) := by decide +kernel
theorem own_d_cmp5_2_28 : decode jdk_52_method_21_code 28 = .ok (.iload 6, 2) := by decide +kernel
theorem own_d_cmp5_2_30 : decode jdk_52_method_21_code 30 = .ok (.i2b, 1) := by decide +kernel
theorem own_d_cmp5_2_31 : decode jdk_52_method_21_code 31 = .ok (.bastore, 1) := by decide +kernel
theorem own_d_cmp5_2_32 : decode jdk_52_method_21_code 32 = .ok (.iinc 1 1, 3) := by decide +kernel
theorem own_d_cmp5_2_35 : decode jdk_52_method_21_code 35 = .ok (.iinc 3 1, 3) := by decide +kernel
theorem own_d_cmp5_2_38 : decode jdk_52_method_21_code 38 = .ok (.iinc 5 1, 3) := by decide +kernel
theorem own_d_cmp5_2_41 : decode jdk_52_method_21_code 41 = .ok (.goto (-38), 3) := by decide +kernel
theorem own_d_cmp5_2_44 : decode jdk_52_method_21_code 44 = .ok (.iload 4, 2) := by decide +kernel
theorem own_d_cmp5_2_46 : decode jdk_52_method_21_code 46 = .ok (.ireturn, 1) := by decide +kernel
theorem own_pn_cmp5_2 : plainName "java/lang/StringUTF16" = true := by first | (simp [plainName, overriddenIn]; done) | decide +kernel
theorem own_ef_cmp5_2 (m : MethodId) (x0 : Addr) (x1 : Int32) (x2 : Addr) (x3 : Int32) (x4 : Int32)  : entryFrame m #[(.ref x0), (.int x1), (.ref x2), (.int x3), (.int x4)] 7 = mkF m 0 #[.val (.ref x0), .val (.int x1), .val (.ref x2), .val (.int x3), .val (.int x4), .unset, .unset] [] := by first | (simp [entryFrame, mkF, argsToLocals, Value.category]; done) | rfl
def own_Q_cmp5_2 (Z : State) (c1 : Addr) (kc : ClassId) (c0_ : Nat) (c1_ : Nat) (t1 : Addr) (h0 : Heap) (n0 : Nat) (v : Option Value) (h : Heap) (L : List Loc) : Prop := v = some (.int (2 : Int32)) ∧ Fr n0 L ∧ Keep h0 h [t1] ∧ OG.BA Z h t1 [(Int32.ofNat c0_).toInt8.toInt32, (Int32.ofNat c1_).toInt8.toInt32]
set_option maxRecDepth 65536 in
set_option maxHeartbeats 40000000 in
theorem own_rm_cmp5_2 (l : Launch) (Z : State) (a0 : Array Value) (hw : ∀ d ∈ tables_1, d.before a0 Z = true) (ws : List Jvm.Cond) (c1 : Addr) (kc : ClassId) (c0_ : Nat) (c1_ : Nat) (t1 : Addr) (h0 : Heap) (n0 : Nat) (Z0 : n0 ≤ h0.size) (V1 : Arv Z h0 c1 kc .char (2 : Int32) [(.int (Int32.ofNat c0_)), (.int (Int32.ofNat c1_))] (.int (0 : Int32))) (Y1 : OG.BA Z h0 t1 (List.replicate 2 0)) (g1 : n0 ≤ t1) (hct : c1 ≠ t1) (hc0 : c0_ < 256) (hc1 : c1_ < 256) :
    MetFree l (⟨"java/lang/StringUTF16", "compress", "([CI[BII)I"⟩ : MethodName) (head1 (Jvm.Cond.code (⟨"java/lang/StringUTF16", "compress", "([CI[BII)I"⟩ : MethodName) jdk_52_method_21_code 7 (some .int) :: ws) ({ frames := 0, cells := 0, slots := 0, locals := 0 } : Room)) (fun a U => a = #[(.ref c1), (.int (0 : Int32)), (.ref t1), (.int (0 : Int32)), (.int (2 : Int32))] ∧ Z.Warmed39 U.vm ∧ U.heap = h0) (fun _ _ _ _ _ => True) (fun _ U o U' => ∃ v L, o = .returned v ∧ own_Q_cmp5_2 Z c1 kc c0_ c1_ t1 h0 n0 v U'.heap L ∧ FrameEnd U o U' L ({ frames := 0, cells := 0, slots := 0, locals := 0 } : Room).cells ({ frames := 0, cells := 0, slots := 0, locals := 0 } : Room).slots) := by
  refine MetFree.of_bodySF (plainFor_of_name own_pn_cmp5_2) hisR ?_
  intro p e s m args below meth c s₁ Bd hml0 hP hK
  obtain ⟨rfl, hZ, hh⟩ := hP
  have hx := Bd.exec
  have hby := Bd.bytes
  have hml : c.maxLocals = 7 := hml0
  have hown : s.vm.findClass "java/lang/StringUTF16" = some m.cls := findClass_of_methodNamed Bd.named
  have hnm := (name_of_methodNamed Bd.named Bd.method).1
  have X0 : Stand p l e ({ frames := 0, cells := 0, slots := 0, locals := 0 } : Room) s m #[(.ref c1), (.int (0 : Int32)), (.ref t1), (.int (0 : Int32)), (.int (2 : Int32))] below meth c s₁ [] 0 0 := Stand.of_body Bd
  have e0 : s₁.heap = h0 := by rw [← hh, Bd.state]; rfl
  have N0 := Fr.nil n0
  show OG.Go p.tables e below (OG.GP (own_Q_cmp5_2 Z c1 kc c0_ c1_ t1 h0 n0) ({ frames := 0, cells := 0, slots := 0, locals := 0 } : Room).cells ({ frames := 0, cells := 0, slots := 0, locals := 0 } : Room).slots s) (s₁.setTop (entryFrame m #[(.ref c1), (.int (0 : Int32)), (.ref t1), (.int (0 : Int32)), (.int (2 : Int32))] 7))
  refine OG.Go.cast (own_ef_cmp5_2 m c1 (0 : Int32) t1 (0 : Int32) (2 : Int32)) ?_
  refine OG.iconst (v := (0 : Int32)) X0 hx hby own_d_cmp5_2_0 (by decide) rfl ?_
  refine OG.istore (Ls' := #[.val (.ref c1), .val (.int (0 : Int32)), .val (.ref t1), .val (.int (0 : Int32)), .val (.int (2 : Int32)), .val (.int (0 : Int32)), .unset]) X0 hx hby own_d_cmp5_2_1 rfl rfl ?_
  refine OG.iload X0 hx hby own_d_cmp5_2_3 rfl rfl ?_
  refine OG.iload X0 hx hby own_d_cmp5_2_5 rfl rfl ?_
  refine OG.icmpNo X0 hx hby own_d_cmp5_2_7 (tlt (by decide)).2.1 rfl ?_
  refine OG.aloadN X0 hx hby own_d_cmp5_2_10 rfl rfl rfl ?_
  refine OG.iloadN X0 hx hby own_d_cmp5_2_11 rfl rfl ?_
  refine OG.lC X0 hx hZ hby e0 V1 (by decide) rfl own_d_cmp5_2_12 rfl ?_
  refine OG.istore (Ls' := #[.val (.ref c1), .val (.int (0 : Int32)), .val (.ref t1), .val (.int (0 : Int32)), .val (.int (2 : Int32)), .val (.int (0 : Int32)), .val (.int (Int32.ofNat c0_))]) X0 hx hby own_d_cmp5_2_13 rfl rfl ?_
  refine OG.iload X0 hx hby own_d_cmp5_2_15 rfl rfl ?_
  refine OG.sipush (v := (255 : Int32)) X0 hx hby own_d_cmp5_2_17 (by decide) rfl ?_
  refine OG.icmpYes (pc' := 26) X0 hx hby own_d_cmp5_2_20 (flt (own_le255 hc0)).2.2.2 (by decide) (by decide) ?_
  refine OG.aloadN X0 hx hby own_d_cmp5_2_26 rfl rfl rfl ?_
  refine OG.iloadN X0 hx hby own_d_cmp5_2_27 rfl rfl ?_
  refine OG.iload X0 hx hby own_d_cmp5_2_28 rfl rfl ?_
  refine OG.i2b X0 hx hby own_d_cmp5_2_30 rfl ?_
  refine OG.yS X0 hx hZ hby e0 Y1 (i := 0) rfl (by simp) own_d_cmp5_2_31 rfl ?_
  intro T101 h101 X101 e101 W101 f102
  rw [own_narbb _] at f102
  have N103 := Fr.snoc X101 N0 g1
  refine OG.iinc (Ls' := #[.val (.ref c1), .val (.int (1 : Int32)), .val (.ref t1), .val (.int (0 : Int32)), .val (.int (2 : Int32)), .val (.int (0 : Int32)), .val (.int (Int32.ofNat c0_))]) X101 hx hby own_d_cmp5_2_32 rfl rfl rfl ?_
  refine OG.iinc (Ls' := #[.val (.ref c1), .val (.int (1 : Int32)), .val (.ref t1), .val (.int (1 : Int32)), .val (.int (2 : Int32)), .val (.int (0 : Int32)), .val (.int (Int32.ofNat c0_))]) X101 hx hby own_d_cmp5_2_35 rfl rfl rfl ?_
  refine OG.iinc (Ls' := #[.val (.ref c1), .val (.int (1 : Int32)), .val (.ref t1), .val (.int (1 : Int32)), .val (.int (2 : Int32)), .val (.int (1 : Int32)), .val (.int (Int32.ofNat c0_))]) X101 hx hby own_d_cmp5_2_38 rfl rfl rfl ?_
  refine OG.goto (pc' := 3) X101 hx hby own_d_cmp5_2_41 (by decide) (by decide) ?_
  refine OG.iload X101 hx hby own_d_cmp5_2_3 rfl rfl ?_
  refine OG.iload X101 hx hby own_d_cmp5_2_5 rfl rfl ?_
  refine OG.icmpNo X101 hx hby own_d_cmp5_2_7 (tlt (by decide)).2.1 rfl ?_
  refine OG.aloadN X101 hx hby own_d_cmp5_2_10 rfl rfl rfl ?_
  refine OG.iloadN X101 hx hby own_d_cmp5_2_11 rfl rfl ?_
  have f104 := (Arv.other V1 W101 hct)
  refine OG.lC X101 hx hZ hby e101 f104 (by decide) rfl own_d_cmp5_2_12 rfl ?_
  refine OG.istore (Ls' := #[.val (.ref c1), .val (.int (1 : Int32)), .val (.ref t1), .val (.int (1 : Int32)), .val (.int (2 : Int32)), .val (.int (1 : Int32)), .val (.int (Int32.ofNat c1_))]) X101 hx hby own_d_cmp5_2_13 rfl rfl ?_
  refine OG.iload X101 hx hby own_d_cmp5_2_15 rfl rfl ?_
  refine OG.sipush (v := (255 : Int32)) X101 hx hby own_d_cmp5_2_17 (by decide) rfl ?_
  refine OG.icmpYes (pc' := 26) X101 hx hby own_d_cmp5_2_20 (flt (own_le255 hc1)).2.2.2 (by decide) (by decide) ?_
  refine OG.aloadN X101 hx hby own_d_cmp5_2_26 rfl rfl rfl ?_
  refine OG.iloadN X101 hx hby own_d_cmp5_2_27 rfl rfl ?_
  refine OG.iload X101 hx hby own_d_cmp5_2_28 rfl rfl ?_
  refine OG.i2b X101 hx hby own_d_cmp5_2_30 rfl ?_
  refine OG.yS X101 hx hZ hby e101 f102 (i := 1) rfl (by simp) own_d_cmp5_2_31 rfl ?_
  intro T105 h105 X105 e105 W105 f106
  rw [own_narbb _] at f106
  have N107 := Fr.snoc X105 N103 g1
  refine OG.iinc (Ls' := #[.val (.ref c1), .val (.int (2 : Int32)), .val (.ref t1), .val (.int (1 : Int32)), .val (.int (2 : Int32)), .val (.int (1 : Int32)), .val (.int (Int32.ofNat c1_))]) X105 hx hby own_d_cmp5_2_32 rfl rfl rfl ?_
  refine OG.iinc (Ls' := #[.val (.ref c1), .val (.int (2 : Int32)), .val (.ref t1), .val (.int (2 : Int32)), .val (.int (2 : Int32)), .val (.int (1 : Int32)), .val (.int (Int32.ofNat c1_))]) X105 hx hby own_d_cmp5_2_35 rfl rfl rfl ?_
  refine OG.iinc (Ls' := #[.val (.ref c1), .val (.int (2 : Int32)), .val (.ref t1), .val (.int (2 : Int32)), .val (.int (2 : Int32)), .val (.int (2 : Int32)), .val (.int (Int32.ofNat c1_))]) X105 hx hby own_d_cmp5_2_38 rfl rfl rfl ?_
  refine OG.goto (pc' := 3) X105 hx hby own_d_cmp5_2_41 (by decide) (by decide) ?_
  refine OG.iload X105 hx hby own_d_cmp5_2_3 rfl rfl ?_
  refine OG.iload X105 hx hby own_d_cmp5_2_5 rfl rfl ?_
  refine OG.icmpYes (pc' := 44) X105 hx hby own_d_cmp5_2_7 (flt (by decide)).2.1 (by decide) (by decide) ?_
  refine OG.iload X105 hx hby own_d_cmp5_2_44 rfl rfl ?_
  refine OG.retI X105 hx hby Bd.returns own_d_cmp5_2_46 Bd.notSynchronized (by decide) (by decide) ?_
  rw [e105]
  exact ⟨rfl, N107, (Keep.wr (Keep.wr (Keep.refl h0 [t1]) W101 (Or.inl (by simp))) W105 (Or.inl (by simp))), f106⟩
theorem own_d_cmp3_2_0 : decode jdk_52_method_16_code 0 = .ok (.iload_n 2, 1) := by decide +kernel
theorem own_d_cmp3_2_1 : decode jdk_52_method_16_code 1 = .ok (.newarray .byte, 2) := by decide +kernel
theorem own_d_cmp3_2_3 : decode jdk_52_method_16_code 3 = .ok (.astore_n 3, 1) := by decide +kernel
theorem own_d_cmp3_2_4 : decode jdk_52_method_16_code 4 = .ok (.aload_n 0, 1) := by decide +kernel
theorem own_d_cmp3_2_5 : decode jdk_52_method_16_code 5 = .ok (.iload_n 1, 1) := by decide +kernel
theorem own_d_cmp3_2_6 : decode jdk_52_method_16_code 6 = .ok (.aload_n 3, 1) := by decide +kernel
theorem own_d_cmp3_2_7 : decode jdk_52_method_16_code 7 = .ok (.iconst 0, 1) := by decide +kernel
theorem own_d_cmp3_2_8 : decode jdk_52_method_16_code 8 = .ok (.iload_n 2, 1) := by decide +kernel
theorem own_d_cmp3_2_9 : decode jdk_52_method_16_code 9 = .ok (.invokestatic 115, 3) := by decide +kernel
theorem own_d_cmp3_2_12 : decode jdk_52_method_16_code 12 = .ok (.istore 4, 2) := by decide +kernel
theorem own_d_cmp3_2_14 : decode jdk_52_method_16_code 14 = .ok (.iload 4, 2) := by decide +kernel
theorem own_d_cmp3_2_16 : decode jdk_52_method_16_code 16 = .ok (.iload_n 2, 1) := by decide +kernel
theorem own_d_cmp3_2_17 : decode jdk_52_method_16_code 17 = .ok (.if_icmp .eq 40, 3) := by decide +kernel
theorem own_d_cmp3_2_57 : decode jdk_52_method_16_code 57 = .ok (.aload_n 3, 1) := by decide +kernel
theorem own_d_cmp3_2_58 : decode jdk_52_method_16_code 58 = .ok (.areturn, 1) := by decide +kernel
theorem own_pn_cmp3_2 : plainName "java/lang/StringUTF16" = true := by first | (simp [plainName, overriddenIn]; done) | decide +kernel
theorem own_ef_cmp3_2 (m : MethodId) (x0 : Addr) (x1 : Int32) (x2 : Int32)  : entryFrame m #[(.ref x0), (.int x1), (.int x2)] 6 = mkF m 0 #[.val (.ref x0), .val (.int x1), .val (.int x2), .unset, .unset, .unset] [] := by first | (simp [entryFrame, mkF, argsToLocals, Value.category]; done) | rfl
def own_Q_cmp3_2 (Z : State) (c1 : Addr) (kc : ClassId) (c0_ : Nat) (c1_ : Nat) (h0 : Heap) (n0 : Nat) (v : Option Value) (h : Heap) (L : List Loc) : Prop := ∃ t, v = some (.ref t) ∧ Fr n0 L ∧ Keep h0 h [] ∧ OG.BA Z h t [(Int32.ofNat c0_).toInt8.toInt32, (Int32.ofNat c1_).toInt8.toInt32] ∧ Exa Z h t "[B" ∧ h0.size ≤ t
set_option maxRecDepth 65536 in
set_option maxHeartbeats 40000000 in
theorem own_rm_cmp3_2 (l : Launch) (Z : State) (a0 : Array Value) (hw : ∀ d ∈ tables_1, d.before a0 Z = true) (ws : List Jvm.Cond) (c1 : Addr) (kc : ClassId) (c0_ : Nat) (c1_ : Nat) (h0 : Heap) (n0 : Nat) (Z0 : n0 ≤ h0.size) (V1 : Arv Z h0 c1 kc .char (2 : Int32) [(.int (Int32.ofNat c0_)), (.int (Int32.ofNat c1_))] (.int (0 : Int32))) (hc0 : c0_ < 256) (hc1 : c1_ < 256) :
    MetFree l (⟨"java/lang/StringUTF16", "compress", "([CII)[B"⟩ : MethodName) (head1 (Jvm.Cond.code (⟨"java/lang/StringUTF16", "compress", "([CII)[B"⟩ : MethodName) jdk_52_method_16_code 6 (some (.array .byte)) :: ws) ({ frames := 1, cells := 1, slots := 2, locals := 18 } : Room)) (fun a U => a = #[(.ref c1), (.int (0 : Int32)), (.int (2 : Int32))] ∧ Z.Warmed39 U.vm ∧ U.heap = h0) (fun _ _ _ _ _ => True) (fun _ U o U' => ∃ v L, o = .returned v ∧ own_Q_cmp3_2 Z c1 kc c0_ c1_ h0 n0 v U'.heap L ∧ FrameEnd U o U' L ({ frames := 1, cells := 1, slots := 2, locals := 18 } : Room).cells ({ frames := 1, cells := 1, slots := 2, locals := 18 } : Room).slots) := by
  refine MetFree.of_bodySF (plainFor_of_name own_pn_cmp3_2) hisR ?_
  intro p e s m args below meth c s₁ Bd hml0 hP hK
  obtain ⟨rfl, hZ, hh⟩ := hP
  have hx := Bd.exec
  have hby := Bd.bytes
  have hml : c.maxLocals = 6 := hml0
  have hown : s.vm.findClass "java/lang/StringUTF16" = some m.cls := findClass_of_methodNamed Bd.named
  have hnm := (name_of_methodNamed Bd.named Bd.method).1
  have X0 : Stand p l e ({ frames := 1, cells := 1, slots := 2, locals := 18 } : Room) s m #[(.ref c1), (.int (0 : Int32)), (.int (2 : Int32))] below meth c s₁ [] 0 0 := Stand.of_body Bd
  have e0 : s₁.heap = h0 := by rw [← hh, Bd.state]; rfl
  have N0 := Fr.nil n0
  show OG.Go p.tables e below (OG.GP (own_Q_cmp3_2 Z c1 kc c0_ c1_ h0 n0) ({ frames := 1, cells := 1, slots := 2, locals := 18 } : Room).cells ({ frames := 1, cells := 1, slots := 2, locals := 18 } : Room).slots s) (s₁.setTop (entryFrame m #[(.ref c1), (.int (0 : Int32)), (.int (2 : Int32))] 6))
  refine OG.Go.cast (own_ef_cmp3_2 m c1 (0 : Int32) (2 : Int32)) ?_
  refine OG.iloadN X0 hx hby own_d_cmp3_2_0 rfl rfl ?_
  refine OG.yN X0 hx hZ hby (hw _ (List.mem_of_getElem? (i := 18) rfl)) e0 (N := 2) (cap := 2) rfl (by decide) (by decide) (by decide) (by decide) own_d_cmp3_2_1 rfl ?_
  intro T101 h101 b101 g101 X101 e101 E101 Y101 A101
  have ne102 : c1 ≠ b101 := Nat.ne_of_lt (Nat.lt_of_lt_of_le (Arv.lt V1) (Nat.le_of_eq g101.symm))
  have gn103 : n0 ≤ b101 := Nat.le_trans Z0 (Nat.le_of_eq g101.symm)
  have sz104 : h0.size ≤ b101 := Nat.le_trans (Nat.le_refl _) (Nat.le_of_eq g101.symm)
  refine OG.astoreN (Ls' := #[.val (.ref c1), .val (.int (0 : Int32)), .val (.int (2 : Int32)), .val (.ref b101), .unset, .unset]) X101 hx hby own_d_cmp3_2_3 rfl rfl rfl ?_
  refine OG.aloadN X101 hx hby own_d_cmp3_2_4 rfl rfl rfl ?_
  refine OG.iloadN X101 hx hby own_d_cmp3_2_5 rfl rfl ?_
  refine OG.aloadN X101 hx hby own_d_cmp3_2_6 rfl rfl rfl ?_
  refine OG.iconst (v := (0 : Int32)) X101 hx hby own_d_cmp3_2_7 (by decide) rfl ?_
  refine OG.iloadN X101 hx hby own_d_cmp3_2_8 rfl rfl ?_
  have f106 := (V1.ext E101)
  refine OG.cS X101 hx hZ hby (by rw [hml]; rfl) hown (y := (⟨"java/lang/StringUTF16", "compress", "([CI[BII)I"⟩ : MethodName)) (hw _ (List.mem_of_getElem? (i := 229) rfl)) (hw _ (List.mem_of_getElem? (i := 230) rfl)) (hw _ (List.mem_of_getElem? (i := 231) rfl)) (hw _ (List.mem_of_getElem? (i := 227) rfl)) (by decide) (own_rm_cmp5_2 l Z a0 hw [] c1 kc c0_ c1_ b101 h101 n0 (Nat.le_trans Z0 E101.1) f106 Y101 gn103 ne102 hc0 hc1) e101 (argsL := [(.ref c1), (.int (0 : Int32)), (.ref b101), (.int (0 : Int32)), (.int (2 : Int32))]) (stk := [(.int (2 : Int32)), (.int (0 : Int32)), (.ref b101), (.int (0 : Int32)), (.ref c1)]) (st := []) own_pd_17 rfl rfl rfl (W := 0) rfl (by decide) (by decide) (by decide) (by decide) own_d_cmp3_2_9 rfl ?_
  intro T105 L105 v105 X105 q105
  obtain ⟨rfl, N105, K105, Y105⟩ := q105
  have M105 := Fr.app N0 N105
  show OG.Go _ _ _ _ (T105.setTop (mkF m 12 #[.val (.ref c1), .val (.int (0 : Int32)), .val (.int (2 : Int32)), .val (.ref b101), .unset, .unset] [(.int (2 : Int32))]))
  refine OG.istore (Ls' := #[.val (.ref c1), .val (.int (0 : Int32)), .val (.int (2 : Int32)), .val (.ref b101), .val (.int (2 : Int32)), .unset]) X105 hx hby own_d_cmp3_2_12 rfl rfl ?_
  refine OG.iload X105 hx hby own_d_cmp3_2_14 rfl rfl ?_
  refine OG.iloadN X105 hx hby own_d_cmp3_2_16 rfl rfl ?_
  refine OG.icmpYes (pc' := 57) X105 hx hby own_d_cmp3_2_17 (teq (by decide)).1 (by decide) (by decide) ?_
  refine OG.aloadN X105 hx hby own_d_cmp3_2_57 rfl rfl rfl ?_
  refine OG.retA X105 hx hby Bd.returns rfl rfl rfl own_d_cmp3_2_58 Bd.notSynchronized (by decide) (by decide) ?_
  have f107 := (Exa.keep A101 K105)
  exact ⟨b101, rfl, M105, (Keep.trans (Keep.ext (Keep.refl h0 []) E101) K105 (allS (Or.inr sz104) all0)), Y105, f107, sz104⟩
theorem own_d_s_initc2_0 : decode jdk_42_method_149_code 0 = .ok (.aload_n 0, 1) := by decide +kernel
theorem own_d_s_initc2_1 : decode jdk_42_method_149_code 1 = .ok (.invokespecial 1, 3) := by decide +kernel
theorem own_d_s_initc2_4 : decode jdk_42_method_149_code 4 = .ok (.iload_n 3, 1) := by decide +kernel
theorem own_d_s_initc2_5 : decode jdk_42_method_149_code 5 = .ok (.ifCond .ne 22, 3) := by decide +kernel
theorem own_d_s_initc2_27 : decode jdk_42_method_149_code 27 = .ok (.getstatic 38, 3) := by decide +kernel
theorem own_d_s_initc2_30 : decode jdk_42_method_149_code 30 = .ok (.ifCond .eq 28, 3) := by decide +kernel
theorem own_d_s_initc2_33 : decode jdk_42_method_149_code 33 = .ok (.aload_n 1, 1) := by decide +kernel
theorem own_d_s_initc2_34 : decode jdk_42_method_149_code 34 = .ok (.iload_n 2, 1) := by decide +kernel
theorem own_d_s_initc2_35 : decode jdk_42_method_149_code 35 = .ok (.iload_n 3, 1) := by decide +kernel
theorem own_d_s_initc2_36 : decode jdk_42_method_149_code 36 = .ok (.invokestatic 177, 3) := by decide +kernel
theorem own_d_s_initc2_39 : decode jdk_42_method_149_code 39 = .ok (.astore 5, 2) := by decide +kernel
theorem own_d_s_initc2_41 : decode jdk_42_method_149_code 41 = .ok (.aload_n 0, 1) := by decide +kernel
theorem own_d_s_initc2_42 : decode jdk_42_method_149_code 42 = .ok (.aload 5, 2) := by decide +kernel
theorem own_d_s_initc2_44 : decode jdk_42_method_149_code 44 = .ok (.iload_n 3, 1) := by decide +kernel
theorem own_d_s_initc2_45 : decode jdk_42_method_149_code 45 = .ok (.invokestatic 47, 3) := by decide +kernel
theorem own_d_s_initc2_48 : decode jdk_42_method_149_code 48 = .ok (.putfield 15, 3) := by decide +kernel
theorem own_d_s_initc2_51 : decode jdk_42_method_149_code 51 = .ok (.aload_n 0, 1) := by decide +kernel
theorem own_d_s_initc2_52 : decode jdk_42_method_149_code 52 = .ok (.aload 5, 2) := by decide +kernel
theorem own_d_s_initc2_54 : decode jdk_42_method_149_code 54 = .ok (.putfield 9, 3) := by decide +kernel
theorem own_d_s_initc2_57 : decode jdk_42_method_149_code 57 = .ok (.return_, 1) := by decide +kernel
theorem own_pn_s_initc2 : plainName "java/lang/String" = true := by first | (simp [plainName, overriddenIn]; done) | decide +kernel
theorem own_ef_s_initc2 (m : MethodId) (x0 : Addr) (x1 : Addr) (x2 : Int32) (x3 : Int32)  : entryFrame m #[(.ref x0), (.ref x1), (.int x2), (.int x3), .null] 6 = mkF m 0 #[.val (.ref x0), .val (.ref x1), .val (.int x2), .val (.int x3), .val .null, .unset] [] := by first | (simp [entryFrame, mkF, argsToLocals, Value.category]; done) | rfl
def own_Q_s_initc2 (Z : State) (a0_ : Addr) (zc : Int32) (c1 : Addr) (kc : ClassId) (c0_ : Nat) (c1_ : Nat) (h0 : Heap) (n0 : Nat) (v : Option Value) (h : Heap) (L : List Loc) : Prop := ∃ t bs, v = none ∧ Fr n0 L ∧ Keep h0 h [a0_] ∧ (Exa Z h a0_ "java/lang/String") ∧ (Fld Z h a0_ "java/lang/String" "coder" "B" (.int (0 : Int32))) ∧ (Fld Z h a0_ "java/lang/String" "value" "[B" (.ref t)) ∧ (OG.BA Z h t bs) ∧ bs.length = 2
set_option maxRecDepth 65536 in
set_option maxHeartbeats 40000000 in
theorem own_rm_s_initc2 (l : Launch) (Z : State) (a0 : Array Value) (hw : ∀ d ∈ tables_1, d.before a0 Z = true) (ws : List Jvm.Cond) (a0_ : Addr) (zc : Int32) (c1 : Addr) (kc : ClassId) (c0_ : Nat) (c1_ : Nat) (h0 : Heap) (n0 : Nat) (Z0 : n0 ≤ h0.size) (O1 : Old Z n0 h0) (S_cs : Sta Z Z.heap "java/lang/String" "COMPACT_STRINGS" "Z" (.int zc)) (hzc : ¬ zc = (0 : Int32)) (E0 : Exa Z h0 a0_ "java/lang/String") (Fc0 : Fld Z h0 a0_ "java/lang/String" "coder" "B" (.int (0 : Int32))) (Fv0 : Fld Z h0 a0_ "java/lang/String" "value" "[B" .null) (g0 : n0 ≤ a0_) (V1 : Arv Z h0 c1 kc .char (2 : Int32) [(.int (Int32.ofNat c0_)), (.int (Int32.ofNat c1_))] (.int (0 : Int32))) (hc0 : c0_ < 256) (hc1 : c1_ < 256) :
    MetFree l (⟨"java/lang/String", "<init>", "([CIILjava/lang/Void;)V"⟩ : MethodName) (head1 (Jvm.Cond.code (⟨"java/lang/String", "<init>", "([CIILjava/lang/Void;)V"⟩ : MethodName) jdk_42_method_149_code 6 none :: ws) ({ frames := 2, cells := 1, slots := 2, locals := 35 } : Room)) (fun a U => a = #[(.ref a0_), (.ref c1), (.int (0 : Int32)), (.int (2 : Int32)), .null] ∧ Z.Warmed39 U.vm ∧ U.heap = h0 ∧ CHv Z own_EL U.vm h0) (fun _ _ _ _ _ => True) (fun _ U o U' => ∃ v L, o = .returned v ∧ own_Q_s_initc2 Z a0_ zc c1 kc c0_ c1_ h0 n0 v U'.heap L ∧ CHr Z own_EL U.vm U.heap U'.vm U'.heap ∧ ReturnedEndW U o U' L ({ frames := 2, cells := 1, slots := 2, locals := 35 } : Room).cells ({ frames := 2, cells := 1, slots := 2, locals := 35 } : Room).slots) := by
  refine MetFree.of_bodySF (plainFor_of_name own_pn_s_initc2) hisR ?_
  intro p e s m args below meth c s₁ Bd hml0 hP hK
  obtain ⟨rfl, hZ, hh, hCH⟩ := hP
  have hx := Bd.exec
  have hby := Bd.bytes
  have hml : c.maxLocals = 6 := hml0
  have hown : s.vm.findClass "java/lang/String" = some m.cls := findClass_of_methodNamed Bd.named
  have hnm := (name_of_methodNamed Bd.named Bd.method).1
  have X0 : Stand p l e ({ frames := 2, cells := 1, slots := 2, locals := 35 } : Room) (s.setVm s.vm) m #[(.ref a0_), (.ref c1), (.int (0 : Int32)), (.int (2 : Int32)), .null] below meth c s₁ [] 0 0 := Stand.of_body Bd
  have e0 : s₁.heap = h0 := by rw [← hh, Bd.state]; rfl
  have N0 := Fr.nil n0
  have CH0 : CHr Z own_EL s.vm s.heap s.vm h0 := by rw [hh]; exact CHr.refl hCH
  have hS0 : s.Since s.vm h0.size := (State.WarmedH.refl s).since _
  show OG.Go p.tables e below (OG.GH Z own_EL (own_Q_s_initc2 Z a0_ zc c1 kc c0_ c1_ h0 n0) ({ frames := 2, cells := 1, slots := 2, locals := 35 } : Room).cells ({ frames := 2, cells := 1, slots := 2, locals := 35 } : Room).slots s) (s₁.setTop (entryFrame m #[(.ref a0_), (.ref c1), (.int (0 : Int32)), (.int (2 : Int32)), .null] 6))
  refine OG.Go.cast (own_ef_s_initc2 m a0_ c1 (0 : Int32) (2 : Int32)) ?_
  refine OG.aloadN X0 hx hby own_d_s_initc2_0 rfl rfl rfl ?_
  refine OG.iO X0 hx hZ hby hown (by rw [hml]; rfl) (hw _ (List.mem_of_getElem? (i := 23) rfl)) (hw _ (List.mem_of_getElem? (i := 24) rfl)) (hw _ (List.mem_of_getElem? (i := 25) rfl)) e0 (W := 0) rfl (by decide) (by decide) own_d_s_initc2_1 rfl ?_
  intro T101 X101 e101
  refine OG.iloadN X101 hx hby own_d_s_initc2_4 rfl rfl ?_
  refine OG.ifYes (pc' := 27) X101 hx hby own_d_s_initc2_5 (feq (by decide)).2 (by decide) (by decide) ?_
  have f103 := Sta.ext O1.2 S_cs
  refine OG.gS X101 hx hZ hby hown (hw _ (List.mem_of_getElem? (i := 8) rfl)) Via.refl e101 f103 own_d_s_initc2_27 rfl ?_
  intro T102 X102 e102
  refine OG.ifNo X102 hx hby own_d_s_initc2_30 (feq hzc).1 rfl ?_
  refine OG.aloadN X102 hx hby own_d_s_initc2_33 rfl rfl rfl ?_
  refine OG.iloadN X102 hx hby own_d_s_initc2_34 rfl rfl ?_
  refine OG.iloadN X102 hx hby own_d_s_initc2_35 rfl rfl ?_
  refine OG.cS X102 hx hZ hby (by rw [hml]; rfl) hown (y := (⟨"java/lang/StringUTF16", "compress", "([CII)[B"⟩ : MethodName)) (hw _ (List.mem_of_getElem? (i := 225) rfl)) (hw _ (List.mem_of_getElem? (i := 226) rfl)) (hw _ (List.mem_of_getElem? (i := 228) rfl)) (hw _ (List.mem_of_getElem? (i := 227) rfl)) (by decide) (own_rm_cmp3_2 l Z a0 hw [] c1 kc c0_ c1_ h0 n0 Z0 V1 hc0 hc1) e102 (argsL := [(.ref c1), (.int (0 : Int32)), (.int (2 : Int32))]) (stk := [(.int (2 : Int32)), (.int (0 : Int32)), (.ref c1)]) (st := []) own_pd_18 rfl rfl rfl (W := 0) rfl (by decide) (by decide) (by decide) (by decide) own_d_s_initc2_36 rfl ?_
  intro T104 L104 v104 X104 q104
  obtain ⟨ta104, rfl, N104, K104, Y104, E104, sz104⟩ := q104
  have ne105 : c1 ≠ ta104 := Nat.ne_of_lt (Nat.lt_of_lt_of_le (Arv.lt V1) sz104)
  have ne106 : a0_ ≠ ta104 := Nat.ne_of_lt (Nat.lt_of_lt_of_le (Exa.lt E0) sz104)
  have gn107 : n0 ≤ ta104 := Nat.le_trans Z0 sz104
  have sz108 : h0.size ≤ ta104 := Nat.le_trans (Nat.le_refl _) sz104
  have sf109 : Safe Z own_EL s.vm h0 ta104 := Safe.new sz104
  have CH110 := CHr.trans CH0 (CHr.keep K104 sf0 CH0.1)
  have M104 := Fr.app N0 N104
  show OG.Go _ _ _ _ (T104.setTop (mkF m 39 #[.val (.ref a0_), .val (.ref c1), .val (.int (0 : Int32)), .val (.int (2 : Int32)), .val .null, .unset] [(.ref ta104)]))
  refine OG.astore (Ls' := #[.val (.ref a0_), .val (.ref c1), .val (.int (0 : Int32)), .val (.int (2 : Int32)), .val .null, .val (.ref ta104)]) X104 hx hby own_d_s_initc2_39 rfl rfl rfl ?_
  refine OG.aloadN X104 hx hby own_d_s_initc2_41 rfl rfl rfl ?_
  refine OG.aload X104 hx hby own_d_s_initc2_42 rfl rfl rfl ?_
  refine OG.iloadN X104 hx hby own_d_s_initc2_44 rfl rfl ?_
  refine OG.cS X104 hx hZ hby (by rw [hml]; rfl) hown (y := (⟨"java/lang/StringUTF16", "coderFromArrayLen", "([BI)B"⟩ : MethodName)) (hw _ (List.mem_of_getElem? (i := 232) rfl)) (hw _ (List.mem_of_getElem? (i := 233) rfl)) (hw _ (List.mem_of_getElem? (i := 234) rfl)) (hw _ (List.mem_of_getElem? (i := 227) rfl)) (by decide) (own_rm_cfal l Z a0 hw [] ta104 [(Int32.ofNat c0_).toInt8.toInt32, (Int32.ofNat c1_).toInt8.toInt32] 2 T104.heap n0 (Nat.le_trans Z0 K104.1) Y104 rfl) rfl (argsL := [(.ref ta104), (.int (2 : Int32))]) (stk := [(.int (2 : Int32)), (.ref ta104), (.ref a0_)]) (st := [(.ref a0_)]) own_pd_19 rfl rfl rfl (W := 1) rfl (by decide) (by decide) (by decide) (by decide) own_d_s_initc2_45 rfl ?_
  intro T111 L111 v111 X111 q111
  obtain ⟨rfl, N111, e111⟩ := q111
  have M111 := Fr.app M104 N111
  show OG.Go _ _ _ _ (T111.setTop (mkF m 48 #[.val (.ref a0_), .val (.ref c1), .val (.int (0 : Int32)), .val (.int (2 : Int32)), .val .null, .val (.ref ta104)] [(.int (0 : Int32)), (.ref a0_)]))
  have f112 := (Fld.keep Fc0 K104 nin0)
  have f113 := (Exa.keep E0 K104)
  refine OG.pFN (v' := (.int (0 : Int32))) X111 hx hZ hby hown (hw _ (List.mem_of_getElem? (i := 28) rfl)) Via.refl e111 f112 f113 (Or.inr ⟨(hw _ (List.mem_of_getElem? (i := 29) rfl)), rfl, hnm⟩) (hw _ (List.mem_of_getElem? (i := 14) rfl)) (ty := .byte) (by decide) rfl rfl own_d_s_initc2_48 rfl ?_
  intro T114 h114 X114 e114 W114
  have f115 := Fld.same W114 f112
  have N116 := Fr.snoc X114 M111 g0
  have f117 := (Fld.keep Fv0 K104 nin0)
  have sf118 : Safe Z own_EL s.vm T104.heap a0_ := OG.Safe.null (show Z.vm.Alike s.vm from hZ.alike) f113 f117
  have CH119 := CHr.trans CH110 (CHr.wr W114 sf118 CH110.1)
  refine OG.aloadN X114 hx hby own_d_s_initc2_51 rfl rfl rfl ?_
  refine OG.aload X114 hx hby own_d_s_initc2_52 rfl rfl rfl ?_
  have f120 := (Fld.other W114 f117 (Or.inr (slot_ne (Or.inr (hw _ (List.mem_of_getElem? (i := 27) rfl))) (Or.inr (hw _ (List.mem_of_getElem? (i := 29) rfl))) (by decide) (t := (.array .byte)) (t' := .byte) (by decide) (by decide))))
  have f121 := (Exa.wr W114 f113)
  refine OG.pF X114 hx hZ hby hown (hw _ (List.mem_of_getElem? (i := 26) rfl)) Via.refl e114 f120 f121 (Or.inr ⟨(hw _ (List.mem_of_getElem? (i := 27) rfl)), rfl, hnm⟩) (hw _ (List.mem_of_getElem? (i := 14) rfl)) (ty := (.array .byte)) (by decide) rfl rfl own_d_s_initc2_54 rfl ?_
  intro T122 h122 X122 e122 W122
  have f123 := Fld.same W122 f120
  have N124 := Fr.snoc X122 N116 g0
  have f125 := (Safe.wr W114 sf118 CH110.1 sf118)
  have CH126 := CHr.trans CH119 (CHr.wr W122 f125 CH119.1)
  refine OG.retVH X122 hx hZ hby (own_hEL hw) hS0 (by rw [e122]; exact (Nat.le_trans (Nat.le_trans (Nat.le_trans (Nat.le_refl _) K104.1) (Nat.le_of_eq (Wr.size W114).symm)) (Nat.le_of_eq (Wr.size W122).symm))) (by rw [e122]; exact CH126) Bd.returns own_d_s_initc2_57 Bd.notSynchronized (by decide) (by decide) ?_
  have f127 := (Exa.wr W122 f121)
  have f128 := (Fld.other W122 f115 (Or.inr (slot_ne (Or.inr (hw _ (List.mem_of_getElem? (i := 29) rfl))) (Or.inr (hw _ (List.mem_of_getElem? (i := 27) rfl))) (by decide) (t := .byte) (t' := (.array .byte)) (by decide) (by decide))))
  have f129 := (OG.BA.other (OG.BA.other Y104 W114 (Ne.symm ne106)) W122 (Ne.symm ne106))
  rw [e122]
  exact ⟨ta104, _, rfl, N124, (Keep.wr (Keep.wr (Keep.trans (Keep.refl h0 [a0_]) K104 all0) W114 (Or.inl (by simp))) W122 (Or.inl (by simp))), f127, f128, f123, f129, rfl⟩
theorem own_d_s_inits2_0 : decode jdk_42_method_3_code 0 = .ok (.aload_n 0, 1) := by decide +kernel
theorem own_d_s_inits2_1 : decode jdk_42_method_3_code 1 = .ok (.aload_n 1, 1) := by decide +kernel
theorem own_d_s_inits2_2 : decode jdk_42_method_3_code 2 = .ok (.iconst 0, 1) := by decide +kernel
theorem own_d_s_inits2_3 : decode jdk_42_method_3_code 3 = .ok (.aload_n 1, 1) := by decide +kernel
theorem own_d_s_inits2_4 : decode jdk_42_method_3_code 4 = .ok (.arraylength, 1) := by decide +kernel
theorem own_d_s_inits2_5 : decode jdk_42_method_3_code 5 = .ok (.aconst_null, 1) := by decide +kernel
theorem own_d_s_inits2_6 : decode jdk_42_method_3_code 6 = .ok (.invokespecial 27, 3) := by decide +kernel
theorem own_d_s_inits2_9 : decode jdk_42_method_3_code 9 = .ok (.return_, 1) := by decide +kernel
theorem own_pn_s_inits2 : plainName "java/lang/String" = true := by first | (simp [plainName, overriddenIn]; done) | decide +kernel
theorem own_ef_s_inits2 (m : MethodId) (x0 : Addr) (x1 : Addr)  : entryFrame m #[(.ref x0), (.ref x1)] 2 = mkF m 0 #[.val (.ref x0), .val (.ref x1)] [] := by first | (simp [entryFrame, mkF, argsToLocals, Value.category]; done) | rfl
def own_Q_s_inits2 (Z : State) (a0_ : Addr) (zc : Int32) (c1 : Addr) (kc : ClassId) (c0_ : Nat) (c1_ : Nat) (h0 : Heap) (n0 : Nat) (v : Option Value) (h : Heap) (L : List Loc) : Prop := ∃ t bs, v = none ∧ Fr n0 L ∧ Keep h0 h [a0_] ∧ (Exa Z h a0_ "java/lang/String") ∧ (Fld Z h a0_ "java/lang/String" "coder" "B" (.int (0 : Int32))) ∧ (Fld Z h a0_ "java/lang/String" "value" "[B" (.ref t)) ∧ (OG.BA Z h t bs) ∧ bs.length = 2
set_option maxRecDepth 65536 in
set_option maxHeartbeats 40000000 in
theorem own_rm_s_inits2 (l : Launch) (Z : State) (a0 : Array Value) (hw : ∀ d ∈ tables_1, d.before a0 Z = true) (ws : List Jvm.Cond) (a0_ : Addr) (zc : Int32) (c1 : Addr) (kc : ClassId) (c0_ : Nat) (c1_ : Nat) (h0 : Heap) (n0 : Nat) (Z0 : n0 ≤ h0.size) (O1 : Old Z n0 h0) (S_cs : Sta Z Z.heap "java/lang/String" "COMPACT_STRINGS" "Z" (.int zc)) (hzc : ¬ zc = (0 : Int32)) (E0 : Exa Z h0 a0_ "java/lang/String") (Fc0 : Fld Z h0 a0_ "java/lang/String" "coder" "B" (.int (0 : Int32))) (Fv0 : Fld Z h0 a0_ "java/lang/String" "value" "[B" .null) (g0 : n0 ≤ a0_) (V1 : Arv Z h0 c1 kc .char (2 : Int32) [(.int (Int32.ofNat c0_)), (.int (Int32.ofNat c1_))] (.int (0 : Int32))) (hc0 : c0_ < 256) (hc1 : c1_ < 256) :
    MetFree l (⟨"java/lang/String", "<init>", "([C)V"⟩ : MethodName) (head1 (Jvm.Cond.code (⟨"java/lang/String", "<init>", "([C)V"⟩ : MethodName) jdk_42_method_3_code 2 none :: ws) ({ frames := 3, cells := 1, slots := 2, locals := 52 } : Room)) (fun a U => a = #[(.ref a0_), (.ref c1)] ∧ Z.Warmed39 U.vm ∧ U.heap = h0 ∧ CHv Z own_EL U.vm h0) (fun _ _ _ _ _ => True) (fun _ U o U' => ∃ v L, o = .returned v ∧ own_Q_s_inits2 Z a0_ zc c1 kc c0_ c1_ h0 n0 v U'.heap L ∧ CHr Z own_EL U.vm U.heap U'.vm U'.heap ∧ ReturnedEndW U o U' L ({ frames := 3, cells := 1, slots := 2, locals := 52 } : Room).cells ({ frames := 3, cells := 1, slots := 2, locals := 52 } : Room).slots) := by
  refine MetFree.of_bodySF (plainFor_of_name own_pn_s_inits2) hisR ?_
  intro p e s m args below meth c s₁ Bd hml0 hP hK
  obtain ⟨rfl, hZ, hh, hCH⟩ := hP
  have hx := Bd.exec
  have hby := Bd.bytes
  have hml : c.maxLocals = 2 := hml0
  have hown : s.vm.findClass "java/lang/String" = some m.cls := findClass_of_methodNamed Bd.named
  have hnm := (name_of_methodNamed Bd.named Bd.method).1
  have X0 : Stand p l e ({ frames := 3, cells := 1, slots := 2, locals := 52 } : Room) (s.setVm s.vm) m #[(.ref a0_), (.ref c1)] below meth c s₁ [] 0 0 := Stand.of_body Bd
  have e0 : s₁.heap = h0 := by rw [← hh, Bd.state]; rfl
  have N0 := Fr.nil n0
  have CH0 : CHr Z own_EL s.vm s.heap s.vm h0 := by rw [hh]; exact CHr.refl hCH
  have hS0 : s.Since s.vm h0.size := (State.WarmedH.refl s).since _
  show OG.Go p.tables e below (OG.GH Z own_EL (own_Q_s_inits2 Z a0_ zc c1 kc c0_ c1_ h0 n0) ({ frames := 3, cells := 1, slots := 2, locals := 52 } : Room).cells ({ frames := 3, cells := 1, slots := 2, locals := 52 } : Room).slots s) (s₁.setTop (entryFrame m #[(.ref a0_), (.ref c1)] 2))
  refine OG.Go.cast (own_ef_s_inits2 m a0_ c1) ?_
  refine OG.aloadN X0 hx hby own_d_s_inits2_0 rfl rfl rfl ?_
  refine OG.aloadN X0 hx hby own_d_s_inits2_1 rfl rfl rfl ?_
  refine OG.iconst (v := (0 : Int32)) X0 hx hby own_d_s_inits2_2 (by decide) rfl ?_
  refine OG.aloadN X0 hx hby own_d_s_inits2_3 rfl rfl rfl ?_
  refine OG.aL X0 hx hZ hby e0 V1 own_d_s_inits2_4 rfl ?_
  refine OG.aconstNull X0 hx hby own_d_s_inits2_5 rfl ?_
  refine OG.cNH X0 hx hZ hby (by rw [hml]; rfl) hown (y := (⟨"java/lang/String", "<init>", "([CIILjava/lang/Void;)V"⟩ : MethodName)) rfl rfl (hw _ (List.mem_of_getElem? (i := 35) rfl)) (hw _ (List.mem_of_getElem? (i := 36) rfl)) (hw _ (List.mem_of_getElem? (i := 37) rfl)) (hw _ (List.mem_of_getElem? (i := 6) rfl)) (by decide) (own_rm_s_initc2 l Z a0 hw [] a0_ zc c1 kc c0_ c1_ h0 n0 Z0 O1 S_cs hzc E0 Fc0 Fv0 g0 V1 hc0 hc1) e0 hS0 (Nat.le_refl _) (own_hEL hw) CH0.1 (argsL := [(.ref c1), (.int (0 : Int32)), (.int (2 : Int32)), .null]) (stk := [.null, (.int (2 : Int32)), (.int (0 : Int32)), (.ref c1), (.ref a0_)]) (st := []) own_pd_16 rfl rfl rfl (W := 0) rfl (by decide) (by decide) (by decide) (by decide) own_d_s_inits2_6 rfl ?_
  intro T101 L101 v101 X101 S101 Zw101 Ow101 C101 q101
  obtain ⟨ta101, bx101, rfl, N101, K101, E_101, Fc_101, Fv_101, Y_101, hl101⟩ := q101
  have CH102 := CHr.trans CH0 (C101)
  have M101 := Fr.app N0 N101
  show OG.Go _ _ _ _ (T101.setTop (mkF m 9 #[.val (.ref a0_), .val (.ref c1)] []))
  refine OG.retVH X101 hx Zw101 hby (own_hEL hw) S101 (Nat.le_refl _) CH102 Bd.returns own_d_s_inits2_9 Bd.notSynchronized (by decide) (by decide) ?_
  exact ⟨ta101, _, rfl, M101, (Keep.trans (Keep.refl h0 [a0_]) K101 (allS (Or.inl (by simp)) all0)), E_101, Fc_101, Fv_101, Y_101, hl101⟩
theorem own_d_cmp5_3_0 : decode jdk_52_method_21_code 0 = .ok (.iconst 0, 1) := by decide +kernel
theorem own_d_cmp5_3_1 : decode jdk_52_method_21_code 1 = .ok (.istore 5, 2) := by decide +kernel
theorem own_d_cmp5_3_3 : decode jdk_52_method_21_code 3 = .ok (.iload 5, 2) := by decide +kernel
theorem own_d_cmp5_3_5 : decode jdk_52_method_21_code 5 = .ok (.iload 4, 2) := by decide +kernel
theorem own_d_cmp5_3_7 : decode jdk_52_method_21_code 7 = .ok (.if_icmp .ge 37, 3) := by decide +kernel
theorem own_d_cmp5_3_10 : decode jdk_52_method_21_code 10 = .ok (.aload_n 0, 1) := by decide +kernel
theorem own_d_cmp5_3_11 : decode jdk_52_method_21_code 11 = .ok (.iload_n 1, 1) := by decide +kernel
theorem own_d_cmp5_3_12 : decode jdk_52_method_21_code 12 = .ok (.caload, 1) := by decide +kernel
theorem own_d_cmp5_3_13 : decode jdk_52_method_21_code 13 = .ok (.istore 6, 2) := by decide +kernel
theorem own_d_cmp5_3_15 : decode jdk_52_method_21_code 15 = .ok (.iload 6, 2) := by decide +kernel
theorem own_d_cmp5_3_17 : decode jdk_52_method_21_code 17 = .ok (.sipush 255, 3) := by decide +kernel
theorem own_d_cmp5_3_20 : decode jdk_52_method_21_code 20 = .ok (.if_icmp .le 6, 3) := by decide +kernel
theorem own_d_cmp5_3_26 : decode jdk_52_method_21_code 26 = .ok (.aload_n 2, 1) := by decide +kernel
theorem own_d_cmp5_3_27 : decode jdk_52_method_21_code 27 = .ok (.iload_n 3, 1) := by decide +kernel
theorem own_d_cmp5_3_28 : decode jdk_52_method_21_code 28 = .ok (.iload 6, 2) := by decide +kernel
theorem own_d_cmp5_3_30 : decode jdk_52_method_21_code 30 = .ok (.i2b, 1) := by decide +kernel
theorem own_d_cmp5_3_31 : decode jdk_52_method_21_code 31 = .ok (.bastore, 1) := by decide +kernel
theorem own_d_cmp5_3_32 : decode jdk_52_method_21_code 32 = .ok (.iinc 1 1, 3) := by decide +kernel
theorem own_d_cmp5_3_35 : decode jdk_52_method_21_code 35 = .ok (.iinc 3 1, 3) := by decide +kernel
theorem own_d_cmp5_3_38 : decode jdk_52_method_21_code 38 = .ok (.iinc 5 1, 3) := by decide +kernel
theorem own_d_cmp5_3_41 : decode jdk_52_method_21_code 41 = .ok (.goto (-38), 3) := by decide +kernel
theorem own_d_cmp5_3_44 : decode jdk_52_method_21_code 44 = .ok (.iload 4, 2) := by decide +kernel
theorem own_d_cmp5_3_46 : decode jdk_52_method_21_code 46 = .ok (.ireturn, 1) := by decide +kernel
theorem own_pn_cmp5_3 : plainName "java/lang/StringUTF16" = true := by first | (simp [plainName, overriddenIn]; done) | decide +kernel
theorem own_ef_cmp5_3 (m : MethodId) (x0 : Addr) (x1 : Int32) (x2 : Addr) (x3 : Int32) (x4 : Int32)  : entryFrame m #[(.ref x0), (.int x1), (.ref x2), (.int x3), (.int x4)] 7 = mkF m 0 #[.val (.ref x0), .val (.int x1), .val (.ref x2), .val (.int x3), .val (.int x4), .unset, .unset] [] := by first | (simp [entryFrame, mkF, argsToLocals, Value.category]; done) | rfl
def own_Q_cmp5_3 (Z : State) (c1 : Addr) (kc : ClassId) (c0_ : Nat) (c1_ : Nat) (c2_ : Nat) (t1 : Addr) (h0 : Heap) (n0 : Nat) (v : Option Value) (h : Heap) (L : List Loc) : Prop := v = some (.int (3 : Int32)) ∧ Fr n0 L ∧ Keep h0 h [t1] ∧ OG.BA Z h t1 [(Int32.ofNat c0_).toInt8.toInt32, (Int32.ofNat c1_).toInt8.toInt32, (Int32.ofNat c2_).toInt8.toInt32]
set_option maxRecDepth 65536 in
set_option maxHeartbeats 40000000 in
theorem own_rm_cmp5_3 (l : Launch) (Z : State) (a0 : Array Value) (hw : ∀ d ∈ tables_1, d.before a0 Z = true) (ws : List Jvm.Cond) (c1 : Addr) (kc : ClassId) (c0_ : Nat) (c1_ : Nat) (c2_ : Nat) (t1 : Addr) (h0 : Heap) (n0 : Nat) (Z0 : n0 ≤ h0.size) (V1 : Arv Z h0 c1 kc .char (3 : Int32) [(.int (Int32.ofNat c0_)), (.int (Int32.ofNat c1_)), (.int (Int32.ofNat c2_))] (.int (0 : Int32))) (Y1 : OG.BA Z h0 t1 (List.replicate 3 0)) (g1 : n0 ≤ t1) (hct : c1 ≠ t1) (hc0 : c0_ < 256) (hc1 : c1_ < 256) (hc2 : c2_ < 256) :
    MetFree l (⟨"java/lang/StringUTF16", "compress", "([CI[BII)I"⟩ : MethodName) (head1 (Jvm.Cond.code (⟨"java/lang/StringUTF16", "compress", "([CI[BII)I"⟩ : MethodName) jdk_52_method_21_code 7 (some .int) :: ws) ({ frames := 0, cells := 0, slots := 0, locals := 0 } : Room)) (fun a U => a = #[(.ref c1), (.int (0 : Int32)), (.ref t1), (.int (0 : Int32)), (.int (3 : Int32))] ∧ Z.Warmed39 U.vm ∧ U.heap = h0) (fun _ _ _ _ _ => True) (fun _ U o U' => ∃ v L, o = .returned v ∧ own_Q_cmp5_3 Z c1 kc c0_ c1_ c2_ t1 h0 n0 v U'.heap L ∧ FrameEnd U o U' L ({ frames := 0, cells := 0, slots := 0, locals := 0 } : Room).cells ({ frames := 0, cells := 0, slots := 0, locals := 0 } : Room).slots) := by
  refine MetFree.of_bodySF (plainFor_of_name own_pn_cmp5_3) hisR ?_
  intro p e s m args below meth c s₁ Bd hml0 hP hK
  obtain ⟨rfl, hZ, hh⟩ := hP
  have hx := Bd.exec
  have hby := Bd.bytes
  have hml : c.maxLocals = 7 := hml0
  have hown : s.vm.findClass "java/lang/StringUTF16" = some m.cls := findClass_of_methodNamed Bd.named
  have hnm := (name_of_methodNamed Bd.named Bd.method).1
  have X0 : Stand p l e ({ frames := 0, cells := 0, slots := 0, locals := 0 } : Room) s m #[(.ref c1), (.int (0 : Int32)), (.ref t1), (.int (0 : Int32)), (.int (3 : Int32))] below meth c s₁ [] 0 0 := Stand.of_body Bd
  have e0 : s₁.heap = h0 := by rw [← hh, Bd.state]; rfl
  have N0 := Fr.nil n0
  show OG.Go p.tables e below (OG.GP (own_Q_cmp5_3 Z c1 kc c0_ c1_ c2_ t1 h0 n0) ({ frames := 0, cells := 0, slots := 0, locals := 0 } : Room).cells ({ frames := 0, cells := 0, slots := 0, locals := 0 } : Room).slots s) (s₁.setTop (entryFrame m #[(.ref c1), (.int (0 : Int32)), (.ref t1), (.int (0 : Int32)), (.int (3 : Int32))] 7))
  refine OG.Go.cast (own_ef_cmp5_3 m c1 (0 : Int32) t1 (0 : Int32) (3 : Int32)) ?_
  refine OG.iconst (v := (0 : Int32)) X0 hx hby own_d_cmp5_3_0 (by decide) rfl ?_
  refine OG.istore (Ls' := #[.val (.ref c1), .val (.int (0 : Int32)), .val (.ref t1), .val (.int (0 : Int32)), .val (.int (3 : Int32)), .val (.int (0 : Int32)), .unset]) X0 hx hby own_d_cmp5_3_1 rfl rfl ?_
  refine OG.iload X0 hx hby own_d_cmp5_3_3 rfl rfl ?_
  refine OG.iload X0 hx hby own_d_cmp5_3_5 rfl rfl ?_
  refine OG.icmpNo X0 hx hby own_d_cmp5_3_7 (tlt (by decide)).2.1 rfl ?_
  refine OG.aloadN X0 hx hby own_d_cmp5_3_10 rfl rfl rfl ?_
  refine OG.iloadN X0 hx hby own_d_cmp5_3_11 rfl rfl ?_
  refine OG.lC X0 hx hZ hby e0 V1 (by decide) rfl own_d_cmp5_3_12 rfl ?_
  refine OG.istore (Ls' := #[.val (.ref c1), .val (.int (0 : Int32)), .val (.ref t1), .val (.int (0 : Int32)), .val (.int (3 : Int32)), .val (.int (0 : Int32)), .val (.int (Int32.ofNat c0_))]) X0 hx hby own_d_cmp5_3_13 rfl rfl ?_
  refine OG.iload X0 hx hby own_d_cmp5_3_15 rfl rfl ?_
  refine OG.sipush (v := (255 : Int32)) X0 hx hby own_d_cmp5_3_17 (by decide) rfl ?_
  refine OG.icmpYes (pc' := 26) X0 hx hby own_d_cmp5_3_20 (flt (own_le255 hc0)).2.2.2 (by decide) (by decide) ?_
  refine OG.aloadN X0 hx hby own_d_cmp5_3_26 rfl rfl rfl ?_
  refine OG.iloadN X0 hx hby own_d_cmp5_3_27 rfl rfl ?_
  refine OG.iload X0 hx hby own_d_cmp5_3_28 rfl rfl ?_
  refine OG.i2b X0 hx hby own_d_cmp5_3_30 rfl ?_
  refine OG.yS X0 hx hZ hby e0 Y1 (i := 0) rfl (by simp) own_d_cmp5_3_31 rfl ?_
  intro T101 h101 X101 e101 W101 f102
  rw [own_narbb _] at f102
  have N103 := Fr.snoc X101 N0 g1
  refine OG.iinc (Ls' := #[.val (.ref c1), .val (.int (1 : Int32)), .val (.ref t1), .val (.int (0 : Int32)), .val (.int (3 : Int32)), .val (.int (0 : Int32)), .val (.int (Int32.ofNat c0_))]) X101 hx hby own_d_cmp5_3_32 rfl rfl rfl ?_
  refine OG.iinc (Ls' := #[.val (.ref c1), .val (.int (1 : Int32)), .val (.ref t1), .val (.int (1 : Int32)), .val (.int (3 : Int32)), .val (.int (0 : Int32)), .val (.int (Int32.ofNat c0_))]) X101 hx hby own_d_cmp5_3_35 rfl rfl rfl ?_
  refine OG.iinc (Ls' := #[.val (.ref c1), .val (.int (1 : Int32)), .val (.ref t1), .val (.int (1 : Int32)), .val (.int (3 : Int32)), .val (.int (1 : Int32)), .val (.int (Int32.ofNat c0_))]) X101 hx hby own_d_cmp5_3_38 rfl rfl rfl ?_
  refine OG.goto (pc' := 3) X101 hx hby own_d_cmp5_3_41 (by decide) (by decide) ?_
  refine OG.iload X101 hx hby own_d_cmp5_3_3 rfl rfl ?_
  refine OG.iload X101 hx hby own_d_cmp5_3_5 rfl rfl ?_
  refine OG.icmpNo X101 hx hby own_d_cmp5_3_7 (tlt (by decide)).2.1 rfl ?_
  refine OG.aloadN X101 hx hby own_d_cmp5_3_10 rfl rfl rfl ?_
  refine OG.iloadN X101 hx hby own_d_cmp5_3_11 rfl rfl ?_
  have f104 := (Arv.other V1 W101 hct)
  refine OG.lC X101 hx hZ hby e101 f104 (by decide) rfl own_d_cmp5_3_12 rfl ?_
  refine OG.istore (Ls' := #[.val (.ref c1), .val (.int (1 : Int32)), .val (.ref t1), .val (.int (1 : Int32)), .val (.int (3 : Int32)), .val (.int (1 : Int32)), .val (.int (Int32.ofNat c1_))]) X101 hx hby own_d_cmp5_3_13 rfl rfl ?_
  refine OG.iload X101 hx hby own_d_cmp5_3_15 rfl rfl ?_
  refine OG.sipush (v := (255 : Int32)) X101 hx hby own_d_cmp5_3_17 (by decide) rfl ?_
  refine OG.icmpYes (pc' := 26) X101 hx hby own_d_cmp5_3_20 (flt (own_le255 hc1)).2.2.2 (by decide) (by decide) ?_
  refine OG.aloadN X101 hx hby own_d_cmp5_3_26 rfl rfl rfl ?_
  refine OG.iloadN X101 hx hby own_d_cmp5_3_27 rfl rfl ?_
  refine OG.iload X101 hx hby own_d_cmp5_3_28 rfl rfl ?_
  refine OG.i2b X101 hx hby own_d_cmp5_3_30 rfl ?_
  refine OG.yS X101 hx hZ hby e101 f102 (i := 1) rfl (by simp) own_d_cmp5_3_31 rfl ?_
  intro T105 h105 X105 e105 W105 f106
  rw [own_narbb _] at f106
  have N107 := Fr.snoc X105 N103 g1
  refine OG.iinc (Ls' := #[.val (.ref c1), .val (.int (2 : Int32)), .val (.ref t1), .val (.int (1 : Int32)), .val (.int (3 : Int32)), .val (.int (1 : Int32)), .val (.int (Int32.ofNat c1_))]) X105 hx hby own_d_cmp5_3_32 rfl rfl rfl ?_
  refine OG.iinc (Ls' := #[.val (.ref c1), .val (.int (2 : Int32)), .val (.ref t1), .val (.int (2 : Int32)), .val (.int (3 : Int32)), .val (.int (1 : Int32)), .val (.int (Int32.ofNat c1_))]) X105 hx hby own_d_cmp5_3_35 rfl rfl rfl ?_
  refine OG.iinc (Ls' := #[.val (.ref c1), .val (.int (2 : Int32)), .val (.ref t1), .val (.int (2 : Int32)), .val (.int (3 : Int32)), .val (.int (2 : Int32)), .val (.int (Int32.ofNat c1_))]) X105 hx hby own_d_cmp5_3_38 rfl rfl rfl ?_
  refine OG.goto (pc' := 3) X105 hx hby own_d_cmp5_3_41 (by decide) (by decide) ?_
  refine OG.iload X105 hx hby own_d_cmp5_3_3 rfl rfl ?_
  refine OG.iload X105 hx hby own_d_cmp5_3_5 rfl rfl ?_
  refine OG.icmpNo X105 hx hby own_d_cmp5_3_7 (tlt (by decide)).2.1 rfl ?_
  refine OG.aloadN X105 hx hby own_d_cmp5_3_10 rfl rfl rfl ?_
  refine OG.iloadN X105 hx hby own_d_cmp5_3_11 rfl rfl ?_
  have f108 := (Arv.other f104 W105 hct)
  refine OG.lC X105 hx hZ hby e105 f108 (by decide) rfl own_d_cmp5_3_12 rfl ?_
  refine OG.istore (Ls' := #[.val (.ref c1), .val (.int (2 : Int32)), .val (.ref t1), .val (.int (2 : Int32)), .val (.int (3 : Int32)), .val (.int (2 : Int32)), .val (.int (Int32.ofNat c2_))]) X105 hx hby own_d_cmp5_3_13 rfl rfl ?_
  refine OG.iload X105 hx hby own_d_cmp5_3_15 rfl rfl ?_
  refine OG.sipush (v := (255 : Int32)) X105 hx hby own_d_cmp5_3_17 (by decide) rfl ?_
  refine OG.icmpYes (pc' := 26) X105 hx hby own_d_cmp5_3_20 (flt (own_le255 hc2)).2.2.2 (by decide) (by decide) ?_
  refine OG.aloadN X105 hx hby own_d_cmp5_3_26 rfl rfl rfl ?_
  refine OG.iloadN X105 hx hby own_d_cmp5_3_27 rfl rfl ?_
  refine OG.iload X105 hx hby own_d_cmp5_3_28 rfl rfl ?_
  refine OG.i2b X105 hx hby own_d_cmp5_3_30 rfl ?_
  refine OG.yS X105 hx hZ hby e105 f106 (i := 2) rfl (by simp) own_d_cmp5_3_31 rfl ?_
  intro T109 h109 X109 e109 W109 f110
  rw [own_narbb _] at f110
  have N111 := Fr.snoc X109 N107 g1
  refine OG.iinc (Ls' := #[.val (.ref c1), .val (.int (3 : Int32)), .val (.ref t1), .val (.int (2 : Int32)), .val (.int (3 : Int32)), .val (.int (2 : Int32)), .val (.int (Int32.ofNat c2_))]) X109 hx hby own_d_cmp5_3_32 rfl rfl rfl ?_
  refine OG.iinc (Ls' := #[.val (.ref c1), .val (.int (3 : Int32)), .val (.ref t1), .val (.int (3 : Int32)), .val (.int (3 : Int32)), .val (.int (2 : Int32)), .val (.int (Int32.ofNat c2_))]) X109 hx hby own_d_cmp5_3_35 rfl rfl rfl ?_
  refine OG.iinc (Ls' := #[.val (.ref c1), .val (.int (3 : Int32)), .val (.ref t1), .val (.int (3 : Int32)), .val (.int (3 : Int32)), .val (.int (3 : Int32)), .val (.int (Int32.ofNat c2_))]) X109 hx hby own_d_cmp5_3_38 rfl rfl rfl ?_
  refine OG.goto (pc' := 3) X109 hx hby own_d_cmp5_3_41 (by decide) (by decide) ?_
  refine OG.iload X109 hx hby own_d_cmp5_3_3 rfl rfl ?_
  refine OG.iload X109 hx hby own_d_cmp5_3_5 rfl rfl ?_
  refine OG.icmpYes (pc' := 44) X109 hx hby own_d_cmp5_3_7 (flt (by decide)).2.1 (by decide) (by decide) ?_
  refine OG.iload X109 hx hby own_d_cmp5_3_44 rfl rfl ?_
  refine OG.retI X109 hx hby Bd.returns own_d_cmp5_3_46 Bd.notSynchronized (by decide) (by decide) ?_
  rw [e109]
  exact ⟨rfl, N111, (Keep.wr (Keep.wr (Keep.wr (Keep.refl h0 [t1]) W101 (Or.inl (by simp))) W105 (Or.inl (by simp))) W109 (Or.inl (by simp))), f110⟩
theorem own_d_cmp3_3_0 : decode jdk_52_method_16_code 0 = .ok (.iload_n 2, 1) := by decide +kernel
theorem own_d_cmp3_3_1 : decode jdk_52_method_16_code 1 = .ok (.newarray .byte, 2) := by decide +kernel
theorem own_d_cmp3_3_3 : decode jdk_52_method_16_code 3 = .ok (.astore_n 3, 1) := by decide +kernel
theorem own_d_cmp3_3_4 : decode jdk_52_method_16_code 4 = .ok (.aload_n 0, 1) := by decide +kernel
theorem own_d_cmp3_3_5 : decode jdk_52_method_16_code 5 = .ok (.iload_n 1, 1) := by decide +kernel
theorem own_d_cmp3_3_6 : decode jdk_52_method_16_code 6 = .ok (.aload_n 3, 1) := by decide +kernel
theorem own_d_cmp3_3_7 : decode jdk_52_method_16_code 7 = .ok (.iconst 0, 1) := by decide +kernel
theorem own_d_cmp3_3_8 : decode jdk_52_method_16_code 8 = .ok (.iload_n 2, 1) := by decide +kernel
theorem own_d_cmp3_3_9 : decode jdk_52_method_16_code 9 = .ok (.invokestatic 115, 3) := by decide +kernel
theorem own_d_cmp3_3_12 : decode jdk_52_method_16_code 12 = .ok (.istore 4, 2) := by decide +kernel
theorem own_d_cmp3_3_14 : decode jdk_52_method_16_code 14 = .ok (.iload 4, 2) := by decide +kernel
theorem own_d_cmp3_3_16 : decode jdk_52_method_16_code 16 = .ok (.iload_n 2, 1) := by decide +kernel
theorem own_d_cmp3_3_17 : decode jdk_52_method_16_code 17 = .ok (.if_icmp .eq 40, 3) := by decide +kernel
theorem own_d_cmp3_3_57 : decode jdk_52_method_16_code 57 = .ok (.aload_n 3, 1) := by decide +kernel
theorem own_d_cmp3_3_58 : decode jdk_52_method_16_code 58 = .ok (.areturn, 1) := by decide +kernel
theorem own_pn_cmp3_3 : plainName "java/lang/StringUTF16" = true := by first | (simp [plainName, overriddenIn]; done) | decide +kernel
theorem own_ef_cmp3_3 (m : MethodId) (x0 : Addr) (x1 : Int32) (x2 : Int32)  : entryFrame m #[(.ref x0), (.int x1), (.int x2)] 6 = mkF m 0 #[.val (.ref x0), .val (.int x1), .val (.int x2), .unset, .unset, .unset] [] := by first | (simp [entryFrame, mkF, argsToLocals, Value.category]; done) | rfl
def own_Q_cmp3_3 (Z : State) (c1 : Addr) (kc : ClassId) (c0_ : Nat) (c1_ : Nat) (c2_ : Nat) (h0 : Heap) (n0 : Nat) (v : Option Value) (h : Heap) (L : List Loc) : Prop := ∃ t, v = some (.ref t) ∧ Fr n0 L ∧ Keep h0 h [] ∧ OG.BA Z h t [(Int32.ofNat c0_).toInt8.toInt32, (Int32.ofNat c1_).toInt8.toInt32, (Int32.ofNat c2_).toInt8.toInt32] ∧ Exa Z h t "[B" ∧ h0.size ≤ t
set_option maxRecDepth 65536 in
set_option maxHeartbeats 40000000 in
theorem own_rm_cmp3_3 (l : Launch) (Z : State) (a0 : Array Value) (hw : ∀ d ∈ tables_1, d.before a0 Z = true) (ws : List Jvm.Cond) (c1 : Addr) (kc : ClassId) (c0_ : Nat) (c1_ : Nat) (c2_ : Nat) (h0 : Heap) (n0 : Nat) (Z0 : n0 ≤ h0.size) (V1 : Arv Z h0 c1 kc .char (3 : Int32) [(.int (Int32.ofNat c0_)), (.int (Int32.ofNat c1_)), (.int (Int32.ofNat c2_))] (.int (0 : Int32))) (hc0 : c0_ < 256) (hc1 : c1_ < 256) (hc2 : c2_ < 256) :
    MetFree l (⟨"java/lang/StringUTF16", "compress", "([CII)[B"⟩ : MethodName) (head1 (Jvm.Cond.code (⟨"java/lang/StringUTF16", "compress", "([CII)[B"⟩ : MethodName) jdk_52_method_16_code 6 (some (.array .byte)) :: ws) ({ frames := 1, cells := 1, slots := 3, locals := 18 } : Room)) (fun a U => a = #[(.ref c1), (.int (0 : Int32)), (.int (3 : Int32))] ∧ Z.Warmed39 U.vm ∧ U.heap = h0) (fun _ _ _ _ _ => True) (fun _ U o U' => ∃ v L, o = .returned v ∧ own_Q_cmp3_3 Z c1 kc c0_ c1_ c2_ h0 n0 v U'.heap L ∧ FrameEnd U o U' L ({ frames := 1, cells := 1, slots := 3, locals := 18 } : Room).cells ({ frames := 1, cells := 1, slots := 3, locals := 18 } : Room).slots) := by
  refine MetFree.of_bodySF (plainFor_of_name own_pn_cmp3_3) hisR ?_
  intro p e s m args below meth c s₁ Bd hml0 hP hK
  obtain ⟨rfl, hZ, hh⟩ := hP
  have hx := Bd.exec
  have hby := Bd.bytes
  have hml : c.maxLocals = 6 := hml0
  have hown : s.vm.findClass "java/lang/StringUTF16" = some m.cls := findClass_of_methodNamed Bd.named
  have hnm := (name_of_methodNamed Bd.named Bd.method).1
  have X0 : Stand p l e ({ frames := 1, cells := 1, slots := 3, locals := 18 } : Room) s m #[(.ref c1), (.int (0 : Int32)), (.int (3 : Int32))] below meth c s₁ [] 0 0 := Stand.of_body Bd
  have e0 : s₁.heap = h0 := by rw [← hh, Bd.state]; rfl
  have N0 := Fr.nil n0
  show OG.Go p.tables e below (OG.GP (own_Q_cmp3_3 Z c1 kc c0_ c1_ c2_ h0 n0) ({ frames := 1, cells := 1, slots := 3, locals := 18 } : Room).cells ({ frames := 1, cells := 1, slots := 3, locals := 18 } : Room).slots s) (s₁.setTop (entryFrame m #[(.ref c1), (.int (0 : Int32)), (.int (3 : Int32))] 6))
  refine OG.Go.cast (own_ef_cmp3_3 m c1 (0 : Int32) (3 : Int32)) ?_
  refine OG.iloadN X0 hx hby own_d_cmp3_3_0 rfl rfl ?_
  refine OG.yN X0 hx hZ hby (hw _ (List.mem_of_getElem? (i := 18) rfl)) e0 (N := 3) (cap := 3) rfl (by decide) (by decide) (by decide) (by decide) own_d_cmp3_3_1 rfl ?_
  intro T101 h101 b101 g101 X101 e101 E101 Y101 A101
  have ne102 : c1 ≠ b101 := Nat.ne_of_lt (Nat.lt_of_lt_of_le (Arv.lt V1) (Nat.le_of_eq g101.symm))
  have gn103 : n0 ≤ b101 := Nat.le_trans Z0 (Nat.le_of_eq g101.symm)
  have sz104 : h0.size ≤ b101 := Nat.le_trans (Nat.le_refl _) (Nat.le_of_eq g101.symm)
  refine OG.astoreN (Ls' := #[.val (.ref c1), .val (.int (0 : Int32)), .val (.int (3 : Int32)), .val (.ref b101), .unset, .unset]) X101 hx hby own_d_cmp3_3_3 rfl rfl rfl ?_
  refine OG.aloadN X101 hx hby own_d_cmp3_3_4 rfl rfl rfl ?_
  refine OG.iloadN X101 hx hby own_d_cmp3_3_5 rfl rfl ?_
  refine OG.aloadN X101 hx hby own_d_cmp3_3_6 rfl rfl rfl ?_
  refine OG.iconst (v := (0 : Int32)) X101 hx hby own_d_cmp3_3_7 (by decide) rfl ?_
  refine OG.iloadN X101 hx hby own_d_cmp3_3_8 rfl rfl ?_
  have f106 := (V1.ext E101)
  refine OG.cS X101 hx hZ hby (by rw [hml]; rfl) hown (y := (⟨"java/lang/StringUTF16", "compress", "([CI[BII)I"⟩ : MethodName)) (hw _ (List.mem_of_getElem? (i := 229) rfl)) (hw _ (List.mem_of_getElem? (i := 230) rfl)) (hw _ (List.mem_of_getElem? (i := 231) rfl)) (hw _ (List.mem_of_getElem? (i := 227) rfl)) (by decide) (own_rm_cmp5_3 l Z a0 hw [] c1 kc c0_ c1_ c2_ b101 h101 n0 (Nat.le_trans Z0 E101.1) f106 Y101 gn103 ne102 hc0 hc1 hc2) e101 (argsL := [(.ref c1), (.int (0 : Int32)), (.ref b101), (.int (0 : Int32)), (.int (3 : Int32))]) (stk := [(.int (3 : Int32)), (.int (0 : Int32)), (.ref b101), (.int (0 : Int32)), (.ref c1)]) (st := []) own_pd_17 rfl rfl rfl (W := 0) rfl (by decide) (by decide) (by decide) (by decide) own_d_cmp3_3_9 rfl ?_
  intro T105 L105 v105 X105 q105
  obtain ⟨rfl, N105, K105, Y105⟩ := q105
  have M105 := Fr.app N0 N105
  show OG.Go _ _ _ _ (T105.setTop (mkF m 12 #[.val (.ref c1), .val (.int (0 : Int32)), .val (.int (3 : Int32)), .val (.ref b101), .unset, .unset] [(.int (3 : Int32))]))
  refine OG.istore (Ls' := #[.val (.ref c1), .val (.int (0 : Int32)), .val (.int (3 : Int32)), .val (.ref b101), .val (.int (3 : Int32)), .unset]) X105 hx hby own_d_cmp3_3_12 rfl rfl ?_
  refine OG.iload X105 hx hby own_d_cmp3_3_14 rfl rfl ?_
  refine OG.iloadN X105 hx hby own_d_cmp3_3_16 rfl rfl ?_
  refine OG.icmpYes (pc' := 57) X105 hx hby own_d_cmp3_3_17 (teq (by decide)).1 (by decide) (by decide) ?_
  refine OG.aloadN X105 hx hby own_d_cmp3_3_57 rfl rfl rfl ?_
  refine OG.retA X105 hx hby Bd.returns rfl rfl rfl own_d_cmp3_3_58 Bd.notSynchronized (by decide) (by decide) ?_
  have f107 := (Exa.keep A101 K105)
  exact ⟨b101, rfl, M105, (Keep.trans (Keep.ext (Keep.refl h0 []) E101) K105 (allS (Or.inr sz104) all0)), Y105, f107, sz104⟩
theorem own_d_s_initc3_0 : decode jdk_42_method_149_code 0 = .ok (.aload_n 0, 1) := by decide +kernel
theorem own_d_s_initc3_1 : decode jdk_42_method_149_code 1 = .ok (.invokespecial 1, 3) := by decide +kernel
theorem own_d_s_initc3_4 : decode jdk_42_method_149_code 4 = .ok (.iload_n 3, 1) := by decide +kernel
theorem own_d_s_initc3_5 : decode jdk_42_method_149_code 5 = .ok (.ifCond .ne 22, 3) := by decide +kernel
theorem own_d_s_initc3_27 : decode jdk_42_method_149_code 27 = .ok (.getstatic 38, 3) := by decide +kernel
theorem own_d_s_initc3_30 : decode jdk_42_method_149_code 30 = .ok (.ifCond .eq 28, 3) := by decide +kernel
theorem own_d_s_initc3_33 : decode jdk_42_method_149_code 33 = .ok (.aload_n 1, 1) := by decide +kernel
theorem own_d_s_initc3_34 : decode jdk_42_method_149_code 34 = .ok (.iload_n 2, 1) := by decide +kernel
theorem own_d_s_initc3_35 : decode jdk_42_method_149_code 35 = .ok (.iload_n 3, 1) := by decide +kernel
theorem own_d_s_initc3_36 : decode jdk_42_method_149_code 36 = .ok (.invokestatic 177, 3) := by decide +kernel
theorem own_d_s_initc3_39 : decode jdk_42_method_149_code 39 = .ok (.astore 5, 2) := by decide +kernel
theorem own_d_s_initc3_41 : decode jdk_42_method_149_code 41 = .ok (.aload_n 0, 1) := by decide +kernel
theorem own_d_s_initc3_42 : decode jdk_42_method_149_code 42 = .ok (.aload 5, 2) := by decide +kernel
theorem own_d_s_initc3_44 : decode jdk_42_method_149_code 44 = .ok (.iload_n 3, 1) := by decide +kernel
theorem own_d_s_initc3_45 : decode jdk_42_method_149_code 45 = .ok (.invokestatic 47, 3) := by decide +kernel
theorem own_d_s_initc3_48 : decode jdk_42_method_149_code 48 = .ok (.putfield 15, 3) := by decide +kernel
theorem own_d_s_initc3_51 : decode jdk_42_method_149_code 51 = .ok (.aload_n 0, 1) := by decide +kernel
theorem own_d_s_initc3_52 : decode jdk_42_method_149_code 52 = .ok (.aload 5, 2) := by decide +kernel
theorem own_d_s_initc3_54 : decode jdk_42_method_149_code 54 = .ok (.putfield 9, 3) := by decide +kernel
theorem own_d_s_initc3_57 : decode jdk_42_method_149_code 57 = .ok (.return_, 1) := by decide +kernel
theorem own_pn_s_initc3 : plainName "java/lang/String" = true := by first | (simp [plainName, overriddenIn]; done) | decide +kernel
theorem own_ef_s_initc3 (m : MethodId) (x0 : Addr) (x1 : Addr) (x2 : Int32) (x3 : Int32)  : entryFrame m #[(.ref x0), (.ref x1), (.int x2), (.int x3), .null] 6 = mkF m 0 #[.val (.ref x0), .val (.ref x1), .val (.int x2), .val (.int x3), .val .null, .unset] [] := by first | (simp [entryFrame, mkF, argsToLocals, Value.category]; done) | rfl
def own_Q_s_initc3 (Z : State) (a0_ : Addr) (zc : Int32) (c1 : Addr) (kc : ClassId) (c0_ : Nat) (c1_ : Nat) (c2_ : Nat) (h0 : Heap) (n0 : Nat) (v : Option Value) (h : Heap) (L : List Loc) : Prop := ∃ t bs, v = none ∧ Fr n0 L ∧ Keep h0 h [a0_] ∧ (Exa Z h a0_ "java/lang/String") ∧ (Fld Z h a0_ "java/lang/String" "coder" "B" (.int (0 : Int32))) ∧ (Fld Z h a0_ "java/lang/String" "value" "[B" (.ref t)) ∧ (OG.BA Z h t bs) ∧ bs.length = 3
set_option maxRecDepth 65536 in
set_option maxHeartbeats 40000000 in
theorem own_rm_s_initc3 (l : Launch) (Z : State) (a0 : Array Value) (hw : ∀ d ∈ tables_1, d.before a0 Z = true) (ws : List Jvm.Cond) (a0_ : Addr) (zc : Int32) (c1 : Addr) (kc : ClassId) (c0_ : Nat) (c1_ : Nat) (c2_ : Nat) (h0 : Heap) (n0 : Nat) (Z0 : n0 ≤ h0.size) (O1 : Old Z n0 h0) (S_cs : Sta Z Z.heap "java/lang/String" "COMPACT_STRINGS" "Z" (.int zc)) (hzc : ¬ zc = (0 : Int32)) (E0 : Exa Z h0 a0_ "java/lang/String") (Fc0 : Fld Z h0 a0_ "java/lang/String" "coder" "B" (.int (0 : Int32))) (Fv0 : Fld Z h0 a0_ "java/lang/String" "value" "[B" .null) (g0 : n0 ≤ a0_) (V1 : Arv Z h0 c1 kc .char (3 : Int32) [(.int (Int32.ofNat c0_)), (.int (Int32.ofNat c1_)), (.int (Int32.ofNat c2_))] (.int (0 : Int32))) (hc0 : c0_ < 256) (hc1 : c1_ < 256) (hc2 : c2_ < 256) :
    MetFree l (⟨"java/lang/String", "<init>", "([CIILjava/lang/Void;)V"⟩ : MethodName) (head1 (Jvm.Cond.code (⟨"java/lang/String", "<init>", "([CIILjava/lang/Void;)V"⟩ : MethodName) jdk_42_method_149_code 6 none :: ws) ({ frames := 2, cells := 1, slots := 3, locals := 35 } : Room)) (fun a U => a = #[(.ref a0_), (.ref c1), (.int (0 : Int32)), (.int (3 : Int32)), .null] ∧ Z.Warmed39 U.vm ∧ U.heap = h0 ∧ CHv Z own_EL U.vm h0) (fun _ _ _ _ _ => True) (fun _ U o U' => ∃ v L, o = .returned v ∧ own_Q_s_initc3 Z a0_ zc c1 kc c0_ c1_ c2_ h0 n0 v U'.heap L ∧ CHr Z own_EL U.vm U.heap U'.vm U'.heap ∧ ReturnedEndW U o U' L ({ frames := 2, cells := 1, slots := 3, locals := 35 } : Room).cells ({ frames := 2, cells := 1, slots := 3, locals := 35 } : Room).slots) := by
  refine MetFree.of_bodySF (plainFor_of_name own_pn_s_initc3) hisR ?_
  intro p e s m args below meth c s₁ Bd hml0 hP hK
  obtain ⟨rfl, hZ, hh, hCH⟩ := hP
  have hx := Bd.exec
  have hby := Bd.bytes
  have hml : c.maxLocals = 6 := hml0
  have hown : s.vm.findClass "java/lang/String" = some m.cls := findClass_of_methodNamed Bd.named
  have hnm := (name_of_methodNamed Bd.named Bd.method).1
  have X0 : Stand p l e ({ frames := 2, cells := 1, slots := 3, locals := 35 } : Room) (s.setVm s.vm) m #[(.ref a0_), (.ref c1), (.int (0 : Int32)), (.int (3 : Int32)), .null] below meth c s₁ [] 0 0 := Stand.of_body Bd
  have e0 : s₁.heap = h0 := by rw [← hh, Bd.state]; rfl
  have N0 := Fr.nil n0
  have CH0 : CHr Z own_EL s.vm s.heap s.vm h0 := by rw [hh]; exact CHr.refl hCH
  have hS0 : s.Since s.vm h0.size := (State.WarmedH.refl s).since _
  show OG.Go p.tables e below (OG.GH Z own_EL (own_Q_s_initc3 Z a0_ zc c1 kc c0_ c1_ c2_ h0 n0) ({ frames := 2, cells := 1, slots := 3, locals := 35 } : Room).cells ({ frames := 2, cells := 1, slots := 3, locals := 35 } : Room).slots s) (s₁.setTop (entryFrame m #[(.ref a0_), (.ref c1), (.int (0 : Int32)), (.int (3 : Int32)), .null] 6))
  refine OG.Go.cast (own_ef_s_initc3 m a0_ c1 (0 : Int32) (3 : Int32)) ?_
  refine OG.aloadN X0 hx hby own_d_s_initc3_0 rfl rfl rfl ?_
  refine OG.iO X0 hx hZ hby hown (by rw [hml]; rfl) (hw _ (List.mem_of_getElem? (i := 23) rfl)) (hw _ (List.mem_of_getElem? (i := 24) rfl)) (hw _ (List.mem_of_getElem? (i := 25) rfl)) e0 (W := 0) rfl (by decide) (by decide) own_d_s_initc3_1 rfl ?_
  intro T101 X101 e101
  refine OG.iloadN X101 hx hby own_d_s_initc3_4 rfl rfl ?_
  refine OG.ifYes (pc' := 27) X101 hx hby own_d_s_initc3_5 (feq (by decide)).2 (by decide) (by decide) ?_
  have f103 := Sta.ext O1.2 S_cs
  refine OG.gS X101 hx hZ hby hown (hw _ (List.mem_of_getElem? (i := 8) rfl)) Via.refl e101 f103 own_d_s_initc3_27 rfl ?_
  intro T102 X102 e102
  refine OG.ifNo X102 hx hby own_d_s_initc3_30 (feq hzc).1 rfl ?_
  refine OG.aloadN X102 hx hby own_d_s_initc3_33 rfl rfl rfl ?_
  refine OG.iloadN X102 hx hby own_d_s_initc3_34 rfl rfl ?_
  refine OG.iloadN X102 hx hby own_d_s_initc3_35 rfl rfl ?_
  refine OG.cS X102 hx hZ hby (by rw [hml]; rfl) hown (y := (⟨"java/lang/StringUTF16", "compress", "([CII)[B"⟩ : MethodName)) (hw _ (List.mem_of_getElem? (i := 225) rfl)) (hw _ (List.mem_of_getElem? (i := 226) rfl)) (hw _ (List.mem_of_getElem? (i := 228) rfl)) (hw _ (List.mem_of_getElem? (i := 227) rfl)) (by decide) (own_rm_cmp3_3 l Z a0 hw [] c1 kc c0_ c1_ c2_ h0 n0 Z0 V1 hc0 hc1 hc2) e102 (argsL := [(.ref c1), (.int (0 : Int32)), (.int (3 : Int32))]) (stk := [(.int (3 : Int32)), (.int (0 : Int32)), (.ref c1)]) (st := []) own_pd_18 rfl rfl rfl (W := 0) rfl (by decide) (by decide) (by decide) (by decide) own_d_s_initc3_36 rfl ?_
  intro T104 L104 v104 X104 q104
  obtain ⟨ta104, rfl, N104, K104, Y104, E104, sz104⟩ := q104
  have ne105 : c1 ≠ ta104 := Nat.ne_of_lt (Nat.lt_of_lt_of_le (Arv.lt V1) sz104)
  have ne106 : a0_ ≠ ta104 := Nat.ne_of_lt (Nat.lt_of_lt_of_le (Exa.lt E0) sz104)
  have gn107 : n0 ≤ ta104 := Nat.le_trans Z0 sz104
  have sz108 : h0.size ≤ ta104 := Nat.le_trans (Nat.le_refl _) sz104
  have sf109 : Safe Z own_EL s.vm h0 ta104 := Safe.new sz104
  have CH110 := CHr.trans CH0 (CHr.keep K104 sf0 CH0.1)
  have M104 := Fr.app N0 N104
  show OG.Go _ _ _ _ (T104.setTop (mkF m 39 #[.val (.ref a0_), .val (.ref c1), .val (.int (0 : Int32)), .val (.int (3 : Int32)), .val .null, .unset] [(.ref ta104)]))
  refine OG.astore (Ls' := #[.val (.ref a0_), .val (.ref c1), .val (.int (0 : Int32)), .val (.int (3 : Int32)), .val .null, .val (.ref ta104)]) X104 hx hby own_d_s_initc3_39 rfl rfl rfl ?_
  refine OG.aloadN X104 hx hby own_d_s_initc3_41 rfl rfl rfl ?_
  refine OG.aload X104 hx hby own_d_s_initc3_42 rfl rfl rfl ?_
  refine OG.iloadN X104 hx hby own_d_s_initc3_44 rfl rfl ?_
  refine OG.cS X104 hx hZ hby (by rw [hml]; rfl) hown (y := (⟨"java/lang/StringUTF16", "coderFromArrayLen", "([BI)B"⟩ : MethodName)) (hw _ (List.mem_of_getElem? (i := 232) rfl)) (hw _ (List.mem_of_getElem? (i := 233) rfl)) (hw _ (List.mem_of_getElem? (i := 234) rfl)) (hw _ (List.mem_of_getElem? (i := 227) rfl)) (by decide) (own_rm_cfal l Z a0 hw [] ta104 [(Int32.ofNat c0_).toInt8.toInt32, (Int32.ofNat c1_).toInt8.toInt32, (Int32.ofNat c2_).toInt8.toInt32] 3 T104.heap n0 (Nat.le_trans Z0 K104.1) Y104 rfl) rfl (argsL := [(.ref ta104), (.int (3 : Int32))]) (stk := [(.int (3 : Int32)), (.ref ta104), (.ref a0_)]) (st := [(.ref a0_)]) own_pd_19 rfl rfl rfl (W := 1) rfl (by decide) (by decide) (by decide) (by decide) own_d_s_initc3_45 rfl ?_
  intro T111 L111 v111 X111 q111
  obtain ⟨rfl, N111, e111⟩ := q111
  have M111 := Fr.app M104 N111
  show OG.Go _ _ _ _ (T111.setTop (mkF m 48 #[.val (.ref a0_), .val (.ref c1), .val (.int (0 : Int32)), .val (.int (3 : Int32)), .val .null, .val (.ref ta104)] [(.int (0 : Int32)), (.ref a0_)]))
  have f112 := (Fld.keep Fc0 K104 nin0)
  have f113 := (Exa.keep E0 K104)
  refine OG.pFN (v' := (.int (0 : Int32))) X111 hx hZ hby hown (hw _ (List.mem_of_getElem? (i := 28) rfl)) Via.refl e111 f112 f113 (Or.inr ⟨(hw _ (List.mem_of_getElem? (i := 29) rfl)), rfl, hnm⟩) (hw _ (List.mem_of_getElem? (i := 14) rfl)) (ty := .byte) (by decide) rfl rfl own_d_s_initc3_48 rfl ?_
  intro T114 h114 X114 e114 W114
  have f115 := Fld.same W114 f112
  have N116 := Fr.snoc X114 M111 g0
  have f117 := (Fld.keep Fv0 K104 nin0)
  have sf118 : Safe Z own_EL s.vm T104.heap a0_ := OG.Safe.null (show Z.vm.Alike s.vm from hZ.alike) f113 f117
  have CH119 := CHr.trans CH110 (CHr.wr W114 sf118 CH110.1)
  refine OG.aloadN X114 hx hby own_d_s_initc3_51 rfl rfl rfl ?_
  refine OG.aload X114 hx hby own_d_s_initc3_52 rfl rfl rfl ?_
  have f120 := (Fld.other W114 f117 (Or.inr (slot_ne (Or.inr (hw _ (List.mem_of_getElem? (i := 27) rfl))) (Or.inr (hw _ (List.mem_of_getElem? (i := 29) rfl))) (by decide) (t := (.array .byte)) (t' := .byte) (by decide) (by decide))))
  have f121 := (Exa.wr W114 f113)
  refine OG.pF X114 hx hZ hby hown (hw _ (List.mem_of_getElem? (i := 26) rfl)) Via.refl e114 f120 f121 (Or.inr ⟨(hw _ (List.mem_of_getElem? (i := 27) rfl)), rfl, hnm⟩) (hw _ (List.mem_of_getElem? (i := 14) rfl)) (ty := (.array .byte)) (by decide) rfl rfl own_d_s_initc3_54 rfl ?_
  intro T122 h122 X122 e122 W122
  have f123 := Fld.same W122 f120
  have N124 := Fr.snoc X122 N116 g0
  have f125 := (Safe.wr W114 sf118 CH110.1 sf118)
  have CH126 := CHr.trans CH119 (CHr.wr W122 f125 CH119.1)
  refine OG.retVH X122 hx hZ hby (own_hEL hw) hS0 (by rw [e122]; exact (Nat.le_trans (Nat.le_trans (Nat.le_trans (Nat.le_refl _) K104.1) (Nat.le_of_eq (Wr.size W114).symm)) (Nat.le_of_eq (Wr.size W122).symm))) (by rw [e122]; exact CH126) Bd.returns own_d_s_initc3_57 Bd.notSynchronized (by decide) (by decide) ?_
  have f127 := (Exa.wr W122 f121)
  have f128 := (Fld.other W122 f115 (Or.inr (slot_ne (Or.inr (hw _ (List.mem_of_getElem? (i := 29) rfl))) (Or.inr (hw _ (List.mem_of_getElem? (i := 27) rfl))) (by decide) (t := .byte) (t' := (.array .byte)) (by decide) (by decide))))
  have f129 := (OG.BA.other (OG.BA.other Y104 W114 (Ne.symm ne106)) W122 (Ne.symm ne106))
  rw [e122]
  exact ⟨ta104, _, rfl, N124, (Keep.wr (Keep.wr (Keep.trans (Keep.refl h0 [a0_]) K104 all0) W114 (Or.inl (by simp))) W122 (Or.inl (by simp))), f127, f128, f123, f129, rfl⟩
theorem own_d_s_inits3_0 : decode jdk_42_method_3_code 0 = .ok (.aload_n 0, 1) := by decide +kernel
theorem own_d_s_inits3_1 : decode jdk_42_method_3_code 1 = .ok (.aload_n 1, 1) := by decide +kernel
theorem own_d_s_inits3_2 : decode jdk_42_method_3_code 2 = .ok (.iconst 0, 1) := by decide +kernel
theorem own_d_s_inits3_3 : decode jdk_42_method_3_code 3 = .ok (.aload_n 1, 1) := by decide +kernel
theorem own_d_s_inits3_4 : decode jdk_42_method_3_code 4 = .ok (.arraylength, 1) := by decide +kernel
theorem own_d_s_inits3_5 : decode jdk_42_method_3_code 5 = .ok (.aconst_null, 1) := by decide +kernel
theorem own_d_s_inits3_6 : decode jdk_42_method_3_code 6 = .ok (.invokespecial 27, 3) := by decide +kernel
theorem own_d_s_inits3_9 : decode jdk_42_method_3_code 9 = .ok (.return_, 1) := by decide +kernel
theorem own_pn_s_inits3 : plainName "java/lang/String" = true := by first | (simp [plainName, overriddenIn]; done) | decide +kernel
theorem own_ef_s_inits3 (m : MethodId) (x0 : Addr) (x1 : Addr)  : entryFrame m #[(.ref x0), (.ref x1)] 2 = mkF m 0 #[.val (.ref x0), .val (.ref x1)] [] := by first | (simp [entryFrame, mkF, argsToLocals, Value.category]; done) | rfl
def own_Q_s_inits3 (Z : State) (a0_ : Addr) (zc : Int32) (c1 : Addr) (kc : ClassId) (c0_ : Nat) (c1_ : Nat) (c2_ : Nat) (h0 : Heap) (n0 : Nat) (v : Option Value) (h : Heap) (L : List Loc) : Prop := ∃ t bs, v = none ∧ Fr n0 L ∧ Keep h0 h [a0_] ∧ (Exa Z h a0_ "java/lang/String") ∧ (Fld Z h a0_ "java/lang/String" "coder" "B" (.int (0 : Int32))) ∧ (Fld Z h a0_ "java/lang/String" "value" "[B" (.ref t)) ∧ (OG.BA Z h t bs) ∧ bs.length = 3
set_option maxRecDepth 65536 in
set_option maxHeartbeats 40000000 in
theorem own_rm_s_inits3 (l : Launch) (Z : State) (a0 : Array Value) (hw : ∀ d ∈ tables_1, d.before a0 Z = true) (ws : List Jvm.Cond) (a0_ : Addr) (zc : Int32) (c1 : Addr) (kc : ClassId) (c0_ : Nat) (c1_ : Nat) (c2_ : Nat) (h0 : Heap) (n0 : Nat) (Z0 : n0 ≤ h0.size) (O1 : Old Z n0 h0) (S_cs : Sta Z Z.heap "java/lang/String" "COMPACT_STRINGS" "Z" (.int zc)) (hzc : ¬ zc = (0 : Int32)) (E0 : Exa Z h0 a0_ "java/lang/String") (Fc0 : Fld Z h0 a0_ "java/lang/String" "coder" "B" (.int (0 : Int32))) (Fv0 : Fld Z h0 a0_ "java/lang/String" "value" "[B" .null) (g0 : n0 ≤ a0_) (V1 : Arv Z h0 c1 kc .char (3 : Int32) [(.int (Int32.ofNat c0_)), (.int (Int32.ofNat c1_)), (.int (Int32.ofNat c2_))] (.int (0 : Int32))) (hc0 : c0_ < 256) (hc1 : c1_ < 256) (hc2 : c2_ < 256) :
    MetFree l (⟨"java/lang/String", "<init>", "([C)V"⟩ : MethodName) (head1 (Jvm.Cond.code (⟨"java/lang/String", "<init>", "([C)V"⟩ : MethodName) jdk_42_method_3_code 2 none :: ws) ({ frames := 3, cells := 1, slots := 3, locals := 52 } : Room)) (fun a U => a = #[(.ref a0_), (.ref c1)] ∧ Z.Warmed39 U.vm ∧ U.heap = h0 ∧ CHv Z own_EL U.vm h0) (fun _ _ _ _ _ => True) (fun _ U o U' => ∃ v L, o = .returned v ∧ own_Q_s_inits3 Z a0_ zc c1 kc c0_ c1_ c2_ h0 n0 v U'.heap L ∧ CHr Z own_EL U.vm U.heap U'.vm U'.heap ∧ ReturnedEndW U o U' L ({ frames := 3, cells := 1, slots := 3, locals := 52 } : Room).cells ({ frames := 3, cells := 1, slots := 3, locals := 52 } : Room).slots) := by
  refine MetFree.of_bodySF (plainFor_of_name own_pn_s_inits3) hisR ?_
  intro p e s m args below meth c s₁ Bd hml0 hP hK
  obtain ⟨rfl, hZ, hh, hCH⟩ := hP
  have hx := Bd.exec
  have hby := Bd.bytes
  have hml : c.maxLocals = 2 := hml0
  have hown : s.vm.findClass "java/lang/String" = some m.cls := findClass_of_methodNamed Bd.named
  have hnm := (name_of_methodNamed Bd.named Bd.method).1
  have X0 : Stand p l e ({ frames := 3, cells := 1, slots := 3, locals := 52 } : Room) (s.setVm s.vm) m #[(.ref a0_), (.ref c1)] below meth c s₁ [] 0 0 := Stand.of_body Bd
  have e0 : s₁.heap = h0 := by rw [← hh, Bd.state]; rfl
  have N0 := Fr.nil n0
  have CH0 : CHr Z own_EL s.vm s.heap s.vm h0 := by rw [hh]; exact CHr.refl hCH
  have hS0 : s.Since s.vm h0.size := (State.WarmedH.refl s).since _
  show OG.Go p.tables e below (OG.GH Z own_EL (own_Q_s_inits3 Z a0_ zc c1 kc c0_ c1_ c2_ h0 n0) ({ frames := 3, cells := 1, slots := 3, locals := 52 } : Room).cells ({ frames := 3, cells := 1, slots := 3, locals := 52 } : Room).slots s) (s₁.setTop (entryFrame m #[(.ref a0_), (.ref c1)] 2))
  refine OG.Go.cast (own_ef_s_inits3 m a0_ c1) ?_
  refine OG.aloadN X0 hx hby own_d_s_inits3_0 rfl rfl rfl ?_
  refine OG.aloadN X0 hx hby own_d_s_inits3_1 rfl rfl rfl ?_
  refine OG.iconst (v := (0 : Int32)) X0 hx hby own_d_s_inits3_2 (by decide) rfl ?_
  refine OG.aloadN X0 hx hby own_d_s_inits3_3 rfl rfl rfl ?_
  refine OG.aL X0 hx hZ hby e0 V1 own_d_s_inits3_4 rfl ?_
  refine OG.aconstNull X0 hx hby own_d_s_inits3_5 rfl ?_
  refine OG.cNH X0 hx hZ hby (by rw [hml]; rfl) hown (y := (⟨"java/lang/String", "<init>", "([CIILjava/lang/Void;)V"⟩ : MethodName)) rfl rfl (hw _ (List.mem_of_getElem? (i := 35) rfl)) (hw _ (List.mem_of_getElem? (i := 36) rfl)) (hw _ (List.mem_of_getElem? (i := 37) rfl)) (hw _ (List.mem_of_getElem? (i := 6) rfl)) (by decide) (own_rm_s_initc3 l Z a0 hw [] a0_ zc c1 kc c0_ c1_ c2_ h0 n0 Z0 O1 S_cs hzc E0 Fc0 Fv0 g0 V1 hc0 hc1 hc2) e0 hS0 (Nat.le_refl _) (own_hEL hw) CH0.1 (argsL := [(.ref c1), (.int (0 : Int32)), (.int (3 : Int32)), .null]) (stk := [.null, (.int (3 : Int32)), (.int (0 : Int32)), (.ref c1), (.ref a0_)]) (st := []) own_pd_16 rfl rfl rfl (W := 0) rfl (by decide) (by decide) (by decide) (by decide) own_d_s_inits3_6 rfl ?_
  intro T101 L101 v101 X101 S101 Zw101 Ow101 C101 q101
  obtain ⟨ta101, bx101, rfl, N101, K101, E_101, Fc_101, Fv_101, Y_101, hl101⟩ := q101
  have CH102 := CHr.trans CH0 (C101)
  have M101 := Fr.app N0 N101
  show OG.Go _ _ _ _ (T101.setTop (mkF m 9 #[.val (.ref a0_), .val (.ref c1)] []))
  refine OG.retVH X101 hx Zw101 hby (own_hEL hw) S101 (Nat.le_refl _) CH102 Bd.returns own_d_s_inits3_9 Bd.notSynchronized (by decide) (by decide) ?_
  exact ⟨ta101, _, rfl, M101, (Keep.trans (Keep.refl h0 [a0_]) K101 (allS (Or.inl (by simp)) all0)), E_101, Fc_101, Fv_101, Y_101, hl101⟩
theorem own_d_canenc_0 : decode jdk_43_method_3_code 0 = .ok (.iload_n 0, 1) := by decide +kernel
theorem own_d_canenc_1 : decode jdk_43_method_3_code 1 = .ok (.sipush 255, 3) := by decide +kernel
theorem own_d_canenc_4 : decode jdk_43_method_3_code 4 = .ok (.if_icmp .gt 7, 3) := by decide +kernel
theorem own_d_canenc_7 : decode jdk_43_method_3_code 7 = .ok (.iconst 1, 1) := by decide +kernel
theorem own_d_canenc_8 : decode jdk_43_method_3_code 8 = .ok (.goto 4, 3) := by decide +kernel
theorem own_d_canenc_12 : decode jdk_43_method_3_code 12 = .ok (.ireturn, 1) := by decide +kernel
theorem own_pn_canenc : plainName "java/lang/StringLatin1" = true := by first | (simp [plainName, overriddenIn]; done) | decide +kernel
theorem own_ef_canenc (m : MethodId) (x0 : Int32)  : entryFrame m #[(.int x0)] 1 = mkF m 0 #[.val (.int x0)] [] := by first | (simp [entryFrame, mkF, argsToLocals, Value.category]; done) | rfl
def own_Q_canenc (Z : State) (c_ : Nat) (h0 : Heap) (n0 : Nat) (v : Option Value) (h : Heap) (L : List Loc) : Prop := v = some (.int (1 : Int32)) ∧ Fr n0 L ∧ h = h0
set_option maxRecDepth 65536 in
set_option maxHeartbeats 40000000 in
theorem own_rm_canenc (l : Launch) (Z : State) (a0 : Array Value) (hw : ∀ d ∈ tables_1, d.before a0 Z = true) (ws : List Jvm.Cond) (c_ : Nat) (h0 : Heap) (n0 : Nat) (Z0 : n0 ≤ h0.size) (hc : c_ < 256) :
    MetFree l (⟨"java/lang/StringLatin1", "canEncode", "(C)Z"⟩ : MethodName) (head1 (Jvm.Cond.code (⟨"java/lang/StringLatin1", "canEncode", "(C)Z"⟩ : MethodName) jdk_43_method_3_code 1 (some .boolean) :: ws) ({ frames := 0, cells := 0, slots := 0, locals := 0 } : Room)) (fun a U => a = #[(.int (Int32.ofNat c_))] ∧ Z.Warmed39 U.vm ∧ U.heap = h0) (fun _ _ _ _ _ => True) (fun _ U o U' => ∃ v L, o = .returned v ∧ own_Q_canenc Z c_ h0 n0 v U'.heap L ∧ FrameEnd U o U' L ({ frames := 0, cells := 0, slots := 0, locals := 0 } : Room).cells ({ frames := 0, cells := 0, slots := 0, locals := 0 } : Room).slots) := by
  refine MetFree.of_bodySF (plainFor_of_name own_pn_canenc) hisR ?_
  intro p e s m args below meth c s₁ Bd hml0 hP hK
  obtain ⟨rfl, hZ, hh⟩ := hP
  have hx := Bd.exec
  have hby := Bd.bytes
  have hml : c.maxLocals = 1 := hml0
  have hown : s.vm.findClass "java/lang/StringLatin1" = some m.cls := findClass_of_methodNamed Bd.named
  have hnm := (name_of_methodNamed Bd.named Bd.method).1
  have X0 : Stand p l e ({ frames := 0, cells := 0, slots := 0, locals := 0 } : Room) s m #[(.int (Int32.ofNat c_))] below meth c s₁ [] 0 0 := Stand.of_body Bd
  have e0 : s₁.heap = h0 := by rw [← hh, Bd.state]; rfl
  have N0 := Fr.nil n0
  show OG.Go p.tables e below (OG.GP (own_Q_canenc Z c_ h0 n0) ({ frames := 0, cells := 0, slots := 0, locals := 0 } : Room).cells ({ frames := 0, cells := 0, slots := 0, locals := 0 } : Room).slots s) (s₁.setTop (entryFrame m #[(.int (Int32.ofNat c_))] 1))
  refine OG.Go.cast (own_ef_canenc m (Int32.ofNat c_)) ?_
  refine OG.iloadN X0 hx hby own_d_canenc_0 rfl rfl ?_
  refine OG.sipush (v := (255 : Int32)) X0 hx hby own_d_canenc_1 (by decide) rfl ?_
  refine OG.icmpNo X0 hx hby own_d_canenc_4 (flt (own_le255 hc)).2.2.1 rfl ?_
  refine OG.iconst (v := (1 : Int32)) X0 hx hby own_d_canenc_7 (by decide) rfl ?_
  refine OG.goto (pc' := 12) X0 hx hby own_d_canenc_8 (by decide) (by decide) ?_
  refine OG.retZ X0 hx hby Bd.returns (by simp) own_d_canenc_12 Bd.notSynchronized (by decide) (by decide) ?_
  exact ⟨rfl, N0, e0⟩
theorem own_d_tobytes_0 : decode jdk_43_method_46_code 0 = .ok (.iconst 1, 1) := by decide +kernel
theorem own_d_tobytes_1 : decode jdk_43_method_46_code 1 = .ok (.newarray .byte, 2) := by decide +kernel
theorem own_d_tobytes_3 : decode jdk_43_method_46_code 3 = .ok (.dup, 1) := by decide +kernel
theorem own_d_tobytes_4 : decode jdk_43_method_46_code 4 = .ok (.iconst 0, 1) := by decide +kernel
theorem own_d_tobytes_5 : decode jdk_43_method_46_code 5 = .ok (.iload_n 0, 1) := by decide +kernel
theorem own_d_tobytes_6 : decode jdk_43_method_46_code 6 = .ok (.i2b, 1) := by decide +kernel
theorem own_d_tobytes_7 : decode jdk_43_method_46_code 7 = .ok (.bastore, 1) := by decide +kernel
theorem own_d_tobytes_8 : decode jdk_43_method_46_code 8 = .ok (.areturn, 1) := by decide +kernel
theorem own_pn_tobytes : plainName "java/lang/StringLatin1" = true := by first | (simp [plainName, overriddenIn]; done) | decide +kernel
theorem own_ef_tobytes (m : MethodId) (x0 : Int32)  : entryFrame m #[(.int x0)] 1 = mkF m 0 #[.val (.int x0)] [] := by first | (simp [entryFrame, mkF, argsToLocals, Value.category]; done) | rfl
def own_Q_tobytes (Z : State) (c_ : Nat) (h0 : Heap) (n0 : Nat) (v : Option Value) (h : Heap) (L : List Loc) : Prop := ∃ t, v = some (.ref t) ∧ Fr n0 L ∧ Keep h0 h [] ∧ OG.BA Z h t [(Int32.ofNat c_).toInt8.toInt32] ∧ Exa Z h t "[B" ∧ h0.size ≤ t
set_option maxRecDepth 65536 in
set_option maxHeartbeats 40000000 in
theorem own_rm_tobytes (l : Launch) (Z : State) (a0 : Array Value) (hw : ∀ d ∈ tables_1, d.before a0 Z = true) (ws : List Jvm.Cond) (c_ : Nat) (h0 : Heap) (n0 : Nat) (Z0 : n0 ≤ h0.size) :
    MetFree l (⟨"java/lang/StringLatin1", "toBytes", "(C)[B"⟩ : MethodName) (head1 (Jvm.Cond.code (⟨"java/lang/StringLatin1", "toBytes", "(C)[B"⟩ : MethodName) jdk_43_method_46_code 1 (some (.array .byte)) :: ws) ({ frames := 0, cells := 1, slots := 1, locals := 0 } : Room)) (fun a U => a = #[(.int (Int32.ofNat c_))] ∧ Z.Warmed39 U.vm ∧ U.heap = h0) (fun _ _ _ _ _ => True) (fun _ U o U' => ∃ v L, o = .returned v ∧ own_Q_tobytes Z c_ h0 n0 v U'.heap L ∧ FrameEnd U o U' L ({ frames := 0, cells := 1, slots := 1, locals := 0 } : Room).cells ({ frames := 0, cells := 1, slots := 1, locals := 0 } : Room).slots) := by
  refine MetFree.of_bodySF (plainFor_of_name own_pn_tobytes) hisR ?_
  intro p e s m args below meth c s₁ Bd hml0 hP hK
  obtain ⟨rfl, hZ, hh⟩ := hP
  have hx := Bd.exec
  have hby := Bd.bytes
  have hml : c.maxLocals = 1 := hml0
  have hown : s.vm.findClass "java/lang/StringLatin1" = some m.cls := findClass_of_methodNamed Bd.named
  have hnm := (name_of_methodNamed Bd.named Bd.method).1
  have X0 : Stand p l e ({ frames := 0, cells := 1, slots := 1, locals := 0 } : Room) s m #[(.int (Int32.ofNat c_))] below meth c s₁ [] 0 0 := Stand.of_body Bd
  have e0 : s₁.heap = h0 := by rw [← hh, Bd.state]; rfl
  have N0 := Fr.nil n0
  show OG.Go p.tables e below (OG.GP (own_Q_tobytes Z c_ h0 n0) ({ frames := 0, cells := 1, slots := 1, locals := 0 } : Room).cells ({ frames := 0, cells := 1, slots := 1, locals := 0 } : Room).slots s) (s₁.setTop (entryFrame m #[(.int (Int32.ofNat c_))] 1))
  refine OG.Go.cast (own_ef_tobytes m (Int32.ofNat c_)) ?_
  refine OG.iconst (v := (1 : Int32)) X0 hx hby own_d_tobytes_0 (by decide) rfl ?_
  refine OG.yN X0 hx hZ hby (hw _ (List.mem_of_getElem? (i := 18) rfl)) e0 (N := 1) (cap := 1) rfl (by decide) (by decide) (by decide) (by decide) own_d_tobytes_1 rfl ?_
  intro T101 h101 b101 g101 X101 e101 E101 Y101 A101
  have gn102 : n0 ≤ b101 := Nat.le_trans Z0 (Nat.le_of_eq g101.symm)
  have sz103 : h0.size ≤ b101 := Nat.le_trans (Nat.le_refl _) (Nat.le_of_eq g101.symm)
  refine OG.dup X101 hx hby own_d_tobytes_3 rfl rfl ?_
  refine OG.iconst (v := (0 : Int32)) X101 hx hby own_d_tobytes_4 (by decide) rfl ?_
  refine OG.iloadN X101 hx hby own_d_tobytes_5 rfl rfl ?_
  refine OG.i2b X101 hx hby own_d_tobytes_6 rfl ?_
  refine OG.yS X101 hx hZ hby e101 Y101 (i := 0) rfl (by simp) own_d_tobytes_7 rfl ?_
  intro T104 h104 X104 e104 W104 f105
  rw [own_narbb _] at f105
  have N106 := Fr.snoc X104 N0 gn102
  refine OG.retA X104 hx hby Bd.returns rfl rfl rfl own_d_tobytes_8 Bd.notSynchronized (by decide) (by decide) ?_
  have f107 := (Exa.wr W104 A101)
  rw [e104]
  exact ⟨b101, rfl, N106, (Keep.wr (Keep.ext (Keep.refl h0 []) E101) W104 (Or.inr sz103)), f105, f107, sz103⟩
theorem own_d_s_initbb_0 : decode jdk_42_method_151_code 0 = .ok (.aload_n 0, 1) := by decide +kernel
theorem own_d_s_initbb_1 : decode jdk_42_method_151_code 1 = .ok (.invokespecial 1, 3) := by decide +kernel
theorem own_d_s_initbb_4 : decode jdk_42_method_151_code 4 = .ok (.aload_n 0, 1) := by decide +kernel
theorem own_d_s_initbb_5 : decode jdk_42_method_151_code 5 = .ok (.aload_n 1, 1) := by decide +kernel
theorem own_d_s_initbb_6 : decode jdk_42_method_151_code 6 = .ok (.putfield 9, 3) := by decide +kernel
theorem own_d_s_initbb_9 : decode jdk_42_method_151_code 9 = .ok (.aload_n 0, 1) := by decide +kernel
theorem own_d_s_initbb_10 : decode jdk_42_method_151_code 10 = .ok (.iload_n 2, 1) := by decide +kernel
theorem own_d_s_initbb_11 : decode jdk_42_method_151_code 11 = .ok (.putfield 15, 3) := by decide +kernel
theorem own_d_s_initbb_14 : decode jdk_42_method_151_code 14 = .ok (.return_, 1) := by decide +kernel
theorem own_pn_s_initbb : plainName "java/lang/String" = true := by first | (simp [plainName, overriddenIn]; done) | decide +kernel
theorem own_ef_s_initbb (m : MethodId) (x0 : Addr) (x1 : Addr) (x2 : Int32)  : entryFrame m #[(.ref x0), (.ref x1), (.int x2)] 3 = mkF m 0 #[.val (.ref x0), .val (.ref x1), .val (.int x2)] [] := by first | (simp [entryFrame, mkF, argsToLocals, Value.category]; done) | rfl
def own_Q_s_initbb (Z : State) (a0_ : Addr) (t1 : Addr) (bs : List Int32) (h0 : Heap) (n0 : Nat) (v : Option Value) (h : Heap) (L : List Loc) : Prop := v = none ∧ Fr n0 L ∧ Keep h0 h [a0_] ∧ (Exa Z h a0_ "java/lang/String") ∧ (Fld Z h a0_ "java/lang/String" "coder" "B" (.int (0 : Int32))) ∧ (Fld Z h a0_ "java/lang/String" "value" "[B" (.ref t1)) ∧ (OG.BA Z h t1 bs)
set_option maxRecDepth 65536 in
set_option maxHeartbeats 40000000 in
theorem own_rm_s_initbb (l : Launch) (Z : State) (a0 : Array Value) (hw : ∀ d ∈ tables_1, d.before a0 Z = true) (ws : List Jvm.Cond) (a0_ : Addr) (t1 : Addr) (bs : List Int32) (h0 : Heap) (n0 : Nat) (Z0 : n0 ≤ h0.size) (E0 : Exa Z h0 a0_ "java/lang/String") (Fc0 : Fld Z h0 a0_ "java/lang/String" "coder" "B" (.int (0 : Int32))) (Fv0 : Fld Z h0 a0_ "java/lang/String" "value" "[B" .null) (g0 : n0 ≤ a0_) (Y1 : OG.BA Z h0 t1 bs) :
    MetFree l (⟨"java/lang/String", "<init>", "([BB)V"⟩ : MethodName) (head1 (Jvm.Cond.code (⟨"java/lang/String", "<init>", "([BB)V"⟩ : MethodName) jdk_42_method_151_code 3 none :: ws) ({ frames := 1, cells := 0, slots := 0, locals := 12 } : Room)) (fun a U => a = #[(.ref a0_), (.ref t1), (.int (0 : Int32))] ∧ Z.Warmed39 U.vm ∧ U.heap = h0) (fun _ _ _ _ _ => True) (fun _ U o U' => ∃ v L, o = .returned v ∧ own_Q_s_initbb Z a0_ t1 bs h0 n0 v U'.heap L ∧ FrameEnd U o U' L ({ frames := 1, cells := 0, slots := 0, locals := 12 } : Room).cells ({ frames := 1, cells := 0, slots := 0, locals := 12 } : Room).slots) := by
  refine MetFree.of_bodySF (plainFor_of_name own_pn_s_initbb) hisR ?_
  intro p e s m args below meth c s₁ Bd hml0 hP hK
  obtain ⟨rfl, hZ, hh⟩ := hP
  have hx := Bd.exec
  have hby := Bd.bytes
  have hml : c.maxLocals = 3 := hml0
  have hown : s.vm.findClass "java/lang/String" = some m.cls := findClass_of_methodNamed Bd.named
  have hnm := (name_of_methodNamed Bd.named Bd.method).1
  have X0 : Stand p l e ({ frames := 1, cells := 0, slots := 0, locals := 12 } : Room) s m #[(.ref a0_), (.ref t1), (.int (0 : Int32))] below meth c s₁ [] 0 0 := Stand.of_body Bd
  have e0 : s₁.heap = h0 := by rw [← hh, Bd.state]; rfl
  have N0 := Fr.nil n0
  show OG.Go p.tables e below (OG.GP (own_Q_s_initbb Z a0_ t1 bs h0 n0) ({ frames := 1, cells := 0, slots := 0, locals := 12 } : Room).cells ({ frames := 1, cells := 0, slots := 0, locals := 12 } : Room).slots s) (s₁.setTop (entryFrame m #[(.ref a0_), (.ref t1), (.int (0 : Int32))] 3))
  refine OG.Go.cast (own_ef_s_initbb m a0_ t1 (0 : Int32)) ?_
  refine OG.aloadN X0 hx hby own_d_s_initbb_0 rfl rfl rfl ?_
  refine OG.iO X0 hx hZ hby hown (by rw [hml]; rfl) (hw _ (List.mem_of_getElem? (i := 23) rfl)) (hw _ (List.mem_of_getElem? (i := 24) rfl)) (hw _ (List.mem_of_getElem? (i := 25) rfl)) e0 (W := 0) rfl (by decide) (by decide) own_d_s_initbb_1 rfl ?_
  intro T101 X101 e101
  refine OG.aloadN X101 hx hby own_d_s_initbb_4 rfl rfl rfl ?_
  refine OG.aloadN X101 hx hby own_d_s_initbb_5 rfl rfl rfl ?_
  refine OG.pF X101 hx hZ hby hown (hw _ (List.mem_of_getElem? (i := 26) rfl)) Via.refl e101 Fv0 E0 (Or.inr ⟨(hw _ (List.mem_of_getElem? (i := 27) rfl)), rfl, hnm⟩) (hw _ (List.mem_of_getElem? (i := 14) rfl)) (ty := (.array .byte)) (by decide) rfl rfl own_d_s_initbb_6 rfl ?_
  intro T102 h102 X102 e102 W102
  have f103 := Fld.same W102 Fv0
  have N104 := Fr.snoc X102 N0 g0
  refine OG.aloadN X102 hx hby own_d_s_initbb_9 rfl rfl rfl ?_
  refine OG.iloadN X102 hx hby own_d_s_initbb_10 rfl rfl ?_
  have f105 := (Fld.other W102 Fc0 (Or.inr (slot_ne (Or.inr (hw _ (List.mem_of_getElem? (i := 29) rfl))) (Or.inr (hw _ (List.mem_of_getElem? (i := 27) rfl))) (by decide) (t := .byte) (t' := (.array .byte)) (by decide) (by decide))))
  have f106 := (Exa.wr W102 E0)
  refine OG.pFN (v' := (.int (0 : Int32))) X102 hx hZ hby hown (hw _ (List.mem_of_getElem? (i := 28) rfl)) Via.refl e102 f105 f106 (Or.inr ⟨(hw _ (List.mem_of_getElem? (i := 29) rfl)), rfl, hnm⟩) (hw _ (List.mem_of_getElem? (i := 14) rfl)) (ty := .byte) (by decide) rfl rfl own_d_s_initbb_11 rfl ?_
  intro T107 h107 X107 e107 W107
  have f108 := Fld.same W107 f105
  have N109 := Fr.snoc X107 N104 g0
  refine OG.retV X107 hx hby Bd.returns own_d_s_initbb_14 Bd.notSynchronized (by decide) (by decide) ?_
  have f110 := (Exa.wr W107 f106)
  have f111 := (Fld.other W107 f103 (Or.inr (slot_ne (Or.inr (hw _ (List.mem_of_getElem? (i := 27) rfl))) (Or.inr (hw _ (List.mem_of_getElem? (i := 29) rfl))) (by decide) (t := (.array .byte)) (t' := .byte) (by decide) (by decide))))
  have f112 := (OG.BA.other (OG.BA.other Y1 W102 (Ne.symm (OG.BA.neE Y1 E0 (hw _ (List.mem_of_getElem? (i := 14) rfl))))) W107 (Ne.symm (OG.BA.neE Y1 E0 (hw _ (List.mem_of_getElem? (i := 14) rfl)))))
  rw [e107]
  exact ⟨rfl, N109, (Keep.wr (Keep.wr (Keep.refl h0 [a0_]) W102 (Or.inl (by simp))) W107 (Or.inl (by simp))), f110, f108, f111, f112⟩
theorem own_d_s_valc_0 : decode jdk_42_method_139_code 0 = .ok (.getstatic 38, 3) := by decide +kernel
theorem own_d_s_valc_3 : decode jdk_42_method_139_code 3 = .ok (.ifCond .eq 23, 3) := by decide +kernel
theorem own_d_s_valc_6 : decode jdk_42_method_139_code 6 = .ok (.iload_n 0, 1) := by decide +kernel
theorem own_d_s_valc_7 : decode jdk_42_method_139_code 7 = .ok (.invokestatic 1015, 3) := by decide +kernel
theorem own_d_s_valc_10 : decode jdk_42_method_139_code 10 = .ok (.ifCond .eq 16, 3) := by decide +kernel
theorem own_d_s_valc_13 : decode jdk_42_method_139_code 13 = .ok (.new 10, 3) := by decide +kernel
theorem own_d_s_valc_16 : decode jdk_42_method_139_code 16 = .ok (.dup, 1) := by decide +kernel
theorem own_d_s_valc_17 : decode jdk_42_method_139_code 17 = .ok (.iload_n 0, 1) := by decide +kernel
theorem own_d_s_valc_18 : decode jdk_42_method_139_code 18 = .ok (.invokestatic 1018, 3) := by decide +kernel
theorem own_d_s_valc_21 : decode jdk_42_method_139_code 21 = .ok (.iconst 0, 1) := by decide +kernel
theorem own_d_s_valc_22 : decode jdk_42_method_139_code 22 = .ok (.invokespecial 209, 3) := by decide +kernel
theorem own_d_s_valc_25 : decode jdk_42_method_139_code 25 = .ok (.areturn, 1) := by decide +kernel
theorem own_pn_s_valc : plainName "java/lang/String" = true := by first | (simp [plainName, overriddenIn]; done) | decide +kernel
theorem own_ef_s_valc (m : MethodId) (x0 : Int32)  : entryFrame m #[(.int x0)] 1 = mkF m 0 #[.val (.int x0)] [] := by first | (simp [entryFrame, mkF, argsToLocals, Value.category]; done) | rfl
def own_Q_s_valc (Z : State) (c_ : Nat) (zc : Int32) (h0 : Heap) (n0 : Nat) (v : Option Value) (h : Heap) (L : List Loc) : Prop := ∃ a t, v = some (.ref a) ∧ Fr n0 L ∧ Keep h0 h [] ∧ (Exa Z h a "java/lang/String") ∧ (Fld Z h a "java/lang/String" "coder" "B" (.int (0 : Int32))) ∧ (Fld Z h a "java/lang/String" "value" "[B" (.ref t)) ∧ (OG.BA Z h t [(Int32.ofNat c_).toInt8.toInt32]) ∧ h0.size ≤ a ∧ h0.size ≤ t
set_option maxRecDepth 65536 in
set_option maxHeartbeats 40000000 in
theorem own_rm_s_valc (l : Launch) (Z : State) (a0 : Array Value) (hw : ∀ d ∈ tables_1, d.before a0 Z = true) (ws : List Jvm.Cond) (c_ : Nat) (zc : Int32) (h0 : Heap) (n0 : Nat) (Z0 : n0 ≤ h0.size) (O1 : Old Z n0 h0) (S_cs : Sta Z Z.heap "java/lang/String" "COMPACT_STRINGS" "Z" (.int zc)) (hzc : ¬ zc = (0 : Int32)) (hc : c_ < 256) :
    MetFree l (⟨"java/lang/String", "valueOf", "(C)Ljava/lang/String;"⟩ : MethodName) (head1 (Jvm.Cond.code (⟨"java/lang/String", "valueOf", "(C)Ljava/lang/String;"⟩ : MethodName) jdk_42_method_139_code 1 (some (.object "java/lang/String")) :: ws) ({ frames := 2, cells := 2, slots := 5, locals := 27 } : Room)) (fun a U => a = #[(.int (Int32.ofNat c_))] ∧ Z.Warmed39 U.vm ∧ U.heap = h0) (fun _ _ _ _ _ => True) (fun _ U o U' => ∃ v L, o = .returned v ∧ own_Q_s_valc Z c_ zc h0 n0 v U'.heap L ∧ FrameEnd U o U' L ({ frames := 2, cells := 2, slots := 5, locals := 27 } : Room).cells ({ frames := 2, cells := 2, slots := 5, locals := 27 } : Room).slots) := by
  refine MetFree.of_bodySF (plainFor_of_name own_pn_s_valc) hisR ?_
  intro p e s m args below meth c s₁ Bd hml0 hP hK
  obtain ⟨rfl, hZ, hh⟩ := hP
  have hx := Bd.exec
  have hby := Bd.bytes
  have hml : c.maxLocals = 1 := hml0
  have hown : s.vm.findClass "java/lang/String" = some m.cls := findClass_of_methodNamed Bd.named
  have hnm := (name_of_methodNamed Bd.named Bd.method).1
  have X0 : Stand p l e ({ frames := 2, cells := 2, slots := 5, locals := 27 } : Room) s m #[(.int (Int32.ofNat c_))] below meth c s₁ [] 0 0 := Stand.of_body Bd
  have e0 : s₁.heap = h0 := by rw [← hh, Bd.state]; rfl
  have N0 := Fr.nil n0
  show OG.Go p.tables e below (OG.GP (own_Q_s_valc Z c_ zc h0 n0) ({ frames := 2, cells := 2, slots := 5, locals := 27 } : Room).cells ({ frames := 2, cells := 2, slots := 5, locals := 27 } : Room).slots s) (s₁.setTop (entryFrame m #[(.int (Int32.ofNat c_))] 1))
  refine OG.Go.cast (own_ef_s_valc m (Int32.ofNat c_)) ?_
  have f102 := Sta.ext O1.2 S_cs
  refine OG.gS X0 hx hZ hby hown (hw _ (List.mem_of_getElem? (i := 8) rfl)) Via.refl e0 f102 own_d_s_valc_0 rfl ?_
  intro T101 X101 e101
  refine OG.ifNo X101 hx hby own_d_s_valc_3 (feq hzc).1 rfl ?_
  refine OG.iloadN X101 hx hby own_d_s_valc_6 rfl rfl ?_
  refine OG.cS X101 hx hZ hby (by rw [hml]; rfl) hown (y := (⟨"java/lang/StringLatin1", "canEncode", "(C)Z"⟩ : MethodName)) (hw _ (List.mem_of_getElem? (i := 9) rfl)) (hw _ (List.mem_of_getElem? (i := 10) rfl)) (hw _ (List.mem_of_getElem? (i := 12) rfl)) (hw _ (List.mem_of_getElem? (i := 11) rfl)) (by decide) (own_rm_canenc l Z a0 hw [] c_ h0 n0 Z0 hc) e101 (argsL := [(.int (Int32.ofNat c_))]) (stk := [(.int (Int32.ofNat c_))]) (st := []) own_pd_20 rfl rfl rfl (W := 0) rfl (by decide) (by decide) (by decide) (by decide) own_d_s_valc_7 rfl ?_
  intro T103 L103 v103 X103 q103
  obtain ⟨rfl, N103, e103⟩ := q103
  have M103 := Fr.app N0 N103
  show OG.Go _ _ _ _ (T103.setTop (mkF m 10 #[.val (.int (Int32.ofNat c_))] [(.int (1 : Int32))]))
  refine OG.ifNo X103 hx hby own_d_s_valc_10 (feq (by decide)).1 rfl ?_
  refine OG.nO X103 hx hZ hby hown (hw _ (List.mem_of_getElem? (i := 13) rfl)) (hw _ (List.mem_of_getElem? (i := 14) rfl)) (hw _ (List.mem_of_getElem? (i := 6) rfl)) e103 own_d_s_valc_13 (by decide) (by decide) rfl ?_
  intro T104 h104 b104 g104 X104 e104 E104 A104 D104
  have gn105 : n0 ≤ b104 := Nat.le_trans Z0 (Nat.le_of_eq g104.symm)
  have sz106 : h0.size ≤ b104 := Nat.le_trans (Nat.le_refl _) (Nat.le_of_eq g104.symm)
  have f107 : Fld Z h104 b104 "java/lang/String" "value" "[B" .null := D104 (Or.inr (hw _ (List.mem_of_getElem? (i := 27) rfl))) (ty := (.array .byte)) (by decide)
  have f108 : Fld Z h104 b104 "java/lang/String" "coder" "B" (.int (0 : Int32)) := D104 (Or.inr (hw _ (List.mem_of_getElem? (i := 29) rfl))) (ty := .byte) (by decide)
  refine OG.dup X104 hx hby own_d_s_valc_16 rfl rfl ?_
  refine OG.iloadN X104 hx hby own_d_s_valc_17 rfl rfl ?_
  refine OG.cS X104 hx hZ hby (by rw [hml]; rfl) hown (y := (⟨"java/lang/StringLatin1", "toBytes", "(C)[B"⟩ : MethodName)) (hw _ (List.mem_of_getElem? (i := 15) rfl)) (hw _ (List.mem_of_getElem? (i := 16) rfl)) (hw _ (List.mem_of_getElem? (i := 17) rfl)) (hw _ (List.mem_of_getElem? (i := 11) rfl)) (by decide) (own_rm_tobytes l Z a0 hw [] c_ h104 n0 (Nat.le_trans Z0 E104.1)) e104 (argsL := [(.int (Int32.ofNat c_))]) (stk := [(.int (Int32.ofNat c_)), (.ref b104), (.ref b104)]) (st := [(.ref b104), (.ref b104)]) own_pd_21 rfl rfl rfl (W := 2) rfl (by decide) (by decide) (by decide) (by decide) own_d_s_valc_18 rfl ?_
  intro T109 L109 v109 X109 q109
  obtain ⟨ta109, rfl, N109, K109, Y109, E109, sz109⟩ := q109
  have ne110 : b104 ≠ ta109 := Nat.ne_of_lt (Nat.lt_of_lt_of_le (Exa.lt A104) sz109)
  have gn111 : n0 ≤ ta109 := Nat.le_trans (Nat.le_trans Z0 E104.1) sz109
  have sz112 : h0.size ≤ ta109 := Nat.le_trans (Nat.le_trans (Nat.le_refl _) E104.1) sz109
  have M109 := Fr.app M103 N109
  show OG.Go _ _ _ _ (T109.setTop (mkF m 21 #[.val (.int (Int32.ofNat c_))] [(.ref ta109), (.ref b104), (.ref b104)]))
  refine OG.iconst (v := (0 : Int32)) X109 hx hby own_d_s_valc_21 (by decide) rfl ?_
  have f114 := (Exa.keep A104 K109)
  have f115 := (Fld.keep f108 K109 nin0)
  have f116 := (Fld.keep f107 K109 nin0)
  refine OG.cN X109 hx hZ hby (by rw [hml]; rfl) hown (y := (⟨"java/lang/String", "<init>", "([BB)V"⟩ : MethodName)) rfl rfl (hw _ (List.mem_of_getElem? (i := 19) rfl)) (hw _ (List.mem_of_getElem? (i := 20) rfl)) (hw _ (List.mem_of_getElem? (i := 22) rfl)) (hw _ (List.mem_of_getElem? (i := 6) rfl)) (by decide) (own_rm_s_initbb l Z a0 hw [] b104 ta109 [(Int32.ofNat c_).toInt8.toInt32] T109.heap n0 (Nat.le_trans (Nat.le_trans Z0 E104.1) K109.1) f114 f115 f116 gn105 Y109) rfl (argsL := [(.ref ta109), (.int (0 : Int32))]) (stk := [(.int (0 : Int32)), (.ref ta109), (.ref b104), (.ref b104)]) (st := [(.ref b104)]) own_pd_22 rfl rfl rfl (W := 1) rfl (by decide) (by decide) (by decide) (by decide) own_d_s_valc_22 rfl ?_
  intro T113 L113 v113 X113 q113
  obtain ⟨rfl, N113, K113, E_113, Fc_113, Fv_113, Y_113⟩ := q113
  have M113 := Fr.app M109 N113
  show OG.Go _ _ _ _ (T113.setTop (mkF m 25 #[.val (.int (Int32.ofNat c_))] [(.ref b104)]))
  refine OG.retA X113 hx hby Bd.returns rfl rfl rfl own_d_s_valc_25 Bd.notSynchronized (by decide) (by decide) ?_
  exact ⟨b104, ta109, rfl, M113, (Keep.trans (Keep.trans (Keep.ext (Keep.refl h0 []) E104) K109 all0) K113 (allS (Or.inr sz106) all0)), E_113, Fc_113, Fv_113, Y_113, sz106, sz112⟩
theorem own_and3 (x : Int32) : ∃ n, n ≤ 3 ∧ (x &&& (3 : Int32)) = Int32.ofNat n := by
  have h : (x &&& (3 : Int32)).toInt = x.toInt % 2 ^ 2 := Jvm.Kit.i32_mask x 3 (k := 2) (by decide) (by decide)
  refine ⟨(x &&& (3 : Int32)).toInt.toNat, by omega, ?_⟩
  rw [← Int32.toInt_inj, Int32.toInt_ofNat_of_lt (by omega)]
  omega
theorem own_eqN {n k : Nat} (hn : n ≤ 3) (hk : k ≤ 3) : (Int32.ofNat n = Int32.ofNat k) ↔ n = k := OG.ofN_inj (by omega) (by omega)
theorem own_d_mk_0 : decode method_3_code 0 = .ok (.iload_n 1, 1) := by decide +kernel
theorem own_d_mk_1 : decode method_3_code 1 = .ok (.sipush 255, 3) := by decide +kernel
theorem own_d_mk_4 : decode method_3_code 4 = .ok (.iand, 1) := by decide +kernel
theorem own_d_mk_5 : decode method_3_code 5 = .ok (.i2c, 1) := by decide +kernel
theorem own_d_mk_6 : decode method_3_code 6 = .ok (.istore_n 2, 1) := by decide +kernel
theorem own_d_mk_7 : decode method_3_code 7 = .ok (.iload_n 1, 1) := by decide +kernel
theorem own_d_mk_8 : decode method_3_code 8 = .ok (.bipush 8, 2) := by decide +kernel
theorem own_d_mk_10 : decode method_3_code 10 = .ok (.iushr, 1) := by decide +kernel
theorem own_d_mk_11 : decode method_3_code 11 = .ok (.sipush 255, 3) := by decide +kernel
theorem own_d_mk_14 : decode method_3_code 14 = .ok (.iand, 1) := by decide +kernel
theorem own_d_mk_15 : decode method_3_code 15 = .ok (.i2c, 1) := by decide +kernel
theorem own_d_mk_16 : decode method_3_code 16 = .ok (.istore_n 3, 1) := by decide +kernel
theorem own_d_mk_17 : decode method_3_code 17 = .ok (.iload_n 1, 1) := by decide +kernel
theorem own_d_mk_18 : decode method_3_code 18 = .ok (.bipush 16, 2) := by decide +kernel
theorem own_d_mk_20 : decode method_3_code 20 = .ok (.iushr, 1) := by decide +kernel
theorem own_d_mk_21 : decode method_3_code 21 = .ok (.sipush 255, 3) := by decide +kernel
theorem own_d_mk_24 : decode method_3_code 24 = .ok (.iand, 1) := by decide +kernel
theorem own_d_mk_25 : decode method_3_code 25 = .ok (.i2c, 1) := by decide +kernel
theorem own_d_mk_26 : decode method_3_code 26 = .ok (.istore 4, 2) := by decide +kernel
theorem own_d_mk_28 : decode method_3_code 28 = .ok (.iload_n 0, 1) := by decide +kernel
theorem own_d_mk_29 : decode method_3_code 29 = .ok (.ifCond .ne 14, 3) := by decide +kernel
theorem own_d_mk_32 : decode method_3_code 32 = .ok (.new 35, 3) := by decide +kernel
theorem own_d_mk_35 : decode method_3_code 35 = .ok (.dup, 1) := by decide +kernel
theorem own_d_mk_36 : decode method_3_code 36 = .ok (.iconst 0, 1) := by decide +kernel
theorem own_d_mk_37 : decode method_3_code 37 = .ok (.newarray .char, 2) := by decide +kernel
theorem own_d_mk_39 : decode method_3_code 39 = .ok (.invokespecial 44, 3) := by decide +kernel
theorem own_d_mk_42 : decode method_3_code 42 = .ok (.areturn, 1) := by decide +kernel
theorem own_d_mk_43 : decode method_3_code 43 = .ok (.iload_n 0, 1) := by decide +kernel
theorem own_d_mk_44 : decode method_3_code 44 = .ok (.iconst 1, 1) := by decide +kernel
theorem own_d_mk_45 : decode method_3_code 45 = .ok (.if_icmp .ne 8, 3) := by decide +kernel
theorem own_d_mk_48 : decode method_3_code 48 = .ok (.iload_n 2, 1) := by decide +kernel
theorem own_d_mk_49 : decode method_3_code 49 = .ok (.invokestatic 47, 3) := by decide +kernel
theorem own_d_mk_52 : decode method_3_code 52 = .ok (.areturn, 1) := by decide +kernel
theorem own_d_mk_53 : decode method_3_code 53 = .ok (.iload_n 0, 1) := by decide +kernel
theorem own_d_mk_54 : decode method_3_code 54 = .ok (.iconst 2, 1) := by decide +kernel
theorem own_d_mk_55 : decode method_3_code 55 = .ok (.if_icmp .ne 22, 3) := by decide +kernel
theorem own_d_mk_58 : decode method_3_code 58 = .ok (.new 35, 3) := by decide +kernel
theorem own_d_mk_61 : decode method_3_code 61 = .ok (.dup, 1) := by decide +kernel
theorem own_d_mk_62 : decode method_3_code 62 = .ok (.iconst 2, 1) := by decide +kernel
theorem own_d_mk_63 : decode method_3_code 63 = .ok (.newarray .char, 2) := by decide +kernel
theorem own_d_mk_65 : decode method_3_code 65 = .ok (.dup, 1) := by decide +kernel
theorem own_d_mk_66 : decode method_3_code 66 = .ok (.iconst 0, 1) := by decide +kernel
theorem own_d_mk_67 : decode method_3_code 67 = .ok (.iload_n 2, 1) := by decide +kernel
theorem own_d_mk_68 : decode method_3_code 68 = .ok (.castore, 1) := by decide +kernel
theorem own_d_mk_69 : decode method_3_code 69 = .ok (.dup, 1) := by decide +kernel
theorem own_d_mk_70 : decode method_3_code 70 = .ok (.iconst 1, 1) := by decide +kernel
theorem own_d_mk_71 : decode method_3_code 71 = .ok (.iload_n 3, 1) := by decide +kernel
theorem own_d_mk_72 : decode method_3_code 72 = .ok (.castore, 1) := by decide +kernel
theorem own_d_mk_73 : decode method_3_code 73 = .ok (.invokespecial 44, 3) := by decide +kernel
theorem own_d_mk_76 : decode method_3_code 76 = .ok (.areturn, 1) := by decide +kernel
theorem own_d_mk_77 : decode method_3_code 77 = .ok (.new 35, 3) := by decide +kernel
theorem own_d_mk_80 : decode method_3_code 80 = .ok (.dup, 1) := by decide +kernel
theorem own_d_mk_81 : decode method_3_code 81 = .ok (.iconst 3, 1) := by decide +kernel
theorem own_d_mk_82 : decode method_3_code 82 = .ok (.newarray .char, 2) := by decide +kernel
theorem own_d_mk_84 : decode method_3_code 84 = .ok (.dup, 1) := by decide +kernel
theorem own_d_mk_85 : decode method_3_code 85 = .ok (.iconst 0, 1) := by decide +kernel
theorem own_d_mk_86 : decode method_3_code 86 = .ok (.iload_n 2, 1) := by decide +kernel
theorem own_d_mk_87 : decode method_3_code 87 = .ok (.castore, 1) := by decide +kernel
theorem own_d_mk_88 : decode method_3_code 88 = .ok (.dup, 1) := by decide +kernel
theorem own_d_mk_89 : decode method_3_code 89 = .ok (.iconst 1, 1) := by decide +kernel
theorem own_d_mk_90 : decode method_3_code 90 = .ok (.iload_n 3, 1) := by decide +kernel
theorem own_d_mk_91 : decode method_3_code 91 = .ok (.castore, 1) := by decide +kernel
theorem own_d_mk_92 : decode method_3_code 92 = .ok (.dup, 1) := by decide +kernel
theorem own_d_mk_93 : decode method_3_code 93 = .ok (.iconst 2, 1) := by decide +kernel
theorem own_d_mk_94 : decode method_3_code 94 = .ok (.iload 4, 2) := by decide +kernel
theorem own_d_mk_96 : decode method_3_code 96 = .ok (.castore, 1) := by decide +kernel
theorem own_d_mk_97 : decode method_3_code 97 = .ok (.invokespecial 44, 3) := by decide +kernel
theorem own_d_mk_100 : decode method_3_code 100 = .ok (.areturn, 1) := by decide +kernel
theorem own_pn_mk : plainName "com/example/scrutineer/scrutineer/ValidationFailureToStringPinLaw" = true := by first | (simp [plainName, overriddenIn]; done) | decide +kernel
theorem own_ef_mk (m : MethodId) (x0 : Int32) (x1 : Int32)  : entryFrame m #[(.int x0), (.int x1)] 5 = mkF m 0 #[.val (.int x0), .val (.int x1), .unset, .unset, .unset] [] := by first | (simp [entryFrame, mkF, argsToLocals, Value.category]; done) | rfl
def own_Q_mk (Z : State) (n : Nat) (x : Int32) (zc : Int32) (h0 : Heap) (n0 : Nat) (v : Option Value) (h : Heap) (L : List Loc) : Prop := ∃ a t bs, v = some (.ref a) ∧ Fr n0 L ∧ Keep h0 h [] ∧ (Exa Z h a "java/lang/String") ∧ (Fld Z h a "java/lang/String" "coder" "B" (.int (0 : Int32))) ∧ (Fld Z h a "java/lang/String" "value" "[B" (.ref t)) ∧ (OG.BA Z h t bs) ∧ bs.length = n
set_option maxRecDepth 65536 in
set_option maxHeartbeats 40000000 in
theorem own_rm_mk (l : Launch) (Z : State) (a0 : Array Value) (hw : ∀ d ∈ tables_1, d.before a0 Z = true) (ws : List Jvm.Cond) (n : Nat) (x : Int32) (zc : Int32) (h0 : Heap) (n0 : Nat) (Z0 : n0 ≤ h0.size) (O1 : Old Z n0 h0) (S_cs : Sta Z Z.heap "java/lang/String" "COMPACT_STRINGS" "Z" (.int zc)) (hzc : ¬ zc = (0 : Int32)) (hn : n ≤ 3) :
    MetFree l (⟨"com/example/scrutineer/scrutineer/ValidationFailureToStringPinLaw", "mk", "(II)Ljava/lang/String;"⟩ : MethodName) (head1 (Jvm.Cond.code (⟨"com/example/scrutineer/scrutineer/ValidationFailureToStringPinLaw", "mk", "(II)Ljava/lang/String;"⟩ : MethodName) method_3_code 5 (some (.object "java/lang/String")) :: ws) ({ frames := 4, cells := 6, slots := 12, locals := 66 } : Room)) (fun a U => a = #[(.int (Int32.ofNat n)), (.int x)] ∧ Z.Warmed39 U.vm ∧ U.heap = h0 ∧ CHv Z own_EL U.vm h0) (fun _ _ _ _ _ => True) (fun _ U o U' => ∃ v L, o = .returned v ∧ own_Q_mk Z n x zc h0 n0 v U'.heap L ∧ CHr Z own_EL U.vm U.heap U'.vm U'.heap ∧ ReturnedEndW U o U' L ({ frames := 4, cells := 6, slots := 12, locals := 66 } : Room).cells ({ frames := 4, cells := 6, slots := 12, locals := 66 } : Room).slots) := by
  refine MetFree.of_bodySF (plainFor_of_name own_pn_mk) hisR ?_
  intro p e s m args below meth c s₁ Bd hml0 hP hK
  obtain ⟨rfl, hZ, hh, hCH⟩ := hP
  have hx := Bd.exec
  have hby := Bd.bytes
  have hml : c.maxLocals = 5 := hml0
  have hown : s.vm.findClass "com/example/scrutineer/scrutineer/ValidationFailureToStringPinLaw" = some m.cls := findClass_of_methodNamed Bd.named
  have hnm := (name_of_methodNamed Bd.named Bd.method).1
  have X0 : Stand p l e ({ frames := 4, cells := 6, slots := 12, locals := 66 } : Room) (s.setVm s.vm) m #[(.int (Int32.ofNat n)), (.int x)] below meth c s₁ [] 0 0 := Stand.of_body Bd
  have e0 : s₁.heap = h0 := by rw [← hh, Bd.state]; rfl
  have N0 := Fr.nil n0
  have CH0 : CHr Z own_EL s.vm s.heap s.vm h0 := by rw [hh]; exact CHr.refl hCH
  have hS0 : s.Since s.vm h0.size := (State.WarmedH.refl s).since _
  show OG.Go p.tables e below (OG.GH Z own_EL (own_Q_mk Z n x zc h0 n0) ({ frames := 4, cells := 6, slots := 12, locals := 66 } : Room).cells ({ frames := 4, cells := 6, slots := 12, locals := 66 } : Room).slots s) (s₁.setTop (entryFrame m #[(.int (Int32.ofNat n)), (.int x)] 5))
  refine OG.Go.cast (own_ef_mk m (Int32.ofNat n) x) ?_
  refine OG.iloadN X0 hx hby own_d_mk_0 rfl rfl ?_
  refine OG.sipush (v := (255 : Int32)) X0 hx hby own_d_mk_1 (by decide) rfl ?_
  refine OG.iand X0 hx hby own_d_mk_4 rfl ?_
  refine OG.i2c X0 hx hby own_d_mk_5 rfl ?_
  obtain ⟨ca, hca, eca⟩ := own_byte x
  rw [eca]
  refine OG.istoreN (Ls' := #[.val (.int (Int32.ofNat n)), .val (.int x), .val (.int (Int32.ofNat ca)), .unset, .unset]) X0 hx hby own_d_mk_6 rfl rfl ?_
  refine OG.iloadN X0 hx hby own_d_mk_7 rfl rfl ?_
  refine OG.bipush (v := (8 : Int32)) X0 hx hby own_d_mk_8 (by decide) rfl ?_
  refine OG.iushr X0 hx hby own_d_mk_10 rfl ?_
  refine OG.sipush (v := (255 : Int32)) X0 hx hby own_d_mk_11 (by decide) rfl ?_
  refine OG.iand X0 hx hby own_d_mk_14 rfl ?_
  refine OG.i2c X0 hx hby own_d_mk_15 rfl ?_
  obtain ⟨cb, hcb, ecb⟩ := own_byte (x.toUInt32 >>> ((8 : Int32) &&& 31).toUInt32).toInt32
  rw [ecb]
  refine OG.istoreN (Ls' := #[.val (.int (Int32.ofNat n)), .val (.int x), .val (.int (Int32.ofNat ca)), .val (.int (Int32.ofNat cb)), .unset]) X0 hx hby own_d_mk_16 rfl rfl ?_
  refine OG.iloadN X0 hx hby own_d_mk_17 rfl rfl ?_
  refine OG.bipush (v := (16 : Int32)) X0 hx hby own_d_mk_18 (by decide) rfl ?_
  refine OG.iushr X0 hx hby own_d_mk_20 rfl ?_
  refine OG.sipush (v := (255 : Int32)) X0 hx hby own_d_mk_21 (by decide) rfl ?_
  refine OG.iand X0 hx hby own_d_mk_24 rfl ?_
  refine OG.i2c X0 hx hby own_d_mk_25 rfl ?_
  obtain ⟨cc, hcc, ecc⟩ := own_byte (x.toUInt32 >>> ((16 : Int32) &&& 31).toUInt32).toInt32
  rw [ecc]
  refine OG.istore (Ls' := #[.val (.int (Int32.ofNat n)), .val (.int x), .val (.int (Int32.ofNat ca)), .val (.int (Int32.ofNat cb)), .val (.int (Int32.ofNat cc))]) X0 hx hby own_d_mk_26 rfl rfl ?_
  refine OG.iloadN X0 hx hby own_d_mk_28 rfl rfl ?_
  by_cases hc29_101 : (Int32.ofNat n) = (0 : Int32)
  · refine OG.ifNo X0 hx hby own_d_mk_29 (teq hc29_101).2 rfl ?_
    refine OG.nO X0 hx hZ hby hown (hw _ (List.mem_of_getElem? (i := 30) rfl)) (hw _ (List.mem_of_getElem? (i := 14) rfl)) (hw _ (List.mem_of_getElem? (i := 6) rfl)) e0 own_d_mk_32 (by decide) (by decide) rfl ?_
    intro T102 h102 b102 g102 X102 e102 E102 A102 D102
    have gn103 : n0 ≤ b102 := Nat.le_trans Z0 (Nat.le_of_eq g102.symm)
    have sz104 : h0.size ≤ b102 := Nat.le_trans (Nat.le_refl _) (Nat.le_of_eq g102.symm)
    have CH105 := CHr.trans CH0 (CHr.ext E102 CH0.1)
    have f106 : Fld Z h102 b102 "java/lang/String" "value" "[B" .null := D102 (Or.inr (hw _ (List.mem_of_getElem? (i := 27) rfl))) (ty := (.array .byte)) (by decide)
    have f107 : Fld Z h102 b102 "java/lang/String" "coder" "B" (.int (0 : Int32)) := D102 (Or.inr (hw _ (List.mem_of_getElem? (i := 29) rfl))) (ty := .byte) (by decide)
    refine OG.dup X102 hx hby own_d_mk_35 rfl rfl ?_
    refine OG.iconst (v := (0 : Int32)) X102 hx hby own_d_mk_36 (by decide) rfl ?_
    refine OG.nP (aty := .char) X102 hx hZ hby (hw _ (List.mem_of_getElem? (i := 31) rfl)) e102 (by decide) (cap := 0) (by decide) (by decide) (by decide) (by decide) own_d_mk_37 rfl ?_
    intro T108 h108 k108 b108 g108 X108 e108 E108 V108
    have ne109 : b102 ≠ b108 := Nat.ne_of_lt (Nat.lt_of_lt_of_le (Exa.lt A102) (Nat.le_of_eq g108.symm))
    have gn110 : n0 ≤ b108 := Nat.le_trans (Nat.le_trans Z0 E102.1) (Nat.le_of_eq g108.symm)
    have sz111 : h0.size ≤ b108 := Nat.le_trans (Nat.le_trans (Nat.le_refl _) E102.1) (Nat.le_of_eq g108.symm)
    have sf112 : Safe Z own_EL s.vm h102 b108 := Safe.new (Nat.le_of_eq g108.symm)
    have CH113 := CHr.trans CH105 (CHr.ext E108 CH105.1)
    have f114 : Arv Z h108 b108 k108 .char (0 : Int32) [] (.int (0 : Int32)) := V108.pad (pad_rep [] (.int (0 : Int32)) 0)
    have f116 := (Exa.ext E108 A102)
    have f117 := (Fld.ext E108 f107)
    have f118 := (Fld.ext E108 f106)
    have f119 := (Old.ext (Old.ext O1 E102) E108)
    refine OG.cNH X108 hx hZ hby (by rw [hml]; rfl) hown (y := (⟨"java/lang/String", "<init>", "([C)V"⟩ : MethodName)) rfl rfl (hw _ (List.mem_of_getElem? (i := 32) rfl)) (hw _ (List.mem_of_getElem? (i := 33) rfl)) (hw _ (List.mem_of_getElem? (i := 34) rfl)) (hw _ (List.mem_of_getElem? (i := 6) rfl)) (by decide) (own_rm_s_inits0 l Z a0 hw [] b102 zc b108 k108  h108 n0 (Nat.le_trans (Nat.le_trans Z0 E102.1) E108.1) f119 S_cs hzc f116 f117 f118 gn103 f114 ) e108 hS0 (Nat.le_trans (Nat.le_trans (Nat.le_refl _) E102.1) E108.1) (own_hEL hw) CH113.1 (argsL := [(.ref b108)]) (stk := [(.ref b108), (.ref b102), (.ref b102)]) (st := [(.ref b102)]) own_pd_23 rfl rfl rfl (W := 1) rfl (by decide) (by decide) (by decide) (by decide) own_d_mk_39 rfl ?_
    intro T115 L115 v115 X115 S115 Zw115 Ow115 C115 q115
    have f120 := (Safe.ext E108 CH105.1 sf112)
    obtain ⟨ta115, bx115, rfl, N115, K115, E_115, Fc_115, Fv_115, Y_115, hl115⟩ := q115
    have CH121 := CHr.trans CH113 (C115)
    have f122 := (CHr.safe C115 (Arv.lt f114) f120)
    have M115 := Fr.app N0 N115
    show OG.Go _ _ _ _ (T115.setTop (mkF m 42 #[.val (.int (Int32.ofNat n)), .val (.int x), .val (.int (Int32.ofNat ca)), .val (.int (Int32.ofNat cb)), .val (.int (Int32.ofNat cc))] [(.ref b102)]))
    refine OG.retAH X115 hx Zw115 hby (own_hEL hw) S115 (Nat.le_refl _) CH121 Bd.returns rfl rfl rfl own_d_mk_42 Bd.notSynchronized (by decide) (by decide) ?_
    have hnn : n = 0 := (own_eqN (k := 0) hn (by decide)).mp hc29_101
    exact ⟨b102, ta115, _, rfl, M115, (Keep.trans (Keep.ext (Keep.ext (Keep.refl h0 []) E102) E108) K115 (allS (Or.inr sz104) all0)), E_115, Fc_115, Fv_115, Y_115, (by rw [hnn]; exact hl115)⟩
  · refine OG.ifYes (pc' := 43) X0 hx hby own_d_mk_29 (feq hc29_101).2 (by decide) (by decide) ?_
    refine OG.iloadN X0 hx hby own_d_mk_43 rfl rfl ?_
    refine OG.iconst (v := (1 : Int32)) X0 hx hby own_d_mk_44 (by decide) rfl ?_
    by_cases hc45_123 : (Int32.ofNat n) = (1 : Int32)
    · refine OG.icmpNo X0 hx hby own_d_mk_45 (teq hc45_123).2 rfl ?_
      refine OG.iloadN X0 hx hby own_d_mk_48 rfl rfl ?_
      refine OG.cS X0 hx hZ hby (by rw [hml]; rfl) hown (y := (⟨"java/lang/String", "valueOf", "(C)Ljava/lang/String;"⟩ : MethodName)) (hw _ (List.mem_of_getElem? (i := 4) rfl)) (hw _ (List.mem_of_getElem? (i := 5) rfl)) (hw _ (List.mem_of_getElem? (i := 7) rfl)) (hw _ (List.mem_of_getElem? (i := 6) rfl)) (by decide) (own_rm_s_valc l Z a0 hw [] ca zc h0 n0 Z0 O1 S_cs hzc hca) e0 (argsL := [(.int (Int32.ofNat ca))]) (stk := [(.int (Int32.ofNat ca))]) (st := []) own_pd_24 rfl rfl rfl (W := 0) rfl (by decide) (by decide) (by decide) (by decide) own_d_mk_49 rfl ?_
      intro T124 L124 v124 X124 q124
      obtain ⟨sa124, ta124, rfl, N124, K124, E_124, Fc_124, Fv_124, Y_124, sy124, sz124⟩ := q124
      have gn125 : n0 ≤ ta124 := Nat.le_trans Z0 sz124
      have sz126 : h0.size ≤ ta124 := Nat.le_trans (Nat.le_refl _) sz124
      have sf127 : Safe Z own_EL s.vm h0 ta124 := Safe.new sz124
      have gn128 : n0 ≤ sa124 := Nat.le_trans Z0 sy124
      have sz129 : h0.size ≤ sa124 := Nat.le_trans (Nat.le_refl _) sy124
      have sf130 : Safe Z own_EL s.vm h0 sa124 := Safe.new sy124
      have CH131 := CHr.trans CH0 (CHr.keep K124 sf0 CH0.1)
      have M124 := Fr.app N0 N124
      show OG.Go _ _ _ _ (T124.setTop (mkF m 52 #[.val (.int (Int32.ofNat n)), .val (.int x), .val (.int (Int32.ofNat ca)), .val (.int (Int32.ofNat cb)), .val (.int (Int32.ofNat cc))] [(.ref sa124)]))
      refine OG.retAH X124 hx hZ hby (own_hEL hw) hS0 (Nat.le_trans (Nat.le_refl _) K124.1) CH131 Bd.returns rfl rfl rfl own_d_mk_52 Bd.notSynchronized (by decide) (by decide) ?_
      have hnn : n = 1 := (own_eqN (k := 1) hn (by decide)).mp hc45_123
      exact ⟨sa124, ta124, _, rfl, M124, (Keep.trans (Keep.refl h0 []) K124 all0), E_124, Fc_124, Fv_124, Y_124, (by rw [hnn]; rfl)⟩
    · refine OG.icmpYes (pc' := 53) X0 hx hby own_d_mk_45 (feq hc45_123).2 (by decide) (by decide) ?_
      refine OG.iloadN X0 hx hby own_d_mk_53 rfl rfl ?_
      refine OG.iconst (v := (2 : Int32)) X0 hx hby own_d_mk_54 (by decide) rfl ?_
      by_cases hc55_132 : (Int32.ofNat n) = (2 : Int32)
      · refine OG.icmpNo X0 hx hby own_d_mk_55 (teq hc55_132).2 rfl ?_
        refine OG.nO X0 hx hZ hby hown (hw _ (List.mem_of_getElem? (i := 30) rfl)) (hw _ (List.mem_of_getElem? (i := 14) rfl)) (hw _ (List.mem_of_getElem? (i := 6) rfl)) e0 own_d_mk_58 (by decide) (by decide) rfl ?_
        intro T133 h133 b133 g133 X133 e133 E133 A133 D133
        have gn134 : n0 ≤ b133 := Nat.le_trans Z0 (Nat.le_of_eq g133.symm)
        have sz135 : h0.size ≤ b133 := Nat.le_trans (Nat.le_refl _) (Nat.le_of_eq g133.symm)
        have CH136 := CHr.trans CH0 (CHr.ext E133 CH0.1)
        have f137 : Fld Z h133 b133 "java/lang/String" "value" "[B" .null := D133 (Or.inr (hw _ (List.mem_of_getElem? (i := 27) rfl))) (ty := (.array .byte)) (by decide)
        have f138 : Fld Z h133 b133 "java/lang/String" "coder" "B" (.int (0 : Int32)) := D133 (Or.inr (hw _ (List.mem_of_getElem? (i := 29) rfl))) (ty := .byte) (by decide)
        refine OG.dup X133 hx hby own_d_mk_61 rfl rfl ?_
        refine OG.iconst (v := (2 : Int32)) X133 hx hby own_d_mk_62 (by decide) rfl ?_
        refine OG.nP (aty := .char) X133 hx hZ hby (hw _ (List.mem_of_getElem? (i := 31) rfl)) e133 (by decide) (cap := 2) (by decide) (by decide) (by decide) (by decide) own_d_mk_63 rfl ?_
        intro T139 h139 k139 b139 g139 X139 e139 E139 V139
        have ne140 : b133 ≠ b139 := Nat.ne_of_lt (Nat.lt_of_lt_of_le (Exa.lt A133) (Nat.le_of_eq g139.symm))
        have gn141 : n0 ≤ b139 := Nat.le_trans (Nat.le_trans Z0 E133.1) (Nat.le_of_eq g139.symm)
        have sz142 : h0.size ≤ b139 := Nat.le_trans (Nat.le_trans (Nat.le_refl _) E133.1) (Nat.le_of_eq g139.symm)
        have sf143 : Safe Z own_EL s.vm h133 b139 := Safe.new (Nat.le_of_eq g139.symm)
        have CH144 := CHr.trans CH136 (CHr.ext E139 CH136.1)
        have f145 : Arv Z h139 b139 k139 .char (2 : Int32) [(.int (0 : Int32)), (.int (0 : Int32))] (.int (0 : Int32)) := V139.pad (pad_rep [] (.int (0 : Int32)) 2)
        refine OG.dup X139 hx hby own_d_mk_65 rfl rfl ?_
        refine OG.iconst (v := (0 : Int32)) X139 hx hby own_d_mk_66 (by decide) rfl ?_
        refine OG.iloadN X139 hx hby own_d_mk_67 rfl rfl ?_
        refine OG.sC X139 hx hZ hby e139 f145 0 (by decide) rfl (Nat.le_of_ble_eq_true rfl) own_d_mk_68 rfl ?_
        intro T146 h146 X146 e146 W146 f147
        rw [own_narc hca] at f147
        replace f147 : Arv Z h146 b139 k139 .char (2 : Int32) [(.int (Int32.ofNat ca)), (.int (0 : Int32))] (.int (0 : Int32)) := f147
        have N148 := Fr.snoc X146 N0 gn141
        have f149 := (Safe.ext E139 CH136.1 sf143)
        have CH150 := CHr.trans CH144 (CHr.wr W146 f149 CH144.1)
        refine OG.dup X146 hx hby own_d_mk_69 rfl rfl ?_
        refine OG.iconst (v := (1 : Int32)) X146 hx hby own_d_mk_70 (by decide) rfl ?_
        refine OG.iloadN X146 hx hby own_d_mk_71 rfl rfl ?_
        refine OG.sC X146 hx hZ hby e146 f147 1 (by decide) rfl (Nat.le_of_ble_eq_true rfl) own_d_mk_72 rfl ?_
        intro T151 h151 X151 e151 W151 f152
        rw [own_narc hcb] at f152
        replace f152 : Arv Z h151 b139 k139 .char (2 : Int32) [(.int (Int32.ofNat ca)), (.int (Int32.ofNat cb))] (.int (0 : Int32)) := f152
        have N153 := Fr.snoc X151 N148 gn141
        have f154 := (Safe.wr W146 f149 CH144.1 f149)
        have CH155 := CHr.trans CH150 (CHr.wr W151 f154 CH150.1)
        have f157 := (Exa.wr W151 (Exa.wr W146 (Exa.ext E139 A133)))
        have f158 := (Fld.other W151 (Fld.other W146 (Fld.ext E139 f138) (Or.inl ne140)) (Or.inl ne140))
        have f159 := (Fld.other W151 (Fld.other W146 (Fld.ext E139 f137) (Or.inl ne140)) (Or.inl ne140))
        have f160 := (Old.wr (Old.wr (Old.ext (Old.ext O1 E133) E139) W146 gn141) W151 gn141)
        refine OG.cNH X151 hx hZ hby (by rw [hml]; rfl) hown (y := (⟨"java/lang/String", "<init>", "([C)V"⟩ : MethodName)) rfl rfl (hw _ (List.mem_of_getElem? (i := 32) rfl)) (hw _ (List.mem_of_getElem? (i := 33) rfl)) (hw _ (List.mem_of_getElem? (i := 34) rfl)) (hw _ (List.mem_of_getElem? (i := 6) rfl)) (by decide) (own_rm_s_inits2 l Z a0 hw [] b133 zc b139 k139 ca cb h151 n0 (Nat.le_trans (Nat.le_trans (Nat.le_trans (Nat.le_trans Z0 E133.1) E139.1) (Nat.le_of_eq (Wr.size W146).symm)) (Nat.le_of_eq (Wr.size W151).symm)) f160 S_cs hzc f157 f158 f159 gn134 f152 hca hcb) e151 hS0 (Nat.le_trans (Nat.le_trans (Nat.le_trans (Nat.le_trans (Nat.le_refl _) E133.1) E139.1) (Nat.le_of_eq (Wr.size W146).symm)) (Nat.le_of_eq (Wr.size W151).symm)) (own_hEL hw) CH155.1 (argsL := [(.ref b139)]) (stk := [(.ref b139), (.ref b133), (.ref b133)]) (st := [(.ref b133)]) own_pd_23 rfl rfl rfl (W := 1) rfl (by decide) (by decide) (by decide) (by decide) own_d_mk_73 rfl ?_
        intro T156 L156 v156 X156 S156 Zw156 Ow156 C156 q156
        have f161 := (Safe.wr W151 f154 CH150.1 f154)
        obtain ⟨ta156, bx156, rfl, N156, K156, E_156, Fc_156, Fv_156, Y_156, hl156⟩ := q156
        have CH162 := CHr.trans CH155 (C156)
        have f163 := (CHr.safe C156 (Arv.lt f152) f161)
        have M156 := Fr.app N153 N156
        show OG.Go _ _ _ _ (T156.setTop (mkF m 76 #[.val (.int (Int32.ofNat n)), .val (.int x), .val (.int (Int32.ofNat ca)), .val (.int (Int32.ofNat cb)), .val (.int (Int32.ofNat cc))] [(.ref b133)]))
        refine OG.retAH X156 hx Zw156 hby (own_hEL hw) S156 (Nat.le_refl _) CH162 Bd.returns rfl rfl rfl own_d_mk_76 Bd.notSynchronized (by decide) (by decide) ?_
        have hnn : n = 2 := (own_eqN (k := 2) hn (by decide)).mp hc55_132
        exact ⟨b133, ta156, _, rfl, M156, (Keep.trans (Keep.wr (Keep.wr (Keep.ext (Keep.ext (Keep.refl h0 []) E133) E139) W146 (Or.inr sz142)) W151 (Or.inr sz142)) K156 (allS (Or.inr sz135) all0)), E_156, Fc_156, Fv_156, Y_156, (by rw [hnn]; exact hl156)⟩
      · refine OG.icmpYes (pc' := 77) X0 hx hby own_d_mk_55 (feq hc55_132).2 (by decide) (by decide) ?_
        refine OG.nO X0 hx hZ hby hown (hw _ (List.mem_of_getElem? (i := 30) rfl)) (hw _ (List.mem_of_getElem? (i := 14) rfl)) (hw _ (List.mem_of_getElem? (i := 6) rfl)) e0 own_d_mk_77 (by decide) (by decide) rfl ?_
        intro T164 h164 b164 g164 X164 e164 E164 A164 D164
        have gn165 : n0 ≤ b164 := Nat.le_trans Z0 (Nat.le_of_eq g164.symm)
        have sz166 : h0.size ≤ b164 := Nat.le_trans (Nat.le_refl _) (Nat.le_of_eq g164.symm)
        have CH167 := CHr.trans CH0 (CHr.ext E164 CH0.1)
        have f168 : Fld Z h164 b164 "java/lang/String" "value" "[B" .null := D164 (Or.inr (hw _ (List.mem_of_getElem? (i := 27) rfl))) (ty := (.array .byte)) (by decide)
        have f169 : Fld Z h164 b164 "java/lang/String" "coder" "B" (.int (0 : Int32)) := D164 (Or.inr (hw _ (List.mem_of_getElem? (i := 29) rfl))) (ty := .byte) (by decide)
        refine OG.dup X164 hx hby own_d_mk_80 rfl rfl ?_
        refine OG.iconst (v := (3 : Int32)) X164 hx hby own_d_mk_81 (by decide) rfl ?_
        refine OG.nP (aty := .char) X164 hx hZ hby (hw _ (List.mem_of_getElem? (i := 31) rfl)) e164 (by decide) (cap := 3) (by decide) (by decide) (by decide) (by decide) own_d_mk_82 rfl ?_
        intro T170 h170 k170 b170 g170 X170 e170 E170 V170
        have ne171 : b164 ≠ b170 := Nat.ne_of_lt (Nat.lt_of_lt_of_le (Exa.lt A164) (Nat.le_of_eq g170.symm))
        have gn172 : n0 ≤ b170 := Nat.le_trans (Nat.le_trans Z0 E164.1) (Nat.le_of_eq g170.symm)
        have sz173 : h0.size ≤ b170 := Nat.le_trans (Nat.le_trans (Nat.le_refl _) E164.1) (Nat.le_of_eq g170.symm)
        have sf174 : Safe Z own_EL s.vm h164 b170 := Safe.new (Nat.le_of_eq g170.symm)
        have CH175 := CHr.trans CH167 (CHr.ext E170 CH167.1)
        have f176 : Arv Z h170 b170 k170 .char (3 : Int32) [(.int (0 : Int32)), (.int (0 : Int32)), (.int (0 : Int32))] (.int (0 : Int32)) := V170.pad (pad_rep [] (.int (0 : Int32)) 3)
        refine OG.dup X170 hx hby own_d_mk_84 rfl rfl ?_
        refine OG.iconst (v := (0 : Int32)) X170 hx hby own_d_mk_85 (by decide) rfl ?_
        refine OG.iloadN X170 hx hby own_d_mk_86 rfl rfl ?_
        refine OG.sC X170 hx hZ hby e170 f176 0 (by decide) rfl (Nat.le_of_ble_eq_true rfl) own_d_mk_87 rfl ?_
        intro T177 h177 X177 e177 W177 f178
        rw [own_narc hca] at f178
        replace f178 : Arv Z h177 b170 k170 .char (3 : Int32) [(.int (Int32.ofNat ca)), (.int (0 : Int32)), (.int (0 : Int32))] (.int (0 : Int32)) := f178
        have N179 := Fr.snoc X177 N0 gn172
        have f180 := (Safe.ext E170 CH167.1 sf174)
        have CH181 := CHr.trans CH175 (CHr.wr W177 f180 CH175.1)
        refine OG.dup X177 hx hby own_d_mk_88 rfl rfl ?_
        refine OG.iconst (v := (1 : Int32)) X177 hx hby own_d_mk_89 (by decide) rfl ?_
        refine OG.iloadN X177 hx hby own_d_mk_90 rfl rfl ?_
        refine OG.sC X177 hx hZ hby e177 f178 1 (by decide) rfl (Nat.le_of_ble_eq_true rfl) own_d_mk_91 rfl ?_
        intro T182 h182 X182 e182 W182 f183
        rw [own_narc hcb] at f183
        replace f183 : Arv Z h182 b170 k170 .char (3 : Int32) [(.int (Int32.ofNat ca)), (.int (Int32.ofNat cb)), (.int (0 : Int32))] (.int (0 : Int32)) := f183
        have N184 := Fr.snoc X182 N179 gn172
        have f185 := (Safe.wr W177 f180 CH175.1 f180)
        have CH186 := CHr.trans CH181 (CHr.wr W182 f185 CH181.1)
        refine OG.dup X182 hx hby own_d_mk_92 rfl rfl ?_
        refine OG.iconst (v := (2 : Int32)) X182 hx hby own_d_mk_93 (by decide) rfl ?_
        refine OG.iload X182 hx hby own_d_mk_94 rfl rfl ?_
        refine OG.sC X182 hx hZ hby e182 f183 2 (by decide) rfl (Nat.le_of_ble_eq_true rfl) own_d_mk_96 rfl ?_
        intro T187 h187 X187 e187 W187 f188
        rw [own_narc hcc] at f188
        replace f188 : Arv Z h187 b170 k170 .char (3 : Int32) [(.int (Int32.ofNat ca)), (.int (Int32.ofNat cb)), (.int (Int32.ofNat cc))] (.int (0 : Int32)) := f188
        have N189 := Fr.snoc X187 N184 gn172
        have f190 := (Safe.wr W182 f185 CH181.1 f185)
        have CH191 := CHr.trans CH186 (CHr.wr W187 f190 CH186.1)
        have f193 := (Exa.wr W187 (Exa.wr W182 (Exa.wr W177 (Exa.ext E170 A164))))
        have f194 := (Fld.other W187 (Fld.other W182 (Fld.other W177 (Fld.ext E170 f169) (Or.inl ne171)) (Or.inl ne171)) (Or.inl ne171))
        have f195 := (Fld.other W187 (Fld.other W182 (Fld.other W177 (Fld.ext E170 f168) (Or.inl ne171)) (Or.inl ne171)) (Or.inl ne171))
        have f196 := (Old.wr (Old.wr (Old.wr (Old.ext (Old.ext O1 E164) E170) W177 gn172) W182 gn172) W187 gn172)
        refine OG.cNH X187 hx hZ hby (by rw [hml]; rfl) hown (y := (⟨"java/lang/String", "<init>", "([C)V"⟩ : MethodName)) rfl rfl (hw _ (List.mem_of_getElem? (i := 32) rfl)) (hw _ (List.mem_of_getElem? (i := 33) rfl)) (hw _ (List.mem_of_getElem? (i := 34) rfl)) (hw _ (List.mem_of_getElem? (i := 6) rfl)) (by decide) (own_rm_s_inits3 l Z a0 hw [] b164 zc b170 k170 ca cb cc h187 n0 (Nat.le_trans (Nat.le_trans (Nat.le_trans (Nat.le_trans (Nat.le_trans Z0 E164.1) E170.1) (Nat.le_of_eq (Wr.size W177).symm)) (Nat.le_of_eq (Wr.size W182).symm)) (Nat.le_of_eq (Wr.size W187).symm)) f196 S_cs hzc f193 f194 f195 gn165 f188 hca hcb hcc) e187 hS0 (Nat.le_trans (Nat.le_trans (Nat.le_trans (Nat.le_trans (Nat.le_trans (Nat.le_refl _) E164.1) E170.1) (Nat.le_of_eq (Wr.size W177).symm)) (Nat.le_of_eq (Wr.size W182).symm)) (Nat.le_of_eq (Wr.size W187).symm)) (own_hEL hw) CH191.1 (argsL := [(.ref b170)]) (stk := [(.ref b170), (.ref b164), (.ref b164)]) (st := [(.ref b164)]) own_pd_23 rfl rfl rfl (W := 1) rfl (by decide) (by decide) (by decide) (by decide) own_d_mk_97 rfl ?_
        intro T192 L192 v192 X192 S192 Zw192 Ow192 C192 q192
        have f197 := (Safe.wr W187 f190 CH186.1 f190)
        obtain ⟨ta192, bx192, rfl, N192, K192, E_192, Fc_192, Fv_192, Y_192, hl192⟩ := q192
        have CH198 := CHr.trans CH191 (C192)
        have f199 := (CHr.safe C192 (Arv.lt f188) f197)
        have M192 := Fr.app N189 N192
        show OG.Go _ _ _ _ (T192.setTop (mkF m 100 #[.val (.int (Int32.ofNat n)), .val (.int x), .val (.int (Int32.ofNat ca)), .val (.int (Int32.ofNat cb)), .val (.int (Int32.ofNat cc))] [(.ref b164)]))
        refine OG.retAH X192 hx Zw192 hby (own_hEL hw) S192 (Nat.le_refl _) CH198 Bd.returns rfl rfl rfl own_d_mk_100 Bd.notSynchronized (by decide) (by decide) ?_
        have hn0 : n ≠ 0 := fun q => hc29_101 (by rw [q]; rfl)
        have hn1 : n ≠ 1 := fun q => hc45_123 (by rw [q]; rfl)
        have hn2 : n ≠ 2 := fun q => hc55_132 (by rw [q]; rfl)
        have hnn : n = 3 := by omega
        exact ⟨b164, ta192, _, rfl, M192, (Keep.trans (Keep.wr (Keep.wr (Keep.wr (Keep.ext (Keep.ext (Keep.refl h0 []) E164) E170) W177 (Or.inr sz173)) W182 (Or.inr sz173)) W187 (Or.inr sz173)) K192 (allS (Or.inr sz166) all0)), E_192, Fc_192, Fv_192, Y_192, (by rw [hnn]; exact hl192)⟩
def own_Cache (Z : State) (wc : Addr) (cl : Cell) : Prop := Arr Z Z.heap wc cl (.object "java/lang/Integer") ∧ cl.slots.size = 256 ∧ ∀ j : Int32, ¬ j < 0 → j < 256 → ∃ a, cl.slots[j.toNatClampNeg]? = some (.ref a) ∧ Exa Z Z.heap a "java/lang/Integer"
theorem own_idx {x : Int32} (h : ¬ x < (-128 : Int32)) (h2 : ¬ (127 : Int32) < x) : ¬ (x + 128) < 0 ∧ x + 128 < 256 := by
  rw [Int32.lt_iff_toInt_lt] at h h2
  have e0 : (0 : Int32).toInt = 0 := rfl
  have e1 : (127 : Int32).toInt = 127 := by decide
  have e2 : (128 : Int32).toInt = 128 := by decide
  have e3 : (256 : Int32).toInt = 256 := by decide
  have e4 : (-128 : Int32).toInt = -128 := by decide
  have e : (x + 128).toInt = x.toInt + 128 := by rw [Jvm.Kit.i32_add (by omega) (by omega), e2]
  exact ⟨by rw [Int32.lt_iff_toInt_lt]; omega, by rw [Int32.lt_iff_toInt_lt]; omega⟩
theorem own_in {j : Int32} (h1 : ¬ j < 0) (h2 : j < 256) : ¬ (j < 0 ∨ 256 ≤ j.toNatClampNeg) := by
  rw [Int32.lt_iff_toInt_lt] at h1 h2
  have e0 : (0 : Int32).toInt = 0 := rfl
  have e3 : (256 : Int32).toInt = 256 := by decide
  simp only [Int32.lt_iff_toInt_lt, Int32.toNatClampNeg]
  omega
theorem own_d_ninit_0 : decode jdk_18_method_1_code 0 = .ok (.aload_n 0, 1) := by decide +kernel
theorem own_d_ninit_1 : decode jdk_18_method_1_code 1 = .ok (.invokespecial 1, 3) := by decide +kernel
theorem own_d_ninit_4 : decode jdk_18_method_1_code 4 = .ok (.return_, 1) := by decide +kernel
theorem own_pn_ninit : plainName "java/lang/Number" = true := by first | (simp [plainName, overriddenIn]; done) | decide +kernel
theorem own_ef_ninit (m : MethodId) (x0 : Addr)  : entryFrame m #[(.ref x0)] 1 = mkF m 0 #[.val (.ref x0)] [] := by first | (simp [entryFrame, mkF, argsToLocals, Value.category]; done) | rfl
def own_Q_ninit (Z : State) (a1 : Addr) (h0 : Heap) (n0 : Nat) (v : Option Value) (h : Heap) (L : List Loc) : Prop := v = none ∧ Fr n0 L ∧ h = h0
set_option maxRecDepth 65536 in
set_option maxHeartbeats 40000000 in
theorem own_rm_ninit (l : Launch) (Z : State) (a0 : Array Value) (hw : ∀ d ∈ tables_1, d.before a0 Z = true) (ws : List Jvm.Cond) (a1 : Addr) (h0 : Heap) (n0 : Nat) (Z0 : n0 ≤ h0.size) :
    MetFree l (⟨"java/lang/Number", "<init>", "()V"⟩ : MethodName) (head1 (Jvm.Cond.code (⟨"java/lang/Number", "<init>", "()V"⟩ : MethodName) jdk_18_method_1_code 1 none :: ws) ({ frames := 1, cells := 0, slots := 0, locals := 12 } : Room)) (fun a U => a = #[(.ref a1)] ∧ Z.Warmed39 U.vm ∧ U.heap = h0) (fun _ _ _ _ _ => True) (fun _ U o U' => ∃ v L, o = .returned v ∧ own_Q_ninit Z a1 h0 n0 v U'.heap L ∧ FrameEnd U o U' L ({ frames := 1, cells := 0, slots := 0, locals := 12 } : Room).cells ({ frames := 1, cells := 0, slots := 0, locals := 12 } : Room).slots) := by
  refine MetFree.of_bodySF (plainFor_of_name own_pn_ninit) hisR ?_
  intro p e s m args below meth c s₁ Bd hml0 hP hK
  obtain ⟨rfl, hZ, hh⟩ := hP
  have hx := Bd.exec
  have hby := Bd.bytes
  have hml : c.maxLocals = 1 := hml0
  have hown : s.vm.findClass "java/lang/Number" = some m.cls := findClass_of_methodNamed Bd.named
  have hnm := (name_of_methodNamed Bd.named Bd.method).1
  have X0 : Stand p l e ({ frames := 1, cells := 0, slots := 0, locals := 12 } : Room) s m #[(.ref a1)] below meth c s₁ [] 0 0 := Stand.of_body Bd
  have e0 : s₁.heap = h0 := by rw [← hh, Bd.state]; rfl
  have N0 := Fr.nil n0
  show OG.Go p.tables e below (OG.GP (own_Q_ninit Z a1 h0 n0) ({ frames := 1, cells := 0, slots := 0, locals := 12 } : Room).cells ({ frames := 1, cells := 0, slots := 0, locals := 12 } : Room).slots s) (s₁.setTop (entryFrame m #[(.ref a1)] 1))
  refine OG.Go.cast (own_ef_ninit m a1) ?_
  refine OG.aloadN X0 hx hby own_d_ninit_0 rfl rfl rfl ?_
  refine OG.iO X0 hx hZ hby hown (by rw [hml]; rfl) (hw _ (List.mem_of_getElem? (i := 247) rfl)) (hw _ (List.mem_of_getElem? (i := 24) rfl)) (hw _ (List.mem_of_getElem? (i := 25) rfl)) e0 (W := 0) rfl (by decide) (by decide) own_d_ninit_1 rfl ?_
  intro T101 X101 e101
  refine OG.retV X101 hx hby Bd.returns own_d_ninit_4 Bd.notSynchronized (by decide) (by decide) ?_
  exact ⟨rfl, N0, e101⟩
theorem own_d_iinit_0 : decode jdk_33_method_23_code 0 = .ok (.aload_n 0, 1) := by decide +kernel
theorem own_d_iinit_1 : decode jdk_33_method_23_code 1 = .ok (.invokespecial 202, 3) := by decide +kernel
theorem own_d_iinit_4 : decode jdk_33_method_23_code 4 = .ok (.aload_n 0, 1) := by decide +kernel
theorem own_d_iinit_5 : decode jdk_33_method_23_code 5 = .ok (.iload_n 1, 1) := by decide +kernel
theorem own_d_iinit_6 : decode jdk_33_method_23_code 6 = .ok (.putfield 205, 3) := by decide +kernel
theorem own_d_iinit_9 : decode jdk_33_method_23_code 9 = .ok (.return_, 1) := by decide +kernel
theorem own_pn_iinit : plainName "java/lang/Integer" = true := by first | (simp [plainName, overriddenIn]; done) | decide +kernel
theorem own_ef_iinit (m : MethodId) (x0 : Addr) (x1 : Int32)  : entryFrame m #[(.ref x0), (.int x1)] 2 = mkF m 0 #[.val (.ref x0), .val (.int x1)] [] := by first | (simp [entryFrame, mkF, argsToLocals, Value.category]; done) | rfl
def own_Q_iinit (Z : State) (a1 : Addr) (p2 : Int32) (h0 : Heap) (n0 : Nat) (v : Option Value) (h : Heap) (L : List Loc) : Prop := v = none ∧ Fr n0 L ∧ Keep h0 h [a1] ∧ Exa Z h a1 "java/lang/Integer"
set_option maxRecDepth 65536 in
set_option maxHeartbeats 40000000 in
theorem own_rm_iinit (l : Launch) (Z : State) (a0 : Array Value) (hw : ∀ d ∈ tables_1, d.before a0 Z = true) (ws : List Jvm.Cond) (a1 : Addr) (p2 : Int32) (h0 : Heap) (n0 : Nat) (Z0 : n0 ≤ h0.size) (E1 : Exa Z h0 a1 "java/lang/Integer") (F1 : Fld Z h0 a1 "java/lang/Integer" "value" "I" (.int (0 : Int32))) (g1 : n0 ≤ a1) :
    MetFree l (⟨"java/lang/Integer", "<init>", "(I)V"⟩ : MethodName) (head1 (Jvm.Cond.code (⟨"java/lang/Integer", "<init>", "(I)V"⟩ : MethodName) jdk_33_method_23_code 2 none :: ws) ({ frames := 2, cells := 0, slots := 0, locals := 24 } : Room)) (fun a U => a = #[(.ref a1), (.int p2)] ∧ Z.Warmed39 U.vm ∧ U.heap = h0) (fun _ _ _ _ _ => True) (fun _ U o U' => ∃ v L, o = .returned v ∧ own_Q_iinit Z a1 p2 h0 n0 v U'.heap L ∧ FrameEnd U o U' L ({ frames := 2, cells := 0, slots := 0, locals := 24 } : Room).cells ({ frames := 2, cells := 0, slots := 0, locals := 24 } : Room).slots) := by
  refine MetFree.of_bodySF (plainFor_of_name own_pn_iinit) hisR ?_
  intro p e s m args below meth c s₁ Bd hml0 hP hK
  obtain ⟨rfl, hZ, hh⟩ := hP
  have hx := Bd.exec
  have hby := Bd.bytes
  have hml : c.maxLocals = 2 := hml0
  have hown : s.vm.findClass "java/lang/Integer" = some m.cls := findClass_of_methodNamed Bd.named
  have hnm := (name_of_methodNamed Bd.named Bd.method).1
  have X0 : Stand p l e ({ frames := 2, cells := 0, slots := 0, locals := 24 } : Room) s m #[(.ref a1), (.int p2)] below meth c s₁ [] 0 0 := Stand.of_body Bd
  have e0 : s₁.heap = h0 := by rw [← hh, Bd.state]; rfl
  have N0 := Fr.nil n0
  show OG.Go p.tables e below (OG.GP (own_Q_iinit Z a1 p2 h0 n0) ({ frames := 2, cells := 0, slots := 0, locals := 24 } : Room).cells ({ frames := 2, cells := 0, slots := 0, locals := 24 } : Room).slots s) (s₁.setTop (entryFrame m #[(.ref a1), (.int p2)] 2))
  refine OG.Go.cast (own_ef_iinit m a1 p2) ?_
  refine OG.aloadN X0 hx hby own_d_iinit_0 rfl rfl rfl ?_
  refine OG.cN X0 hx hZ hby (by rw [hml]; rfl) hown (y := (⟨"java/lang/Number", "<init>", "()V"⟩ : MethodName)) rfl rfl (hw _ (List.mem_of_getElem? (i := 241) rfl)) (hw _ (List.mem_of_getElem? (i := 242) rfl)) (hw _ (List.mem_of_getElem? (i := 246) rfl)) (hw _ (List.mem_of_getElem? (i := 245) rfl)) (by decide) (own_rm_ninit l Z a0 hw [] a1 h0 n0 Z0) e0 (argsL := []) (stk := [(.ref a1)]) (st := []) own_pd_25 rfl rfl rfl (W := 0) rfl (by decide) (by decide) (by decide) (by decide) own_d_iinit_1 rfl ?_
  intro T101 L101 v101 X101 q101
  obtain ⟨rfl, N101, e101⟩ := q101
  have M101 := Fr.app N0 N101
  show OG.Go _ _ _ _ (T101.setTop (mkF m 4 #[.val (.ref a1), .val (.int p2)] []))
  refine OG.aloadN X101 hx hby own_d_iinit_4 rfl rfl rfl ?_
  refine OG.iloadN X101 hx hby own_d_iinit_5 rfl rfl ?_
  refine OG.pF X101 hx hZ hby hown (hw _ (List.mem_of_getElem? (i := 248) rfl)) Via.refl e101 F1 E1 (Or.inr ⟨(hw _ (List.mem_of_getElem? (i := 249) rfl)), rfl, hnm⟩) (hw _ (List.mem_of_getElem? (i := 236) rfl)) (ty := .int) (by decide) rfl rfl own_d_iinit_6 rfl ?_
  intro T102 h102 X102 e102 W102
  have f103 := Fld.same W102 F1
  have N104 := Fr.snoc X102 M101 g1
  refine OG.retV X102 hx hby Bd.returns own_d_iinit_9 Bd.notSynchronized (by decide) (by decide) ?_
  have f105 := (Exa.wr W102 E1)
  rw [e102]
  exact ⟨rfl, N104, (Keep.wr (Keep.refl h0 [a1]) W102 (Or.inl (by simp))), f105⟩
theorem own_d_ivalueOf_0 : decode jdk_33_method_22_code 0 = .ok (.iload_n 0, 1) := by decide +kernel
theorem own_d_ivalueOf_1 : decode jdk_33_method_22_code 1 = .ok (.bipush (-128), 2) := by decide +kernel
theorem own_d_ivalueOf_3 : decode jdk_33_method_22_code 3 = .ok (.if_icmp .lt 20, 3) := by decide +kernel
theorem own_d_ivalueOf_6 : decode jdk_33_method_22_code 6 = .ok (.iload_n 0, 1) := by decide +kernel
theorem own_d_ivalueOf_7 : decode jdk_33_method_22_code 7 = .ok (.getstatic 191, 3) := by decide +kernel
theorem own_d_ivalueOf_10 : decode jdk_33_method_22_code 10 = .ok (.if_icmp .gt 13, 3) := by decide +kernel
theorem own_d_ivalueOf_13 : decode jdk_33_method_22_code 13 = .ok (.getstatic 195, 3) := by decide +kernel
theorem own_d_ivalueOf_16 : decode jdk_33_method_22_code 16 = .ok (.iload_n 0, 1) := by decide +kernel
theorem own_d_ivalueOf_17 : decode jdk_33_method_22_code 17 = .ok (.sipush 128, 3) := by decide +kernel
theorem own_d_ivalueOf_20 : decode jdk_33_method_22_code 20 = .ok (.iadd, 1) := by decide +kernel
theorem own_d_ivalueOf_21 : decode jdk_33_method_22_code 21 = .ok (.aaload, 1) := by decide +kernel
theorem own_d_ivalueOf_22 : decode jdk_33_method_22_code 22 = .ok (.areturn, 1) := by decide +kernel
theorem own_d_ivalueOf_23 : decode jdk_33_method_22_code 23 = .ok (.new 1, 3) := by decide +kernel
theorem own_d_ivalueOf_26 : decode jdk_33_method_22_code 26 = .ok (.dup, 1) := by decide +kernel
theorem own_d_ivalueOf_27 : decode jdk_33_method_22_code 27 = .ok (.iload_n 0, 1) := by decide +kernel
theorem own_d_ivalueOf_28 : decode jdk_33_method_22_code 28 = .ok (.invokespecial 199, 3) := by decide +kernel
theorem own_d_ivalueOf_31 : decode jdk_33_method_22_code 31 = .ok (.areturn, 1) := by decide +kernel
theorem own_pn_ivalueOf : plainName "java/lang/Integer" = true := by first | (simp [plainName, overriddenIn]; done) | decide +kernel
theorem own_ef_ivalueOf (m : MethodId) (x0 : Int32)  : entryFrame m #[(.int x0)] 1 = mkF m 0 #[.val (.int x0)] [] := by first | (simp [entryFrame, mkF, argsToLocals, Value.category]; done) | rfl
def own_Q_ivalueOf (Z : State) (p1 : Int32) (wc : Addr) (cl : Cell) (h0 : Heap) (n0 : Nat) (v : Option Value) (h : Heap) (L : List Loc) : Prop := ∃ a, v = some (.ref a) ∧ Fr n0 L ∧ Keep h0 h [] ∧ Exa Z h a "java/lang/Integer"
set_option maxRecDepth 65536 in
set_option maxHeartbeats 40000000 in
theorem own_rm_ivalueOf (l : Launch) (Z : State) (a0 : Array Value) (hw : ∀ d ∈ tables_1, d.before a0 Z = true) (ws : List Jvm.Cond) (p1 : Int32) (wc : Addr) (cl : Cell) (h0 : Heap) (n0 : Nat) (Z0 : n0 ≤ h0.size) (O1 : Old Z n0 h0) (S_high : Sta Z Z.heap "java/lang/Integer$IntegerCache" "high" "I" (.int (127 : Int32))) (S_cache : Sta Z Z.heap "java/lang/Integer$IntegerCache" "cache" "[Ljava/lang/Integer;" (.ref wc)) (Ca : own_Cache Z wc cl) :
    MetFree l (⟨"java/lang/Integer", "valueOf", "(I)Ljava/lang/Integer;"⟩ : MethodName) (head1 (Jvm.Cond.code (⟨"java/lang/Integer", "valueOf", "(I)Ljava/lang/Integer;"⟩ : MethodName) jdk_33_method_22_code 1 (some (.object "java/lang/Integer")) :: ws) ({ frames := 3, cells := 1, slots := 1, locals := 38 } : Room)) (fun a U => a = #[(.int p1)] ∧ Z.Warmed39 U.vm ∧ U.heap = h0) (fun _ _ _ _ _ => True) (fun _ U o U' => ∃ v L, o = .returned v ∧ own_Q_ivalueOf Z p1 wc cl h0 n0 v U'.heap L ∧ FrameEnd U o U' L ({ frames := 3, cells := 1, slots := 1, locals := 38 } : Room).cells ({ frames := 3, cells := 1, slots := 1, locals := 38 } : Room).slots) := by
  refine MetFree.of_bodySF (plainFor_of_name own_pn_ivalueOf) hisR ?_
  intro p e s m args below meth c s₁ Bd hml0 hP hK
  obtain ⟨rfl, hZ, hh⟩ := hP
  have hx := Bd.exec
  have hby := Bd.bytes
  have hml : c.maxLocals = 1 := hml0
  have hown : s.vm.findClass "java/lang/Integer" = some m.cls := findClass_of_methodNamed Bd.named
  have hnm := (name_of_methodNamed Bd.named Bd.method).1
  have X0 : Stand p l e ({ frames := 3, cells := 1, slots := 1, locals := 38 } : Room) s m #[(.int p1)] below meth c s₁ [] 0 0 := Stand.of_body Bd
  have e0 : s₁.heap = h0 := by rw [← hh, Bd.state]; rfl
  have N0 := Fr.nil n0
  show OG.Go p.tables e below (OG.GP (own_Q_ivalueOf Z p1 wc cl h0 n0) ({ frames := 3, cells := 1, slots := 1, locals := 38 } : Room).cells ({ frames := 3, cells := 1, slots := 1, locals := 38 } : Room).slots s) (s₁.setTop (entryFrame m #[(.int p1)] 1))
  refine OG.Go.cast (own_ef_ivalueOf m p1) ?_
  refine OG.iloadN X0 hx hby own_d_ivalueOf_0 rfl rfl ?_
  refine OG.bipush (v := (-128 : Int32)) X0 hx hby own_d_ivalueOf_1 (by decide) rfl ?_
  by_cases hc3_101 : p1 < (-128 : Int32)
  · refine OG.icmpYes (pc' := 23) X0 hx hby own_d_ivalueOf_3 (tlt hc3_101).1 (by decide) (by decide) ?_
    refine OG.nO X0 hx hZ hby hown (hw _ (List.mem_of_getElem? (i := 235) rfl)) (hw _ (List.mem_of_getElem? (i := 236) rfl)) (hw _ (List.mem_of_getElem? (i := 46) rfl)) e0 own_d_ivalueOf_23 (by decide) (by decide) rfl ?_
    intro T102 h102 b102 g102 X102 e102 E102 A102 D102
    have gn103 : n0 ≤ b102 := Nat.le_trans Z0 (Nat.le_of_eq g102.symm)
    have sz104 : h0.size ≤ b102 := Nat.le_trans (Nat.le_refl _) (Nat.le_of_eq g102.symm)
    have f105 : Fld Z h102 b102 "java/lang/Integer" "value" "I" (.int (0 : Int32)) := D102 (Or.inr (hw _ (List.mem_of_getElem? (i := 249) rfl))) (ty := .int) (by decide)
    refine OG.dup X102 hx hby own_d_ivalueOf_26 rfl rfl ?_
    refine OG.iloadN X102 hx hby own_d_ivalueOf_27 rfl rfl ?_
    refine OG.cN X102 hx hZ hby (by rw [hml]; rfl) hown (y := (⟨"java/lang/Integer", "<init>", "(I)V"⟩ : MethodName)) rfl rfl (hw _ (List.mem_of_getElem? (i := 237) rfl)) (hw _ (List.mem_of_getElem? (i := 238) rfl)) (hw _ (List.mem_of_getElem? (i := 240) rfl)) (hw _ (List.mem_of_getElem? (i := 46) rfl)) (by decide) (own_rm_iinit l Z a0 hw [] b102 p1 h102 n0 (Nat.le_trans Z0 E102.1) A102 f105 gn103) e102 (argsL := [(.int p1)]) (stk := [(.int p1), (.ref b102), (.ref b102)]) (st := [(.ref b102)]) own_pd_5 rfl rfl rfl (W := 1) rfl (by decide) (by decide) (by decide) (by decide) own_d_ivalueOf_28 rfl ?_
    intro T106 L106 v106 X106 q106
    obtain ⟨rfl, N106, K106, Ea106⟩ := q106
    have M106 := Fr.app N0 N106
    show OG.Go _ _ _ _ (T106.setTop (mkF m 31 #[.val (.int p1)] [(.ref b102)]))
    refine OG.retA X106 hx hby Bd.returns rfl rfl rfl own_d_ivalueOf_31 Bd.notSynchronized (by decide) (by decide) ?_
    exact ⟨b102, rfl, M106, (Keep.trans (Keep.ext (Keep.refl h0 []) E102) K106 (allS (Or.inr sz104) all0)), Ea106⟩
  · refine OG.icmpNo X0 hx hby own_d_ivalueOf_3 (flt hc3_101).1 rfl ?_
    refine OG.iloadN X0 hx hby own_d_ivalueOf_6 rfl rfl ?_
    have f108 := Sta.ext O1.2 S_high
    refine OG.gS X0 hx hZ hby hown (hw _ (List.mem_of_getElem? (i := 48) rfl)) Via.refl e0 f108 own_d_ivalueOf_7 rfl ?_
    intro T107 X107 e107
    by_cases hc10_109 : (127 : Int32) < p1
    · refine OG.icmpYes (pc' := 23) X107 hx hby own_d_ivalueOf_10 (tlt hc10_109).2.2.1 (by decide) (by decide) ?_
      refine OG.nO X107 hx hZ hby hown (hw _ (List.mem_of_getElem? (i := 235) rfl)) (hw _ (List.mem_of_getElem? (i := 236) rfl)) (hw _ (List.mem_of_getElem? (i := 46) rfl)) e107 own_d_ivalueOf_23 (by decide) (by decide) rfl ?_
      intro T110 h110 b110 g110 X110 e110 E110 A110 D110
      have gn111 : n0 ≤ b110 := Nat.le_trans Z0 (Nat.le_of_eq g110.symm)
      have sz112 : h0.size ≤ b110 := Nat.le_trans (Nat.le_refl _) (Nat.le_of_eq g110.symm)
      have f113 : Fld Z h110 b110 "java/lang/Integer" "value" "I" (.int (0 : Int32)) := D110 (Or.inr (hw _ (List.mem_of_getElem? (i := 249) rfl))) (ty := .int) (by decide)
      refine OG.dup X110 hx hby own_d_ivalueOf_26 rfl rfl ?_
      refine OG.iloadN X110 hx hby own_d_ivalueOf_27 rfl rfl ?_
      refine OG.cN X110 hx hZ hby (by rw [hml]; rfl) hown (y := (⟨"java/lang/Integer", "<init>", "(I)V"⟩ : MethodName)) rfl rfl (hw _ (List.mem_of_getElem? (i := 237) rfl)) (hw _ (List.mem_of_getElem? (i := 238) rfl)) (hw _ (List.mem_of_getElem? (i := 240) rfl)) (hw _ (List.mem_of_getElem? (i := 46) rfl)) (by decide) (own_rm_iinit l Z a0 hw [] b110 p1 h110 n0 (Nat.le_trans Z0 E110.1) A110 f113 gn111) e110 (argsL := [(.int p1)]) (stk := [(.int p1), (.ref b110), (.ref b110)]) (st := [(.ref b110)]) own_pd_5 rfl rfl rfl (W := 1) rfl (by decide) (by decide) (by decide) (by decide) own_d_ivalueOf_28 rfl ?_
      intro T114 L114 v114 X114 q114
      obtain ⟨rfl, N114, K114, Ea114⟩ := q114
      have M114 := Fr.app N0 N114
      show OG.Go _ _ _ _ (T114.setTop (mkF m 31 #[.val (.int p1)] [(.ref b110)]))
      refine OG.retA X114 hx hby Bd.returns rfl rfl rfl own_d_ivalueOf_31 Bd.notSynchronized (by decide) (by decide) ?_
      exact ⟨b110, rfl, M114, (Keep.trans (Keep.ext (Keep.refl h0 []) E110) K114 (allS (Or.inr sz112) all0)), Ea114⟩
    · refine OG.icmpNo X107 hx hby own_d_ivalueOf_10 (flt hc10_109).2.2.1 rfl ?_
      have f116 := Sta.ext O1.2 S_cache
      refine OG.gS X107 hx hZ hby hown (hw _ (List.mem_of_getElem? (i := 50) rfl)) Via.refl e107 f116 own_d_ivalueOf_13 rfl ?_
      intro T115 X115 e115
      refine OG.iloadN X115 hx hby own_d_ivalueOf_16 rfl rfl ?_
      refine OG.sipush (v := (128 : Int32)) X115 hx hby own_d_ivalueOf_17 (by decide) rfl ?_
      refine OG.iadd X115 hx hby own_d_ivalueOf_20 rfl ?_
      obtain ⟨jl, jh⟩ := own_idx hc3_101 hc10_109
      obtain ⟨a9, q1, q2⟩ := Ca.2.2 (p1 + (128 : Int32)) jl jh
      have A9 := Arr.ext O1.2 Ca.1
      have q2' := Exa.ext O1.2 q2
      refine OG.Go.step (fun t hr => X115.aaload hx (j := (p1 + (128 : Int32))) (v := .ref a9) (by rw [e115]; exact A9.1) (State.isArrayOf_alike hZ.alike A9.2.1) rfl A9.2.2 (by rw [Ca.2.1]; exact own_in jl jh) q1 (g := (mkF m 21 #[.val (.int p1)] [(.int (p1 + (128 : Int32))), (.ref wc)])) rfl rfl (hb hby own_d_ivalueOf_21) t hr) ?_
      show OG.Go _ _ _ _ (T115.setTop (mkF m 22 #[.val (.int p1)] [(.ref a9)]))
      refine OG.retA X115 hx hby Bd.returns rfl rfl rfl own_d_ivalueOf_22 Bd.notSynchronized (by decide) (by decide) ?_
      rw [e115]
      exact ⟨a9, rfl, N0, (Keep.refl h0 []), q2'⟩
theorem own_d_mapof_0 : decode jdk_72_method_26_code 0 = .ok (.getstatic 81, 3) := by decide +kernel
theorem own_d_mapof_3 : decode jdk_72_method_26_code 3 = .ok (.areturn, 1) := by decide +kernel
theorem own_pn_mapof : plainName "java/util/Map" = true := by first | (simp [plainName, overriddenIn]; done) | decide +kernel
theorem own_ef_mapof (m : MethodId)   : entryFrame m #[] 0 = mkF m 0 #[] [] := by first | (simp [entryFrame, mkF, argsToLocals, Value.category]; done) | rfl
def own_Q_mapof (Z : State) (em : Addr) (h0 : Heap) (n0 : Nat) (v : Option Value) (h : Heap) (L : List Loc) : Prop := v = some (.ref em) ∧ Fr n0 L ∧ h = h0
set_option maxRecDepth 65536 in
set_option maxHeartbeats 40000000 in
theorem own_rm_mapof (l : Launch) (Z : State) (a0 : Array Value) (hw : ∀ d ∈ tables_1, d.before a0 Z = true) (ws : List Jvm.Cond) (em : Addr) (h0 : Heap) (n0 : Nat) (Z0 : n0 ≤ h0.size) (O1 : Old Z n0 h0) (S_em : Sta Z Z.heap "java/util/ImmutableCollections" "EMPTY_MAP" "Ljava/util/ImmutableCollections$MapN;" (.ref em)) (E_em : Exa Z Z.heap em "java/util/ImmutableCollections$MapN") :
    MetFree l (⟨"java/util/Map", "of", "()Ljava/util/Map;"⟩ : MethodName) (head1 (Jvm.Cond.code (⟨"java/util/Map", "of", "()Ljava/util/Map;"⟩ : MethodName) jdk_72_method_26_code 0 (some (.object "java/util/Map")) :: ws) ({ frames := 0, cells := 0, slots := 0, locals := 0 } : Room)) (fun a U => a = #[] ∧ Z.Warmed39 U.vm ∧ U.heap = h0) (fun _ _ _ _ _ => True) (fun _ U o U' => ∃ v L, o = .returned v ∧ own_Q_mapof Z em h0 n0 v U'.heap L ∧ FrameEnd U o U' L ({ frames := 0, cells := 0, slots := 0, locals := 0 } : Room).cells ({ frames := 0, cells := 0, slots := 0, locals := 0 } : Room).slots) := by
  refine MetFree.of_bodySF (plainFor_of_name own_pn_mapof) hisR ?_
  intro p e s m args below meth c s₁ Bd hml0 hP hK
  obtain ⟨rfl, hZ, hh⟩ := hP
  have hx := Bd.exec
  have hby := Bd.bytes
  have hml : c.maxLocals = 0 := hml0
  have hown : s.vm.findClass "java/util/Map" = some m.cls := findClass_of_methodNamed Bd.named
  have hnm := (name_of_methodNamed Bd.named Bd.method).1
  have X0 : Stand p l e ({ frames := 0, cells := 0, slots := 0, locals := 0 } : Room) s m #[] below meth c s₁ [] 0 0 := Stand.of_body Bd
  have e0 : s₁.heap = h0 := by rw [← hh, Bd.state]; rfl
  have N0 := Fr.nil n0
  show OG.Go p.tables e below (OG.GP (own_Q_mapof Z em h0 n0) ({ frames := 0, cells := 0, slots := 0, locals := 0 } : Room).cells ({ frames := 0, cells := 0, slots := 0, locals := 0 } : Room).slots s) (s₁.setTop (entryFrame m #[] 0))
  refine OG.Go.cast (own_ef_mapof m ) ?_
  have f102 := Sta.ext O1.2 S_em
  refine OG.gS X0 hx hZ hby hown (hw _ (List.mem_of_getElem? (i := 55) rfl)) Via.refl e0 f102 own_d_mapof_0 rfl ?_
  intro T101 X101 e101
  refine OG.retA X101 hx hby Bd.returns rfl rfl rfl own_d_mapof_3 Bd.notSynchronized (by decide) (by decide) ?_
  exact ⟨rfl, N0, e101⟩
theorem own_d_mapcopy_0 : decode jdk_72_method_39_code 0 = .ok (.aload_n 0, 1) := by decide +kernel
theorem own_d_mapcopy_1 : decode jdk_72_method_39_code 1 = .ok (.instanceof 101, 3) := by decide +kernel
theorem own_d_mapcopy_4 : decode jdk_72_method_39_code 4 = .ok (.ifCond .eq 5, 3) := by decide +kernel
theorem own_d_mapcopy_7 : decode jdk_72_method_39_code 7 = .ok (.aload_n 0, 1) := by decide +kernel
theorem own_d_mapcopy_8 : decode jdk_72_method_39_code 8 = .ok (.areturn, 1) := by decide +kernel
theorem own_pn_mapcopy : plainName "java/util/Map" = true := by first | (simp [plainName, overriddenIn]; done) | decide +kernel
theorem own_ef_mapcopy (m : MethodId) (x0 : Addr)  : entryFrame m #[(.ref x0)] 1 = mkF m 0 #[.val (.ref x0)] [] := by first | (simp [entryFrame, mkF, argsToLocals, Value.category]; done) | rfl
def own_Q_mapcopy (Z : State) (em : Addr) (h0 : Heap) (n0 : Nat) (v : Option Value) (h : Heap) (L : List Loc) : Prop := v = some (.ref em) ∧ Fr n0 L ∧ h = h0
set_option maxRecDepth 65536 in
set_option maxHeartbeats 40000000 in
theorem own_rm_mapcopy (l : Launch) (Z : State) (a0 : Array Value) (hw : ∀ d ∈ tables_1, d.before a0 Z = true) (ws : List Jvm.Cond) (em : Addr) (h0 : Heap) (n0 : Nat) (Z0 : n0 ≤ h0.size) (E1 : Exa Z h0 em "java/util/ImmutableCollections$MapN") :
    MetFree l (⟨"java/util/Map", "copyOf", "(Ljava/util/Map;)Ljava/util/Map;"⟩ : MethodName) (head1 (Jvm.Cond.code (⟨"java/util/Map", "copyOf", "(Ljava/util/Map;)Ljava/util/Map;"⟩ : MethodName) jdk_72_method_39_code 1 (some (.object "java/util/Map")) :: ws) ({ frames := 0, cells := 0, slots := 0, locals := 0 } : Room)) (fun a U => a = #[(.ref em)] ∧ Z.Warmed39 U.vm ∧ U.heap = h0) (fun _ _ _ _ _ => True) (fun _ U o U' => ∃ v L, o = .returned v ∧ own_Q_mapcopy Z em h0 n0 v U'.heap L ∧ FrameEnd U o U' L ({ frames := 0, cells := 0, slots := 0, locals := 0 } : Room).cells ({ frames := 0, cells := 0, slots := 0, locals := 0 } : Room).slots) := by
  refine MetFree.of_bodySF (plainFor_of_name own_pn_mapcopy) hisR ?_
  intro p e s m args below meth c s₁ Bd hml0 hP hK
  obtain ⟨rfl, hZ, hh⟩ := hP
  have hx := Bd.exec
  have hby := Bd.bytes
  have hml : c.maxLocals = 1 := hml0
  have hown : s.vm.findClass "java/util/Map" = some m.cls := findClass_of_methodNamed Bd.named
  have hnm := (name_of_methodNamed Bd.named Bd.method).1
  have X0 : Stand p l e ({ frames := 0, cells := 0, slots := 0, locals := 0 } : Room) s m #[(.ref em)] below meth c s₁ [] 0 0 := Stand.of_body Bd
  have e0 : s₁.heap = h0 := by rw [← hh, Bd.state]; rfl
  have N0 := Fr.nil n0
  show OG.Go p.tables e below (OG.GP (own_Q_mapcopy Z em h0 n0) ({ frames := 0, cells := 0, slots := 0, locals := 0 } : Room).cells ({ frames := 0, cells := 0, slots := 0, locals := 0 } : Room).slots s) (s₁.setTop (entryFrame m #[(.ref em)] 1))
  refine OG.Go.cast (own_ef_mapcopy m em) ?_
  refine OG.aloadN X0 hx hby own_d_mapcopy_0 rfl rfl rfl ?_
  refine OG.iY X0 hx hZ hby hown (hw _ (List.mem_of_getElem? (i := 78) rfl)) e0 (Ins.of_exa E1 (hw _ (List.mem_of_getElem? (i := 79) rfl))) own_d_mapcopy_1 rfl ?_
  intro T101 X101 e101
  refine OG.ifNo X101 hx hby own_d_mapcopy_4 (feq (by decide)).1 rfl ?_
  refine OG.aloadN X101 hx hby own_d_mapcopy_7 rfl rfl rfl ?_
  refine OG.retA X101 hx hby Bd.returns rfl rfl rfl own_d_mapcopy_8 Bd.notSynchronized (by decide) (by decide) ?_
  exact ⟨rfl, N0, e101⟩
theorem own_d_vfinit_0 : decode prog_69_method_1_code 0 = .ok (.aload_n 0, 1) := by decide +kernel
theorem own_d_vfinit_1 : decode prog_69_method_1_code 1 = .ok (.invokespecial 1, 3) := by decide +kernel
theorem own_d_vfinit_4 : decode prog_69_method_1_code 4 = .ok (.aload_n 0, 1) := by decide +kernel
theorem own_d_vfinit_5 : decode prog_69_method_1_code 5 = .ok (.aload_n 1, 1) := by decide +kernel
theorem own_d_vfinit_6 : decode prog_69_method_1_code 6 = .ok (.putfield 7, 3) := by decide +kernel
theorem own_d_vfinit_9 : decode prog_69_method_1_code 9 = .ok (.aload_n 0, 1) := by decide +kernel
theorem own_d_vfinit_10 : decode prog_69_method_1_code 10 = .ok (.aload_n 2, 1) := by decide +kernel
theorem own_d_vfinit_11 : decode prog_69_method_1_code 11 = .ok (.putfield 13, 3) := by decide +kernel
theorem own_d_vfinit_14 : decode prog_69_method_1_code 14 = .ok (.aload_n 0, 1) := by decide +kernel
theorem own_d_vfinit_15 : decode prog_69_method_1_code 15 = .ok (.aload_n 3, 1) := by decide +kernel
theorem own_d_vfinit_16 : decode prog_69_method_1_code 16 = .ok (.putfield 16, 3) := by decide +kernel
theorem own_d_vfinit_19 : decode prog_69_method_1_code 19 = .ok (.aload_n 0, 1) := by decide +kernel
theorem own_d_vfinit_20 : decode prog_69_method_1_code 20 = .ok (.aload 4, 2) := by decide +kernel
theorem own_d_vfinit_22 : decode prog_69_method_1_code 22 = .ok (.putfield 19, 3) := by decide +kernel
theorem own_d_vfinit_25 : decode prog_69_method_1_code 25 = .ok (.aload_n 0, 1) := by decide +kernel
theorem own_d_vfinit_26 : decode prog_69_method_1_code 26 = .ok (.aload 5, 2) := by decide +kernel
theorem own_d_vfinit_28 : decode prog_69_method_1_code 28 = .ok (.putfield 22, 3) := by decide +kernel
theorem own_d_vfinit_31 : decode prog_69_method_1_code 31 = .ok (.aload_n 0, 1) := by decide +kernel
theorem own_d_vfinit_32 : decode prog_69_method_1_code 32 = .ok (.iload 6, 2) := by decide +kernel
theorem own_d_vfinit_34 : decode prog_69_method_1_code 34 = .ok (.putfield 25, 3) := by decide +kernel
theorem own_d_vfinit_37 : decode prog_69_method_1_code 37 = .ok (.aload_n 0, 1) := by decide +kernel
theorem own_d_vfinit_38 : decode prog_69_method_1_code 38 = .ok (.aload 7, 2) := by decide +kernel
theorem own_d_vfinit_40 : decode prog_69_method_1_code 40 = .ok (.putfield 29, 3) := by decide +kernel
theorem own_d_vfinit_43 : decode prog_69_method_1_code 43 = .ok (.aload_n 0, 1) := by decide +kernel
theorem own_d_vfinit_44 : decode prog_69_method_1_code 44 = .ok (.aload 8, 2) := by decide +kernel
theorem own_d_vfinit_46 : decode prog_69_method_1_code 46 = .ok (.invokestatic 33, 3) := by decide +kernel
theorem own_d_vfinit_49 : decode prog_69_method_1_code 49 = .ok (.putfield 39, 3) := by decide +kernel
theorem own_d_vfinit_52 : decode prog_69_method_1_code 52 = .ok (.aload_n 0, 1) := by decide +kernel
theorem own_d_vfinit_53 : decode prog_69_method_1_code 53 = .ok (.aload 9, 2) := by decide +kernel
theorem own_d_vfinit_55 : decode prog_69_method_1_code 55 = .ok (.putfield 43, 3) := by decide +kernel
theorem own_d_vfinit_58 : decode prog_69_method_1_code 58 = .ok (.return_, 1) := by decide +kernel
theorem own_pn_vfinit : plainName "com/example/scrutineer/scrutineer/ValidationFailure" = true := by first | (simp [plainName, overriddenIn]; done) | decide +kernel
theorem own_ef_vfinit (m : MethodId) (x0 : Addr) (x1 : Addr) (x2 : Addr) (x3 : Addr) (x4 : Addr) (x5 : Addr) (x6 : Int32) (x7 : Addr) (x8 : Addr) (x9 : Addr)  : entryFrame m #[(.ref x0), (.ref x1), (.ref x2), (.ref x3), (.ref x4), (.ref x5), (.int x6), (.ref x7), (.ref x8), (.ref x9)] 10 = mkF m 0 #[.val (.ref x0), .val (.ref x1), .val (.ref x2), .val (.ref x3), .val (.ref x4), .val (.ref x5), .val (.int x6), .val (.ref x7), .val (.ref x8), .val (.ref x9)] [] := by first | (simp [entryFrame, mkF, argsToLocals, Value.category]; done) | rfl
def own_Q_vfinit (Z : State) (a1 : Addr) (s1 : Addr) (s2 : Addr) (s3 : Addr) (i1 : Addr) (em : Addr) (p5 : Int32) (h0 : Heap) (n0 : Nat) (v : Option Value) (h : Heap) (L : List Loc) : Prop := v = none ∧ Fr n0 L ∧ Keep h0 h [a1] ∧ Exa Z h a1 "com/example/scrutineer/scrutineer/ValidationFailure" ∧ Fld Z h a1 "com/example/scrutineer/scrutineer/ValidationFailure" "path" "Ljava/lang/String;" (.ref s1) ∧ Fld Z h a1 "com/example/scrutineer/scrutineer/ValidationFailure" "message" "Ljava/lang/String;" (.ref s2)
set_option maxRecDepth 65536 in
set_option maxHeartbeats 40000000 in
theorem own_rm_vfinit (l : Launch) (Z : State) (a0 : Array Value) (hw : ∀ d ∈ tables_1, d.before a0 Z = true) (ws : List Jvm.Cond) (a1 : Addr) (s1 : Addr) (s2 : Addr) (s3 : Addr) (i1 : Addr) (em : Addr) (p5 : Int32) (h0 : Heap) (n0 : Nat) (Z0 : n0 ≤ h0.size) (E1 : Exa Z h0 a1 "com/example/scrutineer/scrutineer/ValidationFailure") (g1 : n0 ≤ a1) (E2 : Exa Z h0 em "java/util/ImmutableCollections$MapN") (F_path : Fld Z h0 a1 "com/example/scrutineer/scrutineer/ValidationFailure" "path" "Ljava/lang/String;" .null) (F_name : Fld Z h0 a1 "com/example/scrutineer/scrutineer/ValidationFailure" "name" "Ljava/lang/String;" .null) (F_label : Fld Z h0 a1 "com/example/scrutineer/scrutineer/ValidationFailure" "label" "Ljava/lang/String;" .null) (F_key : Fld Z h0 a1 "com/example/scrutineer/scrutineer/ValidationFailure" "key" "Ljava/lang/String;" .null) (F_message : Fld Z h0 a1 "com/example/scrutineer/scrutineer/ValidationFailure" "message" "Ljava/lang/String;" .null) (F_severity : Fld Z h0 a1 "com/example/scrutineer/scrutineer/ValidationFailure" "severity" "I" (.int (0 : Int32))) (F_value : Fld Z h0 a1 "com/example/scrutineer/scrutineer/ValidationFailure" "value" "Ljava/lang/Object;" .null) (F_messages : Fld Z h0 a1 "com/example/scrutineer/scrutineer/ValidationFailure" "messages" "Ljava/util/Map;" .null) (F_validatorId : Fld Z h0 a1 "com/example/scrutineer/scrutineer/ValidationFailure" "validatorId" "Ljava/lang/String;" .null) :
    MetFree l (⟨"com/example/scrutineer/scrutineer/ValidationFailure", "<init>", "(Ljava/lang/String;Ljava/lang/String;Ljava/lang/String;Ljava/lang/String;Ljava/lang/String;ILjava/lang/Object;Ljava/util/Map;Ljava/lang/String;)V"⟩ : MethodName) (head1 (Jvm.Cond.code (⟨"com/example/scrutineer/scrutineer/ValidationFailure", "<init>", "(Ljava/lang/String;Ljava/lang/String;Ljava/lang/String;Ljava/lang/String;Ljava/lang/String;ILjava/lang/Object;Ljava/util/Map;Ljava/lang/String;)V"⟩ : MethodName) prog_69_method_1_code 10 none :: ws) ({ frames := 1, cells := 0, slots := 0, locals := 13 } : Room)) (fun a U => a = #[(.ref a1), (.ref s1), (.ref s3), (.ref s3), (.ref s3), (.ref s2), (.int p5), (.ref i1), (.ref em), (.ref s3)] ∧ Z.Warmed39 U.vm ∧ U.heap = h0) (fun _ _ _ _ _ => True) (fun _ U o U' => ∃ v L, o = .returned v ∧ own_Q_vfinit Z a1 s1 s2 s3 i1 em p5 h0 n0 v U'.heap L ∧ FrameEnd U o U' L ({ frames := 1, cells := 0, slots := 0, locals := 13 } : Room).cells ({ frames := 1, cells := 0, slots := 0, locals := 13 } : Room).slots) := by
  refine MetFree.of_bodySF (plainFor_of_name own_pn_vfinit) hisR ?_
  intro p e s m args below meth c s₁ Bd hml0 hP hK
  obtain ⟨rfl, hZ, hh⟩ := hP
  have hx := Bd.exec
  have hby := Bd.bytes
  have hml : c.maxLocals = 10 := hml0
  have hown : s.vm.findClass "com/example/scrutineer/scrutineer/ValidationFailure" = some m.cls := findClass_of_methodNamed Bd.named
  have hnm := (name_of_methodNamed Bd.named Bd.method).1
  have X0 : Stand p l e ({ frames := 1, cells := 0, slots := 0, locals := 13 } : Room) s m #[(.ref a1), (.ref s1), (.ref s3), (.ref s3), (.ref s3), (.ref s2), (.int p5), (.ref i1), (.ref em), (.ref s3)] below meth c s₁ [] 0 0 := Stand.of_body Bd
  have e0 : s₁.heap = h0 := by rw [← hh, Bd.state]; rfl
  have N0 := Fr.nil n0
  show OG.Go p.tables e below (OG.GP (own_Q_vfinit Z a1 s1 s2 s3 i1 em p5 h0 n0) ({ frames := 1, cells := 0, slots := 0, locals := 13 } : Room).cells ({ frames := 1, cells := 0, slots := 0, locals := 13 } : Room).slots s) (s₁.setTop (entryFrame m #[(.ref a1), (.ref s1), (.ref s3), (.ref s3), (.ref s3), (.ref s2), (.int p5), (.ref i1), (.ref em), (.ref s3)] 10))
  refine OG.Go.cast (own_ef_vfinit m a1 s1 s3 s3 s3 s2 p5 i1 em s3) ?_
  refine OG.aloadN X0 hx hby own_d_vfinit_0 rfl rfl rfl ?_
  refine OG.iO X0 hx hZ hby hown (by rw [hml]; rfl) (hw _ (List.mem_of_getElem? (i := 60) rfl)) (hw _ (List.mem_of_getElem? (i := 24) rfl)) (hw _ (List.mem_of_getElem? (i := 25) rfl)) e0 (W := 0) rfl (by decide) (by decide) own_d_vfinit_1 rfl ?_
  intro T101 X101 e101
  refine OG.aloadN X101 hx hby own_d_vfinit_4 rfl rfl rfl ?_
  refine OG.aloadN X101 hx hby own_d_vfinit_5 rfl rfl rfl ?_
  refine OG.pF X101 hx hZ hby hown (hw _ (List.mem_of_getElem? (i := 61) rfl)) Via.refl e101 F_path E1 (Or.inr ⟨(hw _ (List.mem_of_getElem? (i := 62) rfl)), rfl, hnm⟩) (hw _ (List.mem_of_getElem? (i := 42) rfl)) (ty := (.object "java/lang/String")) (by decide) rfl rfl own_d_vfinit_6 rfl ?_
  intro T102 h102 X102 e102 W102
  have f103 := Fld.same W102 F_path
  have N104 := Fr.snoc X102 N0 g1
  refine OG.aloadN X102 hx hby own_d_vfinit_9 rfl rfl rfl ?_
  refine OG.aloadN X102 hx hby own_d_vfinit_10 rfl rfl rfl ?_
  have f105 := (Fld.other W102 F_name (Or.inr (slot_ne (Or.inr (hw _ (List.mem_of_getElem? (i := 64) rfl))) (Or.inr (hw _ (List.mem_of_getElem? (i := 62) rfl))) (by decide) (t := (.object "java/lang/String")) (t' := (.object "java/lang/String")) (by decide) (by decide))))
  have f106 := (Exa.wr W102 E1)
  refine OG.pF X102 hx hZ hby hown (hw _ (List.mem_of_getElem? (i := 63) rfl)) Via.refl e102 f105 f106 (Or.inr ⟨(hw _ (List.mem_of_getElem? (i := 64) rfl)), rfl, hnm⟩) (hw _ (List.mem_of_getElem? (i := 42) rfl)) (ty := (.object "java/lang/String")) (by decide) rfl rfl own_d_vfinit_11 rfl ?_
  intro T107 h107 X107 e107 W107
  have f108 := Fld.same W107 f105
  have N109 := Fr.snoc X107 N104 g1
  refine OG.aloadN X107 hx hby own_d_vfinit_14 rfl rfl rfl ?_
  refine OG.aloadN X107 hx hby own_d_vfinit_15 rfl rfl rfl ?_
  have f110 := (Fld.other W107 (Fld.other W102 F_label (Or.inr (slot_ne (Or.inr (hw _ (List.mem_of_getElem? (i := 66) rfl))) (Or.inr (hw _ (List.mem_of_getElem? (i := 62) rfl))) (by decide) (t := (.object "java/lang/String")) (t' := (.object "java/lang/String")) (by decide) (by decide)))) (Or.inr (slot_ne (Or.inr (hw _ (List.mem_of_getElem? (i := 66) rfl))) (Or.inr (hw _ (List.mem_of_getElem? (i := 64) rfl))) (by decide) (t := (.object "java/lang/String")) (t' := (.object "java/lang/String")) (by decide) (by decide))))
  have f111 := (Exa.wr W107 f106)
  refine OG.pF X107 hx hZ hby hown (hw _ (List.mem_of_getElem? (i := 65) rfl)) Via.refl e107 f110 f111 (Or.inr ⟨(hw _ (List.mem_of_getElem? (i := 66) rfl)), rfl, hnm⟩) (hw _ (List.mem_of_getElem? (i := 42) rfl)) (ty := (.object "java/lang/String")) (by decide) rfl rfl own_d_vfinit_16 rfl ?_
  intro T112 h112 X112 e112 W112
  have f113 := Fld.same W112 f110
  have N114 := Fr.snoc X112 N109 g1
  refine OG.aloadN X112 hx hby own_d_vfinit_19 rfl rfl rfl ?_
  refine OG.aload X112 hx hby own_d_vfinit_20 rfl rfl rfl ?_
  have f115 := (Fld.other W112 (Fld.other W107 (Fld.other W102 F_key (Or.inr (slot_ne (Or.inr (hw _ (List.mem_of_getElem? (i := 68) rfl))) (Or.inr (hw _ (List.mem_of_getElem? (i := 62) rfl))) (by decide) (t := (.object "java/lang/String")) (t' := (.object "java/lang/String")) (by decide) (by decide)))) (Or.inr (slot_ne (Or.inr (hw _ (List.mem_of_getElem? (i := 68) rfl))) (Or.inr (hw _ (List.mem_of_getElem? (i := 64) rfl))) (by decide) (t := (.object "java/lang/String")) (t' := (.object "java/lang/String")) (by decide) (by decide)))) (Or.inr (slot_ne (Or.inr (hw _ (List.mem_of_getElem? (i := 68) rfl))) (Or.inr (hw _ (List.mem_of_getElem? (i := 66) rfl))) (by decide) (t := (.object "java/lang/String")) (t' := (.object "java/lang/String")) (by decide) (by decide))))
  have f116 := (Exa.wr W112 f111)
  refine OG.pF X112 hx hZ hby hown (hw _ (List.mem_of_getElem? (i := 67) rfl)) Via.refl e112 f115 f116 (Or.inr ⟨(hw _ (List.mem_of_getElem? (i := 68) rfl)), rfl, hnm⟩) (hw _ (List.mem_of_getElem? (i := 42) rfl)) (ty := (.object "java/lang/String")) (by decide) rfl rfl own_d_vfinit_22 rfl ?_
  intro T117 h117 X117 e117 W117
  have f118 := Fld.same W117 f115
  have N119 := Fr.snoc X117 N114 g1
  refine OG.aloadN X117 hx hby own_d_vfinit_25 rfl rfl rfl ?_
  refine OG.aload X117 hx hby own_d_vfinit_26 rfl rfl rfl ?_
  have f120 := (Fld.other W117 (Fld.other W112 (Fld.other W107 (Fld.other W102 F_message (Or.inr (slot_ne (Or.inr (hw _ (List.mem_of_getElem? (i := 70) rfl))) (Or.inr (hw _ (List.mem_of_getElem? (i := 62) rfl))) (by decide) (t := (.object "java/lang/String")) (t' := (.object "java/lang/String")) (by decide) (by decide)))) (Or.inr (slot_ne (Or.inr (hw _ (List.mem_of_getElem? (i := 70) rfl))) (Or.inr (hw _ (List.mem_of_getElem? (i := 64) rfl))) (by decide) (t := (.object "java/lang/String")) (t' := (.object "java/lang/String")) (by decide) (by decide)))) (Or.inr (slot_ne (Or.inr (hw _ (List.mem_of_getElem? (i := 70) rfl))) (Or.inr (hw _ (List.mem_of_getElem? (i := 66) rfl))) (by decide) (t := (.object "java/lang/String")) (t' := (.object "java/lang/String")) (by decide) (by decide)))) (Or.inr (slot_ne (Or.inr (hw _ (List.mem_of_getElem? (i := 70) rfl))) (Or.inr (hw _ (List.mem_of_getElem? (i := 68) rfl))) (by decide) (t := (.object "java/lang/String")) (t' := (.object "java/lang/String")) (by decide) (by decide))))
  have f121 := (Exa.wr W117 f116)
  refine OG.pF X117 hx hZ hby hown (hw _ (List.mem_of_getElem? (i := 69) rfl)) Via.refl e117 f120 f121 (Or.inr ⟨(hw _ (List.mem_of_getElem? (i := 70) rfl)), rfl, hnm⟩) (hw _ (List.mem_of_getElem? (i := 42) rfl)) (ty := (.object "java/lang/String")) (by decide) rfl rfl own_d_vfinit_28 rfl ?_
  intro T122 h122 X122 e122 W122
  have f123 := Fld.same W122 f120
  have N124 := Fr.snoc X122 N119 g1
  refine OG.aloadN X122 hx hby own_d_vfinit_31 rfl rfl rfl ?_
  refine OG.iload X122 hx hby own_d_vfinit_32 rfl rfl ?_
  have f125 := (Fld.other W122 (Fld.other W117 (Fld.other W112 (Fld.other W107 (Fld.other W102 F_severity (Or.inr (slot_ne (Or.inr (hw _ (List.mem_of_getElem? (i := 72) rfl))) (Or.inr (hw _ (List.mem_of_getElem? (i := 62) rfl))) (by decide) (t := .int) (t' := (.object "java/lang/String")) (by decide) (by decide)))) (Or.inr (slot_ne (Or.inr (hw _ (List.mem_of_getElem? (i := 72) rfl))) (Or.inr (hw _ (List.mem_of_getElem? (i := 64) rfl))) (by decide) (t := .int) (t' := (.object "java/lang/String")) (by decide) (by decide)))) (Or.inr (slot_ne (Or.inr (hw _ (List.mem_of_getElem? (i := 72) rfl))) (Or.inr (hw _ (List.mem_of_getElem? (i := 66) rfl))) (by decide) (t := .int) (t' := (.object "java/lang/String")) (by decide) (by decide)))) (Or.inr (slot_ne (Or.inr (hw _ (List.mem_of_getElem? (i := 72) rfl))) (Or.inr (hw _ (List.mem_of_getElem? (i := 68) rfl))) (by decide) (t := .int) (t' := (.object "java/lang/String")) (by decide) (by decide)))) (Or.inr (slot_ne (Or.inr (hw _ (List.mem_of_getElem? (i := 72) rfl))) (Or.inr (hw _ (List.mem_of_getElem? (i := 70) rfl))) (by decide) (t := .int) (t' := (.object "java/lang/String")) (by decide) (by decide))))
  have f126 := (Exa.wr W122 f121)
  refine OG.pF X122 hx hZ hby hown (hw _ (List.mem_of_getElem? (i := 71) rfl)) Via.refl e122 f125 f126 (Or.inr ⟨(hw _ (List.mem_of_getElem? (i := 72) rfl)), rfl, hnm⟩) (hw _ (List.mem_of_getElem? (i := 42) rfl)) (ty := .int) (by decide) rfl rfl own_d_vfinit_34 rfl ?_
  intro T127 h127 X127 e127 W127
  have f128 := Fld.same W127 f125
  have N129 := Fr.snoc X127 N124 g1
  refine OG.aloadN X127 hx hby own_d_vfinit_37 rfl rfl rfl ?_
  refine OG.aload X127 hx hby own_d_vfinit_38 rfl rfl rfl ?_
  have f130 := (Fld.other W127 (Fld.other W122 (Fld.other W117 (Fld.other W112 (Fld.other W107 (Fld.other W102 F_value (Or.inr (slot_ne (Or.inr (hw _ (List.mem_of_getElem? (i := 74) rfl))) (Or.inr (hw _ (List.mem_of_getElem? (i := 62) rfl))) (by decide) (t := (.object "java/lang/Object")) (t' := (.object "java/lang/String")) (by decide) (by decide)))) (Or.inr (slot_ne (Or.inr (hw _ (List.mem_of_getElem? (i := 74) rfl))) (Or.inr (hw _ (List.mem_of_getElem? (i := 64) rfl))) (by decide) (t := (.object "java/lang/Object")) (t' := (.object "java/lang/String")) (by decide) (by decide)))) (Or.inr (slot_ne (Or.inr (hw _ (List.mem_of_getElem? (i := 74) rfl))) (Or.inr (hw _ (List.mem_of_getElem? (i := 66) rfl))) (by decide) (t := (.object "java/lang/Object")) (t' := (.object "java/lang/String")) (by decide) (by decide)))) (Or.inr (slot_ne (Or.inr (hw _ (List.mem_of_getElem? (i := 74) rfl))) (Or.inr (hw _ (List.mem_of_getElem? (i := 68) rfl))) (by decide) (t := (.object "java/lang/Object")) (t' := (.object "java/lang/String")) (by decide) (by decide)))) (Or.inr (slot_ne (Or.inr (hw _ (List.mem_of_getElem? (i := 74) rfl))) (Or.inr (hw _ (List.mem_of_getElem? (i := 70) rfl))) (by decide) (t := (.object "java/lang/Object")) (t' := (.object "java/lang/String")) (by decide) (by decide)))) (Or.inr (slot_ne (Or.inr (hw _ (List.mem_of_getElem? (i := 74) rfl))) (Or.inr (hw _ (List.mem_of_getElem? (i := 72) rfl))) (by decide) (t := (.object "java/lang/Object")) (t' := .int) (by decide) (by decide))))
  have f131 := (Exa.wr W127 f126)
  refine OG.pF X127 hx hZ hby hown (hw _ (List.mem_of_getElem? (i := 73) rfl)) Via.refl e127 f130 f131 (Or.inr ⟨(hw _ (List.mem_of_getElem? (i := 74) rfl)), rfl, hnm⟩) (hw _ (List.mem_of_getElem? (i := 42) rfl)) (ty := (.object "java/lang/Object")) (by decide) rfl rfl own_d_vfinit_40 rfl ?_
  intro T132 h132 X132 e132 W132
  have f133 := Fld.same W132 f130
  have N134 := Fr.snoc X132 N129 g1
  refine OG.aloadN X132 hx hby own_d_vfinit_43 rfl rfl rfl ?_
  refine OG.aload X132 hx hby own_d_vfinit_44 rfl rfl rfl ?_
  have f136 := (Exa.wr W132 (Exa.wr W127 (Exa.wr W122 (Exa.wr W117 (Exa.wr W112 (Exa.wr W107 (Exa.wr W102 E2)))))))
  refine OG.cS X132 hx hZ hby (by rw [hml]; rfl) hown (y := (⟨"java/util/Map", "copyOf", "(Ljava/util/Map;)Ljava/util/Map;"⟩ : MethodName)) (hw _ (List.mem_of_getElem? (i := 75) rfl)) (hw _ (List.mem_of_getElem? (i := 76) rfl)) (hw _ (List.mem_of_getElem? (i := 77) rfl)) (hw _ (List.mem_of_getElem? (i := 53) rfl)) (by decide) (own_rm_mapcopy l Z a0 hw [] em h132 n0 (Nat.le_trans (Nat.le_trans (Nat.le_trans (Nat.le_trans (Nat.le_trans (Nat.le_trans (Nat.le_trans Z0 (Nat.le_of_eq (Wr.size W102).symm)) (Nat.le_of_eq (Wr.size W107).symm)) (Nat.le_of_eq (Wr.size W112).symm)) (Nat.le_of_eq (Wr.size W117).symm)) (Nat.le_of_eq (Wr.size W122).symm)) (Nat.le_of_eq (Wr.size W127).symm)) (Nat.le_of_eq (Wr.size W132).symm)) f136) e132 (argsL := [(.ref em)]) (stk := [(.ref em), (.ref a1)]) (st := [(.ref a1)]) own_pd_26 rfl rfl rfl (W := 1) rfl (by decide) (by decide) (by decide) (by decide) own_d_vfinit_46 rfl ?_
  intro T135 L135 v135 X135 q135
  obtain ⟨rfl, N135, e135⟩ := q135
  have M135 := Fr.app N134 N135
  show OG.Go _ _ _ _ (T135.setTop (mkF m 49 #[.val (.ref a1), .val (.ref s1), .val (.ref s3), .val (.ref s3), .val (.ref s3), .val (.ref s2), .val (.int p5), .val (.ref i1), .val (.ref em), .val (.ref s3)] [(.ref em), (.ref a1)]))
  have f137 := (Fld.other W132 (Fld.other W127 (Fld.other W122 (Fld.other W117 (Fld.other W112 (Fld.other W107 (Fld.other W102 F_messages (Or.inr (slot_ne (Or.inr (hw _ (List.mem_of_getElem? (i := 81) rfl))) (Or.inr (hw _ (List.mem_of_getElem? (i := 62) rfl))) (by decide) (t := (.object "java/util/Map")) (t' := (.object "java/lang/String")) (by decide) (by decide)))) (Or.inr (slot_ne (Or.inr (hw _ (List.mem_of_getElem? (i := 81) rfl))) (Or.inr (hw _ (List.mem_of_getElem? (i := 64) rfl))) (by decide) (t := (.object "java/util/Map")) (t' := (.object "java/lang/String")) (by decide) (by decide)))) (Or.inr (slot_ne (Or.inr (hw _ (List.mem_of_getElem? (i := 81) rfl))) (Or.inr (hw _ (List.mem_of_getElem? (i := 66) rfl))) (by decide) (t := (.object "java/util/Map")) (t' := (.object "java/lang/String")) (by decide) (by decide)))) (Or.inr (slot_ne (Or.inr (hw _ (List.mem_of_getElem? (i := 81) rfl))) (Or.inr (hw _ (List.mem_of_getElem? (i := 68) rfl))) (by decide) (t := (.object "java/util/Map")) (t' := (.object "java/lang/String")) (by decide) (by decide)))) (Or.inr (slot_ne (Or.inr (hw _ (List.mem_of_getElem? (i := 81) rfl))) (Or.inr (hw _ (List.mem_of_getElem? (i := 70) rfl))) (by decide) (t := (.object "java/util/Map")) (t' := (.object "java/lang/String")) (by decide) (by decide)))) (Or.inr (slot_ne (Or.inr (hw _ (List.mem_of_getElem? (i := 81) rfl))) (Or.inr (hw _ (List.mem_of_getElem? (i := 72) rfl))) (by decide) (t := (.object "java/util/Map")) (t' := .int) (by decide) (by decide)))) (Or.inr (slot_ne (Or.inr (hw _ (List.mem_of_getElem? (i := 81) rfl))) (Or.inr (hw _ (List.mem_of_getElem? (i := 74) rfl))) (by decide) (t := (.object "java/util/Map")) (t' := (.object "java/lang/Object")) (by decide) (by decide))))
  have f138 := (Exa.wr W132 f131)
  refine OG.pF X135 hx hZ hby hown (hw _ (List.mem_of_getElem? (i := 80) rfl)) Via.refl e135 f137 f138 (Or.inr ⟨(hw _ (List.mem_of_getElem? (i := 81) rfl)), rfl, hnm⟩) (hw _ (List.mem_of_getElem? (i := 42) rfl)) (ty := (.object "java/util/Map")) (by decide) rfl rfl own_d_vfinit_49 rfl ?_
  intro T139 h139 X139 e139 W139
  have f140 := Fld.same W139 f137
  have N141 := Fr.snoc X139 M135 g1
  refine OG.aloadN X139 hx hby own_d_vfinit_52 rfl rfl rfl ?_
  refine OG.aload X139 hx hby own_d_vfinit_53 rfl rfl rfl ?_
  have f142 := (Fld.other W139 (Fld.other W132 (Fld.other W127 (Fld.other W122 (Fld.other W117 (Fld.other W112 (Fld.other W107 (Fld.other W102 F_validatorId (Or.inr (slot_ne (Or.inr (hw _ (List.mem_of_getElem? (i := 83) rfl))) (Or.inr (hw _ (List.mem_of_getElem? (i := 62) rfl))) (by decide) (t := (.object "java/lang/String")) (t' := (.object "java/lang/String")) (by decide) (by decide)))) (Or.inr (slot_ne (Or.inr (hw _ (List.mem_of_getElem? (i := 83) rfl))) (Or.inr (hw _ (List.mem_of_getElem? (i := 64) rfl))) (by decide) (t := (.object "java/lang/String")) (t' := (.object "java/lang/String")) (by decide) (by decide)))) (Or.inr (slot_ne (Or.inr (hw _ (List.mem_of_getElem? (i := 83) rfl))) (Or.inr (hw _ (List.mem_of_getElem? (i := 66) rfl))) (by decide) (t := (.object "java/lang/String")) (t' := (.object "java/lang/String")) (by decide) (by decide)))) (Or.inr (slot_ne (Or.inr (hw _ (List.mem_of_getElem? (i := 83) rfl))) (Or.inr (hw _ (List.mem_of_getElem? (i := 68) rfl))) (by decide) (t := (.object "java/lang/String")) (t' := (.object "java/lang/String")) (by decide) (by decide)))) (Or.inr (slot_ne (Or.inr (hw _ (List.mem_of_getElem? (i := 83) rfl))) (Or.inr (hw _ (List.mem_of_getElem? (i := 70) rfl))) (by decide) (t := (.object "java/lang/String")) (t' := (.object "java/lang/String")) (by decide) (by decide)))) (Or.inr (slot_ne (Or.inr (hw _ (List.mem_of_getElem? (i := 83) rfl))) (Or.inr (hw _ (List.mem_of_getElem? (i := 72) rfl))) (by decide) (t := (.object "java/lang/String")) (t' := .int) (by decide) (by decide)))) (Or.inr (slot_ne (Or.inr (hw _ (List.mem_of_getElem? (i := 83) rfl))) (Or.inr (hw _ (List.mem_of_getElem? (i := 74) rfl))) (by decide) (t := (.object "java/lang/String")) (t' := (.object "java/lang/Object")) (by decide) (by decide)))) (Or.inr (slot_ne (Or.inr (hw _ (List.mem_of_getElem? (i := 83) rfl))) (Or.inr (hw _ (List.mem_of_getElem? (i := 81) rfl))) (by decide) (t := (.object "java/lang/String")) (t' := (.object "java/util/Map")) (by decide) (by decide))))
  have f143 := (Exa.wr W139 f138)
  refine OG.pF X139 hx hZ hby hown (hw _ (List.mem_of_getElem? (i := 82) rfl)) Via.refl e139 f142 f143 (Or.inr ⟨(hw _ (List.mem_of_getElem? (i := 83) rfl)), rfl, hnm⟩) (hw _ (List.mem_of_getElem? (i := 42) rfl)) (ty := (.object "java/lang/String")) (by decide) rfl rfl own_d_vfinit_55 rfl ?_
  intro T144 h144 X144 e144 W144
  have f145 := Fld.same W144 f142
  have N146 := Fr.snoc X144 N141 g1
  refine OG.retV X144 hx hby Bd.returns own_d_vfinit_58 Bd.notSynchronized (by decide) (by decide) ?_
  have f147 := (Exa.wr W144 f143)
  have f148 := (Fld.other W144 (Fld.other W139 (Fld.other W132 (Fld.other W127 (Fld.other W122 (Fld.other W117 (Fld.other W112 (Fld.other W107 f103 (Or.inr (slot_ne (Or.inr (hw _ (List.mem_of_getElem? (i := 62) rfl))) (Or.inr (hw _ (List.mem_of_getElem? (i := 64) rfl))) (by decide) (t := (.object "java/lang/String")) (t' := (.object "java/lang/String")) (by decide) (by decide)))) (Or.inr (slot_ne (Or.inr (hw _ (List.mem_of_getElem? (i := 62) rfl))) (Or.inr (hw _ (List.mem_of_getElem? (i := 66) rfl))) (by decide) (t := (.object "java/lang/String")) (t' := (.object "java/lang/String")) (by decide) (by decide)))) (Or.inr (slot_ne (Or.inr (hw _ (List.mem_of_getElem? (i := 62) rfl))) (Or.inr (hw _ (List.mem_of_getElem? (i := 68) rfl))) (by decide) (t := (.object "java/lang/String")) (t' := (.object "java/lang/String")) (by decide) (by decide)))) (Or.inr (slot_ne (Or.inr (hw _ (List.mem_of_getElem? (i := 62) rfl))) (Or.inr (hw _ (List.mem_of_getElem? (i := 70) rfl))) (by decide) (t := (.object "java/lang/String")) (t' := (.object "java/lang/String")) (by decide) (by decide)))) (Or.inr (slot_ne (Or.inr (hw _ (List.mem_of_getElem? (i := 62) rfl))) (Or.inr (hw _ (List.mem_of_getElem? (i := 72) rfl))) (by decide) (t := (.object "java/lang/String")) (t' := .int) (by decide) (by decide)))) (Or.inr (slot_ne (Or.inr (hw _ (List.mem_of_getElem? (i := 62) rfl))) (Or.inr (hw _ (List.mem_of_getElem? (i := 74) rfl))) (by decide) (t := (.object "java/lang/String")) (t' := (.object "java/lang/Object")) (by decide) (by decide)))) (Or.inr (slot_ne (Or.inr (hw _ (List.mem_of_getElem? (i := 62) rfl))) (Or.inr (hw _ (List.mem_of_getElem? (i := 81) rfl))) (by decide) (t := (.object "java/lang/String")) (t' := (.object "java/util/Map")) (by decide) (by decide)))) (Or.inr (slot_ne (Or.inr (hw _ (List.mem_of_getElem? (i := 62) rfl))) (Or.inr (hw _ (List.mem_of_getElem? (i := 83) rfl))) (by decide) (t := (.object "java/lang/String")) (t' := (.object "java/lang/String")) (by decide) (by decide))))
  have f149 := (Fld.other W144 (Fld.other W139 (Fld.other W132 (Fld.other W127 f123 (Or.inr (slot_ne (Or.inr (hw _ (List.mem_of_getElem? (i := 70) rfl))) (Or.inr (hw _ (List.mem_of_getElem? (i := 72) rfl))) (by decide) (t := (.object "java/lang/String")) (t' := .int) (by decide) (by decide)))) (Or.inr (slot_ne (Or.inr (hw _ (List.mem_of_getElem? (i := 70) rfl))) (Or.inr (hw _ (List.mem_of_getElem? (i := 74) rfl))) (by decide) (t := (.object "java/lang/String")) (t' := (.object "java/lang/Object")) (by decide) (by decide)))) (Or.inr (slot_ne (Or.inr (hw _ (List.mem_of_getElem? (i := 70) rfl))) (Or.inr (hw _ (List.mem_of_getElem? (i := 81) rfl))) (by decide) (t := (.object "java/lang/String")) (t' := (.object "java/util/Map")) (by decide) (by decide)))) (Or.inr (slot_ne (Or.inr (hw _ (List.mem_of_getElem? (i := 70) rfl))) (Or.inr (hw _ (List.mem_of_getElem? (i := 83) rfl))) (by decide) (t := (.object "java/lang/String")) (t' := (.object "java/lang/String")) (by decide) (by decide))))
  rw [e144]
  exact ⟨rfl, N146, (Keep.wr (Keep.wr (Keep.wr (Keep.wr (Keep.wr (Keep.wr (Keep.wr (Keep.wr (Keep.wr (Keep.refl h0 [a1]) W102 (Or.inl (by simp))) W107 (Or.inl (by simp))) W112 (Or.inl (by simp))) W117 (Or.inl (by simp))) W122 (Or.inl (by simp))) W127 (Or.inl (by simp))) W132 (Or.inl (by simp))) W139 (Or.inl (by simp))) W144 (Or.inl (by simp))), f147, f148, f149⟩
theorem own_d_vftos_0 : decode prog_69_method_13_code 0 = .ok (.new 65, 3) := by decide +kernel
theorem own_d_vftos_3 : decode prog_69_method_13_code 3 = .ok (.dup, 1) := by decide +kernel
theorem own_d_vftos_4 : decode prog_69_method_13_code 4 = .ok (.invokespecial 67, 3) := by decide +kernel
theorem own_d_vftos_7 : decode prog_69_method_13_code 7 = .ok (.aload_n 0, 1) := by decide +kernel
theorem own_d_vftos_8 : decode prog_69_method_13_code 8 = .ok (.getfield 7, 3) := by decide +kernel
theorem own_d_vftos_11 : decode prog_69_method_13_code 11 = .ok (.invokevirtual 68, 3) := by decide +kernel
theorem own_d_vftos_14 : decode prog_69_method_13_code 14 = .ok (.ldc 72, 2) := by decide +kernel
theorem own_d_vftos_16 : decode prog_69_method_13_code 16 = .ok (.invokevirtual 68, 3) := by decide +kernel
theorem own_d_vftos_19 : decode prog_69_method_13_code 19 = .ok (.aload_n 0, 1) := by decide +kernel
theorem own_d_vftos_20 : decode prog_69_method_13_code 20 = .ok (.getfield 22, 3) := by decide +kernel
theorem own_d_vftos_23 : decode prog_69_method_13_code 23 = .ok (.invokevirtual 68, 3) := by decide +kernel
theorem own_d_vftos_26 : decode prog_69_method_13_code 26 = .ok (.invokevirtual 74, 3) := by decide +kernel
theorem own_d_vftos_29 : decode prog_69_method_13_code 29 = .ok (.areturn, 1) := by decide +kernel
theorem own_pn_vftos : plainName "com/example/scrutineer/scrutineer/ValidationFailure" = true := by first | (simp [plainName, overriddenIn]; done) | decide +kernel
theorem own_ef_vftos (m : MethodId) (x0 : Addr)  : entryFrame m #[(.ref x0)] 1 = mkF m 0 #[.val (.ref x0)] [] := by first | (simp [entryFrame, mkF, argsToLocals, Value.category]; done) | rfl
def own_Q_vftos (Z : State) (a1 : Addr) (s1 : Addr) (t1_ : Addr) (b1 : List Int32) (s2 : Addr) (t2_ : Addr) (b2 : List Int32) (zc : Int32) (h0 : Heap) (n0 : Nat) (v : Option Value) (h : Heap) (L : List Loc) : Prop := ∃ a t, v = some (.ref a) ∧ Fr n0 L ∧ Keep h0 h [] ∧ (Exa Z h a "java/lang/String") ∧ (Fld Z h a "java/lang/String" "coder" "B" (.int (0 : Int32))) ∧ (Fld Z h a "java/lang/String" "value" "[B" (.ref t)) ∧ (OG.BA Z h t (b1 ++ [(58 : Int32), (32 : Int32)] ++ b2))
set_option maxRecDepth 65536 in
set_option maxHeartbeats 40000000 in
theorem own_rm_vftos (l : Launch) (Z : State) (a0 : Array Value) (hw : ∀ d ∈ tables_1, d.before a0 Z = true) (ws : List Jvm.Cond) (a1 : Addr) (s1 : Addr) (t1_ : Addr) (b1 : List Int32) (s2 : Addr) (t2_ : Addr) (b2 : List Int32) (zc : Int32) (h0 : Heap) (n0 : Nat) (Z0 : n0 ≤ h0.size) (O1 : Old Z n0 h0) (S_cs : Sta Z Z.heap "java/lang/String" "COMPACT_STRINGS" "Z" (.int zc)) (hzc : ¬ zc = (0 : Int32)) (E1 : Exa Z h0 a1 "com/example/scrutineer/scrutineer/ValidationFailure") (F1 : Fld Z h0 a1 "com/example/scrutineer/scrutineer/ValidationFailure" "path" "Ljava/lang/String;" (.ref s1)) (F2 : Fld Z h0 a1 "com/example/scrutineer/scrutineer/ValidationFailure" "message" "Ljava/lang/String;" (.ref s2)) (E3 : Exa Z h0 s1 "java/lang/String") (Fc3 : Fld Z h0 s1 "java/lang/String" "coder" "B" (.int (0 : Int32))) (Fv3 : Fld Z h0 s1 "java/lang/String" "value" "[B" (.ref t1_)) (Y3 : OG.BA Z h0 t1_ b1) (E4 : Exa Z h0 s2 "java/lang/String") (Fc4 : Fld Z h0 s2 "java/lang/String" "coder" "B" (.int (0 : Int32))) (Fv4 : Fld Z h0 s2 "java/lang/String" "value" "[B" (.ref t2_)) (Y4 : OG.BA Z h0 t2_ b2) (hb1 : b1.length ≤ 3) (hb2 : b2.length ≤ 3) :
    MetFree l (⟨"com/example/scrutineer/scrutineer/ValidationFailure", "toString", "()Ljava/lang/String;"⟩ : MethodName) (head1 (Jvm.Cond.code (⟨"com/example/scrutineer/scrutineer/ValidationFailure", "toString", "()Ljava/lang/String;"⟩ : MethodName) prog_69_method_13_code 1 (some (.object "java/lang/String")) :: ws) ({ frames := 6, cells := 6, slots := 70, locals := 91 } : Room)) (fun a U => a = #[(.ref a1)] ∧ Z.Warmed39 U.vm ∧ U.heap = h0 ∧ CHv Z own_EL U.vm h0) (fun _ _ _ _ _ => True) (fun _ U o U' => ∃ v L, o = .returned v ∧ own_Q_vftos Z a1 s1 t1_ b1 s2 t2_ b2 zc h0 n0 v U'.heap L ∧ CHr Z own_EL U.vm U.heap U'.vm U'.heap ∧ ReturnedEndW U o U' L ({ frames := 6, cells := 6, slots := 70, locals := 91 } : Room).cells ({ frames := 6, cells := 6, slots := 70, locals := 91 } : Room).slots) := by
  refine MetFree.of_bodySF (plainFor_of_name own_pn_vftos) hisR ?_
  intro p e s m args below meth c s₁ Bd hml0 hP hK
  obtain ⟨rfl, hZ, hh, hCH⟩ := hP
  have hx := Bd.exec
  have hby := Bd.bytes
  have hml : c.maxLocals = 1 := hml0
  have hown : s.vm.findClass "com/example/scrutineer/scrutineer/ValidationFailure" = some m.cls := findClass_of_methodNamed Bd.named
  have hnm := (name_of_methodNamed Bd.named Bd.method).1
  have X0 : Stand p l e ({ frames := 6, cells := 6, slots := 70, locals := 91 } : Room) (s.setVm s.vm) m #[(.ref a1)] below meth c s₁ [] 0 0 := Stand.of_body Bd
  have e0 : s₁.heap = h0 := by rw [← hh, Bd.state]; rfl
  have N0 := Fr.nil n0
  have CH0 : CHr Z own_EL s.vm s.heap s.vm h0 := by rw [hh]; exact CHr.refl hCH
  have hS0 : s.Since s.vm h0.size := (State.WarmedH.refl s).since _
  show OG.Go p.tables e below (OG.GH Z own_EL (own_Q_vftos Z a1 s1 t1_ b1 s2 t2_ b2 zc h0 n0) ({ frames := 6, cells := 6, slots := 70, locals := 91 } : Room).cells ({ frames := 6, cells := 6, slots := 70, locals := 91 } : Room).slots s) (s₁.setTop (entryFrame m #[(.ref a1)] 1))
  refine OG.Go.cast (own_ef_vftos m a1) ?_
  refine OG.nO X0 hx hZ hby hown (hw _ (List.mem_of_getElem? (i := 89) rfl)) (hw _ (List.mem_of_getElem? (i := 90) rfl)) (hw _ (List.mem_of_getElem? (i := 91) rfl)) e0 own_d_vftos_0 (by decide) (by decide) rfl ?_
  intro T101 h101 b101 g101 X101 e101 E101 A101 D101
  have ne102 : a1 ≠ b101 := Nat.ne_of_lt (Nat.lt_of_lt_of_le (Exa.lt E1) (Nat.le_of_eq g101.symm))
  have ne103 : s1 ≠ b101 := Nat.ne_of_lt (Nat.lt_of_lt_of_le (Exa.lt E3) (Nat.le_of_eq g101.symm))
  have ne104 : t1_ ≠ b101 := Nat.ne_of_lt (Nat.lt_of_lt_of_le (OG.BA.lt Y3) (Nat.le_of_eq g101.symm))
  have ne105 : s2 ≠ b101 := Nat.ne_of_lt (Nat.lt_of_lt_of_le (Exa.lt E4) (Nat.le_of_eq g101.symm))
  have ne106 : t2_ ≠ b101 := Nat.ne_of_lt (Nat.lt_of_lt_of_le (OG.BA.lt Y4) (Nat.le_of_eq g101.symm))
  have gn107 : n0 ≤ b101 := Nat.le_trans Z0 (Nat.le_of_eq g101.symm)
  have sz108 : h0.size ≤ b101 := Nat.le_trans (Nat.le_refl _) (Nat.le_of_eq g101.symm)
  have CH109 := CHr.trans CH0 (CHr.ext E101 CH0.1)
  have f110 : Fld Z h101 b101 "java/lang/AbstractStringBuilder" "value" "[B" .null := D101 (Or.inl (hw _ (List.mem_of_getElem? (i := 104) rfl))) (ty := (.array .byte)) (by decide)
  have f111 : Fld Z h101 b101 "java/lang/AbstractStringBuilder" "coder" "B" (.int (0 : Int32)) := D101 (Or.inl (hw _ (List.mem_of_getElem? (i := 106) rfl))) (ty := .byte) (by decide)
  have f112 : Fld Z h101 b101 "java/lang/AbstractStringBuilder" "count" "I" (.int (0 : Int32)) := D101 (Or.inl (hw _ (List.mem_of_getElem? (i := 128) rfl))) (ty := .int) (by decide)
  refine OG.dup X101 hx hby own_d_vftos_3 rfl rfl ?_
  have f114 := (Old.ext O1 E101)
  refine OG.cN X101 hx hZ hby (by rw [hml]; rfl) hown (y := (⟨"java/lang/StringBuilder", "<init>", "()V"⟩ : MethodName)) rfl rfl (hw _ (List.mem_of_getElem? (i := 92) rfl)) (hw _ (List.mem_of_getElem? (i := 93) rfl)) (hw _ (List.mem_of_getElem? (i := 94) rfl)) (hw _ (List.mem_of_getElem? (i := 91) rfl)) (by decide) (own_rm_sb_init l Z a0 hw [] b101 zc h101 n0 (Nat.le_trans Z0 E101.1) f114 S_cs hzc A101 f110 f111 f112 gn107) e101 (argsL := []) (stk := [(.ref b101), (.ref b101)]) (st := [(.ref b101)]) own_pd_25 rfl rfl rfl (W := 1) rfl (by decide) (by decide) (by decide) (by decide) own_d_vftos_4 rfl ?_
  intro T113 L113 v113 X113 q113
  obtain ⟨ta113, rfl, N113, K113, E_113, Bv_113, Bc_113, Bn_113, Y_113, Et_113, sz113⟩ := q113
  have sf115 : Safe Z own_EL s.vm h101 ta113 := Safe.new sz113
  have f116 := (Exa.ext E101 E1)
  have ne117 : a1 ≠ ta113 := Nat.ne_of_lt (Nat.lt_of_lt_of_le (Exa.lt f116) sz113)
  have f118 := (Exa.ext E101 E3)
  have ne119 : s1 ≠ ta113 := Nat.ne_of_lt (Nat.lt_of_lt_of_le (Exa.lt f118) sz113)
  have f120 := (OG.BA.ext Y3 E101)
  have ne121 : t1_ ≠ ta113 := Nat.ne_of_lt (Nat.lt_of_lt_of_le (OG.BA.lt f120) sz113)
  have f122 := (Exa.ext E101 E4)
  have ne123 : s2 ≠ ta113 := Nat.ne_of_lt (Nat.lt_of_lt_of_le (Exa.lt f122) sz113)
  have f124 := (OG.BA.ext Y4 E101)
  have ne125 : t2_ ≠ ta113 := Nat.ne_of_lt (Nat.lt_of_lt_of_le (OG.BA.lt f124) sz113)
  have ne126 : b101 ≠ ta113 := Nat.ne_of_lt (Nat.lt_of_lt_of_le (Exa.lt A101) sz113)
  have gn127 : n0 ≤ ta113 := Nat.le_trans (Nat.le_trans Z0 E101.1) sz113
  have sz128 : h0.size ≤ ta113 := Nat.le_trans (Nat.le_trans (Nat.le_refl _) E101.1) sz113
  have CH129 := CHr.trans CH109 (CHr.keep K113 (sfS (Safe.exa (EL := own_EL) (vm := s.vm) (show Z.vm.Alike s.vm from hZ.alike) A101 (by decide) (by decide)) sf0) CH109.1)
  have M113 := Fr.app N0 N113
  show OG.Go _ _ _ _ (T113.setTop (mkF m 7 #[.val (.ref a1)] [(.ref b101)]))
  refine OG.aloadN X113 hx hby own_d_vftos_7 rfl rfl rfl ?_
  have f130 := (Fld.keep (Fld.ext E101 F1) K113 (ninS ne102 nin0))
  refine OG.gF X113 hx hZ hby hown (hw _ (List.mem_of_getElem? (i := 61) rfl)) Via.refl rfl f130 own_d_vftos_8 rfl ?_
  intro T131 X131 e131
  have f133 := (Exa.keep f118 K113)
  have f134 := (Fld.keep (Fld.ext E101 Fc3) K113 (ninS ne103 nin0))
  have f135 := (Fld.keep (Fld.ext E101 Fv3) K113 (ninS ne103 nin0))
  have f136 := (OG.BA.keep f120 K113 (ninS ne104 nin0))
  have f137 := (Old.keep f114 K113 (allS gn107 all0))
  refine OG.cV X131 hx hZ hby (by rw [hml]; rfl) hown (y := (⟨"java/lang/StringBuilder", "append", "(Ljava/lang/String;)Ljava/lang/StringBuilder;"⟩ : MethodName)) (z := (⟨"java/lang/StringBuilder", "append", "(Ljava/lang/String;)Ljava/lang/StringBuilder;"⟩ : MethodName)) (hw _ (List.mem_of_getElem? (i := 107) rfl)) (hw _ (List.mem_of_getElem? (i := 108) rfl)) (notFace_of_selects (args := #[]) (mvT (s := s.setVm s.vm) hZ (hw _ (List.mem_of_getElem? (i := 110) rfl)))) (hw _ (List.mem_of_getElem? (i := 110) rfl)) (hw _ (List.mem_of_getElem? (i := 109) rfl)) (hw _ (List.mem_of_getElem? (i := 111) rfl)) (hw _ (List.mem_of_getElem? (i := 91) rfl)) (by decide) (own_rm_sb_apps l Z a0 hw [] b101 ta113 (List.replicate 16 0) 0 s1 t1_ b1 zc T113.heap n0 (Nat.le_trans (Nat.le_trans Z0 E101.1) K113.1) f137 S_cs hzc E_113 Bv_113 Bc_113 Bn_113 Y_113 Et_113 f133 f134 f135 f136 (Or.inl rfl) (Nat.zero_le _) (by simp only [List.length_replicate]; omega) gn107 gn127 ne121) E_113 e131 (argsL := [(.ref s1)]) (stk := [(.ref s1), (.ref b101)]) (st := []) own_pd_27 rfl rfl rfl (W := 0) rfl (by decide) (by decide) (by decide) (by decide) own_d_vftos_11 rfl ?_
  intro T132 L132 v132 X132 q132
  obtain ⟨ta132, bx132, rfl, N132, K132, E_132, Bv_132, Bc_132, Bn_132, Y_132, Et_132, hc132, hm132, ht132, ho132⟩ := q132
  have f138 := (Exa.keep f116 K113)
  have ne139 : a1 ≠ ta132 := ho132.elim (fun e => e ▸ ne117) (fun q => Nat.ne_of_lt (Nat.lt_of_lt_of_le (Exa.lt f138) q))
  have ne140 : s1 ≠ ta132 := ho132.elim (fun e => e ▸ ne119) (fun q => Nat.ne_of_lt (Nat.lt_of_lt_of_le (Exa.lt f133) q))
  have ne141 : t1_ ≠ ta132 := ho132.elim (fun e => e ▸ ne121) (fun q => Nat.ne_of_lt (Nat.lt_of_lt_of_le (OG.BA.lt f136) q))
  have f142 := (Exa.keep f122 K113)
  have ne143 : s2 ≠ ta132 := ho132.elim (fun e => e ▸ ne123) (fun q => Nat.ne_of_lt (Nat.lt_of_lt_of_le (Exa.lt f142) q))
  have f144 := (OG.BA.keep f124 K113 (ninS ne106 nin0))
  have ne145 : t2_ ≠ ta132 := ho132.elim (fun e => e ▸ ne125) (fun q => Nat.ne_of_lt (Nat.lt_of_lt_of_le (OG.BA.lt f144) q))
  have ne146 : b101 ≠ ta132 := ho132.elim (fun e => e ▸ ne126) (fun q => Nat.ne_of_lt (Nat.lt_of_lt_of_le (Exa.lt E_113) q))
  have gn147 : n0 ≤ ta132 := ho132.elim (fun e => e ▸ gn127) (fun q => Nat.le_trans (Nat.le_trans (Nat.le_trans Z0 E101.1) K113.1) q)
  have sz148 : h0.size ≤ ta132 := ho132.elim (fun e => e ▸ sz128) (fun q => Nat.le_trans (Nat.le_trans (Nat.le_trans (Nat.le_refl _) E101.1) K113.1) q)
  have f149 := (Safe.keep K113 (sfS (Safe.exa (EL := own_EL) (vm := s.vm) (show Z.vm.Alike s.vm from hZ.alike) A101 (by decide) (by decide)) sf0) CH109.1 sf115)
  have sf150 : Safe Z own_EL s.vm T113.heap ta132 := ho132.elim (fun e => e ▸ f149) (fun q => Safe.new q)
  have CH151 := CHr.trans CH129 (CHr.keep K132 (sfS (Safe.exa (EL := own_EL) (vm := s.vm) (show Z.vm.Alike s.vm from hZ.alike) E_113 (by decide) (by decide)) (sfS f149 sf0)) CH129.1)
  have M132 := Fr.app M113 N132
  show OG.Go _ _ _ _ (T132.setTop (mkF m 14 #[.val (.ref a1)] [(.ref b101)]))
  refine OG.ldcH X132 hx hZ hby hown (text := ": ") (hw _ (List.mem_of_getElem? (i := 154) rfl)) (own_wS hw) rfl hS0 (Nat.le_trans (Nat.le_trans (Nat.le_trans (Nat.le_refl _) E101.1) K113.1) K132.1) (own_hEL hw) (by simp [own_EL]) CH151.1 (vs := [(.int (58 : Int32)), (.int (32 : Int32))]) (z := (2 : Int32)) ⟨by decide, by decide⟩ (by decide) (by decide) (n := 8) (by decide) (by decide) (by decide) (by decide) own_d_vftos_14 rfl ?_
  intro la152 T152 h152 k152 lt152 kk152 X152 e152 E152 S152 hk152 Zw152 Ow152 C152 Ea152 Fa152 Fb152 Va152 Ne152
  have f153 := (Safe.keep K132 (sfS (Safe.exa (EL := own_EL) (vm := s.vm) (show Z.vm.Alike s.vm from hZ.alike) E_113 (by decide) (by decide)) (sfS f149 sf0)) CH129.1 sf150)
  have CH154 := CHr.trans CH151 (C152)
  have Ya152 : OG.BA Z h152 lt152 [(58 : Int32), (32 : Int32)] := OG.BA.of Va152 rfl rfl (by decide)
  have f155 := (CHr.safe C152 (OG.BA.lt Y_132) f153)
  have f155a : ta132 ≠ la152 := (Ne152 _ f155).1
  have f155b : ta132 ≠ lt152 := (Ne152 _ f155).2
  have f156 := (Exa.ext E152 (Exa.keep f138 K132))
  have ne157 := Ne152 _ (Safe.exa (show Z.vm.Alike T152.vm from Zw152.alike) f156 (by decide) (by decide))
  have f158 := (Exa.ext E152 E_132)
  have ne159 := Ne152 _ (Safe.exa (show Z.vm.Alike T152.vm from Zw152.alike) f158 (by decide) (by decide))
  have f161 := (Fld.ext E152 Bv_132)
  have f162 := (Fld.ext E152 Bc_132)
  have f163 := (Fld.ext E152 Bn_132)
  have f164 := (OG.BA.ext Y_132 E152)
  have f165 := (Exa.ext E152 Et_132)
  have f166 := (Old.ext (Old.keep f137 K132 (allS gn107 (allS gn127 all0))) E152)
  refine OG.cV X152 hx Zw152 hby (by rw [hml]; rfl) Ow152 (y := (⟨"java/lang/StringBuilder", "append", "(Ljava/lang/String;)Ljava/lang/StringBuilder;"⟩ : MethodName)) (z := (⟨"java/lang/StringBuilder", "append", "(Ljava/lang/String;)Ljava/lang/StringBuilder;"⟩ : MethodName)) (hw _ (List.mem_of_getElem? (i := 107) rfl)) (hw _ (List.mem_of_getElem? (i := 108) rfl)) (notFace_of_selects (args := #[]) (mvT (s := s.setVm T152.vm) Zw152 (hw _ (List.mem_of_getElem? (i := 110) rfl)))) (hw _ (List.mem_of_getElem? (i := 110) rfl)) (hw _ (List.mem_of_getElem? (i := 109) rfl)) (hw _ (List.mem_of_getElem? (i := 111) rfl)) (hw _ (List.mem_of_getElem? (i := 91) rfl)) (by decide) (own_rm_sb_apps l Z a0 hw [] b101 ta132 bx132 (0 + b1.length) la152 lt152 [(58 : Int32), (32 : Int32)] zc h152 n0 (Nat.le_trans (Nat.le_trans (Nat.le_trans (Nat.le_trans Z0 E101.1) K113.1) K132.1) E152.1) f166 S_cs hzc f158 f161 f162 f163 f164 f165 Ea152 Fa152 Fb152 Ya152 hc132 hm132 (by rcases hc132 with q | q <;> (simp only [List.length_cons, List.length_nil]; omega)) gn107 gn147 (Ne.symm f155b)) f158 e152 (argsL := [(.ref la152)]) (stk := [(.ref la152), (.ref b101)]) (st := []) own_pd_27 rfl rfl rfl (W := 0) rfl (by decide) (by decide) (by decide) (by decide) own_d_vftos_16 rfl ?_
  intro T160 L160 v160 X160 q160
  obtain ⟨ta160, bx160, rfl, N160, K160, E_160, Bv_160, Bc_160, Bn_160, Y_160, Et_160, hc160, hm160, ht160, ho160⟩ := q160
  have ne167 : a1 ≠ ta160 := ho160.elim (fun e => e ▸ ne139) (fun q => Nat.ne_of_lt (Nat.lt_of_lt_of_le (Exa.lt f156) q))
  have f168 := (Exa.ext E152 (Exa.keep f133 K132))
  have ne169 : s1 ≠ ta160 := ho160.elim (fun e => e ▸ ne140) (fun q => Nat.ne_of_lt (Nat.lt_of_lt_of_le (Exa.lt f168) q))
  have f170 := (OG.BA.ext (OG.BA.keep f136 K132 (ninS ne104 (ninS ne121 nin0))) E152)
  have ne171 : t1_ ≠ ta160 := ho160.elim (fun e => e ▸ ne141) (fun q => Nat.ne_of_lt (Nat.lt_of_lt_of_le (OG.BA.lt f170) q))
  have f172 := (Exa.ext E152 (Exa.keep f142 K132))
  have ne173 : s2 ≠ ta160 := ho160.elim (fun e => e ▸ ne143) (fun q => Nat.ne_of_lt (Nat.lt_of_lt_of_le (Exa.lt f172) q))
  have f174 := (OG.BA.ext (OG.BA.keep f144 K132 (ninS ne106 (ninS ne125 nin0))) E152)
  have ne175 : t2_ ≠ ta160 := ho160.elim (fun e => e ▸ ne145) (fun q => Nat.ne_of_lt (Nat.lt_of_lt_of_le (OG.BA.lt f174) q))
  have ne176 : b101 ≠ ta160 := ho160.elim (fun e => e ▸ ne146) (fun q => Nat.ne_of_lt (Nat.lt_of_lt_of_le (Exa.lt f158) q))
  have ne177 : la152 ≠ ta160 := ho160.elim (fun e => e ▸ (Ne.symm f155a)) (fun q => Nat.ne_of_lt (Nat.lt_of_lt_of_le (Exa.lt Ea152) q))
  have ne178 : lt152 ≠ ta160 := ho160.elim (fun e => e ▸ (Ne.symm f155b)) (fun q => Nat.ne_of_lt (Nat.lt_of_lt_of_le (OG.BA.lt Ya152) q))
  have gn179 : n0 ≤ ta160 := ho160.elim (fun e => e ▸ gn147) (fun q => Nat.le_trans (Nat.le_trans (Nat.le_trans (Nat.le_trans (Nat.le_trans Z0 E101.1) K113.1) K132.1) E152.1) q)
  have sz180 : h0.size ≤ ta160 := ho160.elim (fun e => e ▸ sz148) (fun q => Nat.le_trans (Nat.le_trans (Nat.le_trans (Nat.le_trans (Nat.le_trans (Nat.le_refl _) E101.1) K113.1) K132.1) E152.1) q)
  have sf181 : Safe Z own_EL T152.vm h152 ta160 := ho160.elim (fun e => e ▸ f155) (fun q => Safe.new q)
  have CH182 := CHr.trans CH154 (CHr.keep K160 (sfS (Safe.exa (EL := own_EL) (vm := T152.vm) (show Z.vm.Alike T152.vm from Zw152.alike) f158 (by decide) (by decide)) (sfS f155 sf0)) CH154.1)
  have M160 := Fr.app M132 N160
  show OG.Go _ _ _ _ (T160.setTop (mkF m 19 #[.val (.ref a1)] [(.ref b101)]))
  refine OG.aloadN X160 hx hby own_d_vftos_19 rfl rfl rfl ?_
  have f183 := (Fld.keep (Fld.ext E152 (Fld.keep (Fld.keep (Fld.ext E101 F2) K113 (ninS ne102 nin0)) K132 (ninS ne102 (ninS ne117 nin0)))) K160 (ninS ne102 (ninS ne139 nin0)))
  refine OG.gF X160 hx Zw152 hby Ow152 (hw _ (List.mem_of_getElem? (i := 69) rfl)) Via.refl rfl f183 own_d_vftos_20 rfl ?_
  intro T184 X184 e184
  have f186 := (Exa.keep f172 K160)
  have f187 := (Fld.keep (Fld.ext E152 (Fld.keep (Fld.keep (Fld.ext E101 Fc4) K113 (ninS ne105 nin0)) K132 (ninS ne105 (ninS ne123 nin0)))) K160 (ninS ne105 (ninS ne143 nin0)))
  have f188 := (Fld.keep (Fld.ext E152 (Fld.keep (Fld.keep (Fld.ext E101 Fv4) K113 (ninS ne105 nin0)) K132 (ninS ne105 (ninS ne123 nin0)))) K160 (ninS ne105 (ninS ne143 nin0)))
  have f189 := (OG.BA.keep f174 K160 (ninS ne106 (ninS ne145 nin0)))
  have f190 := (Old.keep f166 K160 (allS gn107 (allS gn147 all0)))
  refine OG.cV X184 hx Zw152 hby (by rw [hml]; rfl) Ow152 (y := (⟨"java/lang/StringBuilder", "append", "(Ljava/lang/String;)Ljava/lang/StringBuilder;"⟩ : MethodName)) (z := (⟨"java/lang/StringBuilder", "append", "(Ljava/lang/String;)Ljava/lang/StringBuilder;"⟩ : MethodName)) (hw _ (List.mem_of_getElem? (i := 107) rfl)) (hw _ (List.mem_of_getElem? (i := 108) rfl)) (notFace_of_selects (args := #[]) (mvT (s := s.setVm T152.vm) Zw152 (hw _ (List.mem_of_getElem? (i := 110) rfl)))) (hw _ (List.mem_of_getElem? (i := 110) rfl)) (hw _ (List.mem_of_getElem? (i := 109) rfl)) (hw _ (List.mem_of_getElem? (i := 111) rfl)) (hw _ (List.mem_of_getElem? (i := 91) rfl)) (by decide) (own_rm_sb_apps l Z a0 hw [] b101 ta160 bx160 ((0 + b1.length) + [(58 : Int32), (32 : Int32)].length) s2 t2_ b2 zc T160.heap n0 (Nat.le_trans (Nat.le_trans (Nat.le_trans (Nat.le_trans (Nat.le_trans Z0 E101.1) K113.1) K132.1) E152.1) K160.1) f190 S_cs hzc E_160 Bv_160 Bc_160 Bn_160 Y_160 Et_160 f186 f187 f188 f189 hc160 hm160 (by rcases hc160 with q | q <;> (simp only [List.length_cons, List.length_nil]; omega)) gn107 gn179 ne175) E_160 e184 (argsL := [(.ref s2)]) (stk := [(.ref s2), (.ref b101)]) (st := []) own_pd_27 rfl rfl rfl (W := 0) rfl (by decide) (by decide) (by decide) (by decide) own_d_vftos_23 rfl ?_
  intro T185 L185 v185 X185 q185
  obtain ⟨ta185, bx185, rfl, N185, K185, E_185, Bv_185, Bc_185, Bn_185, Y_185, Et_185, hc185, hm185, ht185, ho185⟩ := q185
  have f191 := (Exa.keep f156 K160)
  have ne192 : a1 ≠ ta185 := ho185.elim (fun e => e ▸ ne167) (fun q => Nat.ne_of_lt (Nat.lt_of_lt_of_le (Exa.lt f191) q))
  have f193 := (Exa.keep f168 K160)
  have ne194 : s1 ≠ ta185 := ho185.elim (fun e => e ▸ ne169) (fun q => Nat.ne_of_lt (Nat.lt_of_lt_of_le (Exa.lt f193) q))
  have f195 := (OG.BA.keep f170 K160 (ninS ne104 (ninS ne141 nin0)))
  have ne196 : t1_ ≠ ta185 := ho185.elim (fun e => e ▸ ne171) (fun q => Nat.ne_of_lt (Nat.lt_of_lt_of_le (OG.BA.lt f195) q))
  have ne197 : s2 ≠ ta185 := ho185.elim (fun e => e ▸ ne173) (fun q => Nat.ne_of_lt (Nat.lt_of_lt_of_le (Exa.lt f186) q))
  have ne198 : t2_ ≠ ta185 := ho185.elim (fun e => e ▸ ne175) (fun q => Nat.ne_of_lt (Nat.lt_of_lt_of_le (OG.BA.lt f189) q))
  have ne199 : b101 ≠ ta185 := ho185.elim (fun e => e ▸ ne176) (fun q => Nat.ne_of_lt (Nat.lt_of_lt_of_le (Exa.lt E_160) q))
  have f200 := (Exa.keep Ea152 K160)
  have ne201 : la152 ≠ ta185 := ho185.elim (fun e => e ▸ ne177) (fun q => Nat.ne_of_lt (Nat.lt_of_lt_of_le (Exa.lt f200) q))
  have f202 := (OG.BA.keep Ya152 K160 (ninS (Ne.symm ne159.2) (ninS (Ne.symm f155b) nin0)))
  have ne203 : lt152 ≠ ta185 := ho185.elim (fun e => e ▸ ne178) (fun q => Nat.ne_of_lt (Nat.lt_of_lt_of_le (OG.BA.lt f202) q))
  have gn204 : n0 ≤ ta185 := ho185.elim (fun e => e ▸ gn179) (fun q => Nat.le_trans (Nat.le_trans (Nat.le_trans (Nat.le_trans (Nat.le_trans (Nat.le_trans Z0 E101.1) K113.1) K132.1) E152.1) K160.1) q)
  have sz205 : h0.size ≤ ta185 := ho185.elim (fun e => e ▸ sz180) (fun q => Nat.le_trans (Nat.le_trans (Nat.le_trans (Nat.le_trans (Nat.le_trans (Nat.le_trans (Nat.le_refl _) E101.1) K113.1) K132.1) E152.1) K160.1) q)
  have f206 := (Safe.keep K160 (sfS (Safe.exa (EL := own_EL) (vm := T152.vm) (show Z.vm.Alike T152.vm from Zw152.alike) f158 (by decide) (by decide)) (sfS f155 sf0)) CH154.1 sf181)
  have sf207 : Safe Z own_EL T152.vm T160.heap ta185 := ho185.elim (fun e => e ▸ f206) (fun q => Safe.new q)
  have CH208 := CHr.trans CH182 (CHr.keep K185 (sfS (Safe.exa (EL := own_EL) (vm := T152.vm) (show Z.vm.Alike T152.vm from Zw152.alike) E_160 (by decide) (by decide)) (sfS f206 sf0)) CH182.1)
  have M185 := Fr.app M160 N185
  show OG.Go _ _ _ _ (T185.setTop (mkF m 26 #[.val (.ref a1)] [(.ref b101)]))
  have f210 := (Old.keep f190 K185 (allS gn107 (allS gn179 all0)))
  refine OG.cV X185 hx Zw152 hby (by rw [hml]; rfl) Ow152 (y := (⟨"java/lang/StringBuilder", "toString", "()Ljava/lang/String;"⟩ : MethodName)) (z := (⟨"java/lang/StringBuilder", "toString", "()Ljava/lang/String;"⟩ : MethodName)) (hw _ (List.mem_of_getElem? (i := 155) rfl)) (hw _ (List.mem_of_getElem? (i := 156) rfl)) (notFace_of_selects (args := #[]) (mvT (s := s.setVm T152.vm) Zw152 (hw _ (List.mem_of_getElem? (i := 158) rfl)))) (hw _ (List.mem_of_getElem? (i := 158) rfl)) (hw _ (List.mem_of_getElem? (i := 157) rfl)) (hw _ (List.mem_of_getElem? (i := 159) rfl)) (hw _ (List.mem_of_getElem? (i := 91) rfl)) (by decide) (own_rm_sb_tos l Z a0 hw [] b101 ta185 bx185 (((0 + b1.length) + [(58 : Int32), (32 : Int32)].length) + b2.length) zc T185.heap n0 (Nat.le_trans (Nat.le_trans (Nat.le_trans (Nat.le_trans (Nat.le_trans (Nat.le_trans Z0 E101.1) K113.1) K132.1) E152.1) K160.1) K185.1) f210 S_cs hzc E_185 Bv_185 Bc_185 Bn_185 Y_185 Et_185 hm185 (by rcases hc185 with q | q <;> omega) (by rcases hc185 with q | q <;> (rw [q]; simp only [List.length_cons, List.length_nil]; omega))) E_185 rfl (argsL := []) (stk := [(.ref b101)]) (st := []) own_pd_28 rfl rfl rfl (W := 0) rfl (by decide) (by decide) (by decide) (by decide) own_d_vftos_26 rfl ?_
  intro T209 L209 v209 X209 q209
  obtain ⟨sa209, ta209, rfl, N209, K209, E_209, Fc_209, Fv_209, Y_209, sz209, sy209, nn209⟩ := q209
  have f211 := (Exa.keep f191 K185)
  have ne212 : a1 ≠ ta209 := Nat.ne_of_lt (Nat.lt_of_lt_of_le (Exa.lt f211) sz209)
  have f213 := (Exa.keep f193 K185)
  have ne214 : s1 ≠ ta209 := Nat.ne_of_lt (Nat.lt_of_lt_of_le (Exa.lt f213) sz209)
  have f215 := (OG.BA.keep f195 K185 (ninS ne104 (ninS ne171 nin0)))
  have ne216 : t1_ ≠ ta209 := Nat.ne_of_lt (Nat.lt_of_lt_of_le (OG.BA.lt f215) sz209)
  have f217 := (Exa.keep f186 K185)
  have ne218 : s2 ≠ ta209 := Nat.ne_of_lt (Nat.lt_of_lt_of_le (Exa.lt f217) sz209)
  have f219 := (OG.BA.keep f189 K185 (ninS ne106 (ninS ne175 nin0)))
  have ne220 : t2_ ≠ ta209 := Nat.ne_of_lt (Nat.lt_of_lt_of_le (OG.BA.lt f219) sz209)
  have ne221 : b101 ≠ ta209 := Nat.ne_of_lt (Nat.lt_of_lt_of_le (Exa.lt E_185) sz209)
  have f222 := (Exa.keep f200 K185)
  have ne223 : la152 ≠ ta209 := Nat.ne_of_lt (Nat.lt_of_lt_of_le (Exa.lt f222) sz209)
  have f224 := (OG.BA.keep f202 K185 (ninS (Ne.symm ne159.2) (ninS ne178 nin0)))
  have ne225 : lt152 ≠ ta209 := Nat.ne_of_lt (Nat.lt_of_lt_of_le (OG.BA.lt f224) sz209)
  have ne226 : ta185 ≠ ta209 := Nat.ne_of_lt (Nat.lt_of_lt_of_le (OG.BA.lt Y_185) sz209)
  have gn227 : n0 ≤ ta209 := Nat.le_trans (Nat.le_trans (Nat.le_trans (Nat.le_trans (Nat.le_trans (Nat.le_trans (Nat.le_trans Z0 E101.1) K113.1) K132.1) E152.1) K160.1) K185.1) sz209
  have sz228 : h0.size ≤ ta209 := Nat.le_trans (Nat.le_trans (Nat.le_trans (Nat.le_trans (Nat.le_trans (Nat.le_trans (Nat.le_trans (Nat.le_refl _) E101.1) K113.1) K132.1) E152.1) K160.1) K185.1) sz209
  have sf229 : Safe Z own_EL T152.vm T185.heap ta209 := Safe.new sz209
  have ne230 : a1 ≠ sa209 := Nat.ne_of_lt (Nat.lt_of_lt_of_le (Exa.lt f211) sy209)
  have ne231 : s1 ≠ sa209 := Nat.ne_of_lt (Nat.lt_of_lt_of_le (Exa.lt f213) sy209)
  have ne232 : t1_ ≠ sa209 := Nat.ne_of_lt (Nat.lt_of_lt_of_le (OG.BA.lt f215) sy209)
  have ne233 : s2 ≠ sa209 := Nat.ne_of_lt (Nat.lt_of_lt_of_le (Exa.lt f217) sy209)
  have ne234 : t2_ ≠ sa209 := Nat.ne_of_lt (Nat.lt_of_lt_of_le (OG.BA.lt f219) sy209)
  have ne235 : b101 ≠ sa209 := Nat.ne_of_lt (Nat.lt_of_lt_of_le (Exa.lt E_185) sy209)
  have ne236 : la152 ≠ sa209 := Nat.ne_of_lt (Nat.lt_of_lt_of_le (Exa.lt f222) sy209)
  have ne237 : lt152 ≠ sa209 := Nat.ne_of_lt (Nat.lt_of_lt_of_le (OG.BA.lt f224) sy209)
  have ne238 : ta185 ≠ sa209 := Nat.ne_of_lt (Nat.lt_of_lt_of_le (OG.BA.lt Y_185) sy209)
  have gn239 : n0 ≤ sa209 := Nat.le_trans (Nat.le_trans (Nat.le_trans (Nat.le_trans (Nat.le_trans (Nat.le_trans (Nat.le_trans Z0 E101.1) K113.1) K132.1) E152.1) K160.1) K185.1) sy209
  have sz240 : h0.size ≤ sa209 := Nat.le_trans (Nat.le_trans (Nat.le_trans (Nat.le_trans (Nat.le_trans (Nat.le_trans (Nat.le_trans (Nat.le_refl _) E101.1) K113.1) K132.1) E152.1) K160.1) K185.1) sy209
  have sf241 : Safe Z own_EL T152.vm T185.heap sa209 := Safe.new sy209
  have CH242 := CHr.trans CH208 (CHr.keep K209 sf0 CH208.1)
  have M209 := Fr.app M185 N209
  show OG.Go _ _ _ _ (T209.setTop (mkF m 29 #[.val (.ref a1)] [(.ref sa209)]))
  rw [ht185, ht160, ht132, List.take_zero, List.nil_append] at Y_209
  refine OG.retAH X209 hx Zw152 hby (own_hEL hw) S152 (Nat.le_trans (Nat.le_trans (Nat.le_trans hk152 K160.1) K185.1) K209.1) CH242 Bd.returns rfl rfl rfl own_d_vftos_29 Bd.notSynchronized (by decide) (by decide) ?_
  exact ⟨sa209, ta209, rfl, M209, (Keep.trans (Keep.trans (Keep.trans (Keep.ext (Keep.trans (Keep.trans (Keep.ext (Keep.refl h0 []) E101) K113 (allS (Or.inr sz108) all0)) K132 (allS (Or.inr sz108) (allS (Or.inr sz128) all0))) E152) K160 (allS (Or.inr sz108) (allS (Or.inr sz148) all0))) K185 (allS (Or.inr sz108) (allS (Or.inr sz180) all0))) K209 all0), E_209, Fc_209, Fv_209, Y_209⟩
theorem own_blen (b1 b2 : List Int32) : (b1 ++ [(58 : Int32), (32 : Int32)] ++ b2).length = b1.length + 2 + b2.length := by simp only [List.length_append, List.length_cons, List.length_nil]
theorem own_bat1 (b1 b2 : List Int32) {j : Nat} (h : j < b1.length) : (b1 ++ [(58 : Int32), (32 : Int32)] ++ b2).getD j 0 = b1.getD j 0 := by
  rw [List.getD_eq_getElem?_getD, List.append_assoc, List.getElem?_append_left h, ← List.getD_eq_getElem?_getD]
theorem own_bat2 (b1 b2 : List Int32) {j : Nat} (h : j = b1.length) : (b1 ++ [(58 : Int32), (32 : Int32)] ++ b2).getD j 0 = 58 := by
  subst h
  rw [List.getD_eq_getElem?_getD, List.append_assoc, List.getElem?_append_right (Nat.le_refl _), Nat.sub_self]
  rfl
theorem own_bat3 (b1 b2 : List Int32) {j : Nat} (h : j = b1.length + 1) : (b1 ++ [(58 : Int32), (32 : Int32)] ++ b2).getD j 0 = 32 := by
  subst h
  rw [List.getD_eq_getElem?_getD, List.append_assoc, List.getElem?_append_right (by omega), Nat.add_sub_cancel_left]
  rfl
theorem own_bat4 (b1 b2 : List Int32) {j : Nat} (h : b1.length + 2 ≤ j) : (b1 ++ [(58 : Int32), (32 : Int32)] ++ b2).getD j 0 = b2.getD (j - b1.length - 2) 0 := by
  rw [List.getD_eq_getElem?_getD, List.getElem?_append_right (by simp only [List.length_append, List.length_cons, List.length_nil]; omega), List.getD_eq_getElem?_getD]
  simp only [List.length_append, List.length_cons, List.length_nil]
  rw [show j - (b1.length + (0 + 1 + 1)) = j - b1.length - 2 by omega]
theorem own_subN {j n : Nat} (hj : j < 2147483648) (h : n + 2 ≤ j) : Int32.ofNat j - Int32.ofNat n - (2 : Int32) = Int32.ofNat (j - n - 2) := by
  have e1 : (2 : Int32).toInt = 2 := by decide
  have e2 : (Int32.ofNat j - Int32.ofNat n).toInt = j - n := by
    rw [Jvm.Kit.i32_sub (by rw [Int32.toInt_ofNat_of_lt hj, Int32.toInt_ofNat_of_lt (by omega)]; omega) (by rw [Int32.toInt_ofNat_of_lt hj, Int32.toInt_ofNat_of_lt (by omega)]; omega), Int32.toInt_ofNat_of_lt hj, Int32.toInt_ofNat_of_lt (by omega)]
  rw [← Int32.toInt_inj, Int32.toInt_ofNat_of_lt (by omega), Jvm.Kit.i32_sub (by rw [e2, e1]; omega) (by rw [e2, e1]; omega), e2, e1]
  omega
theorem own_d_ok_0 : decode method_4_code 0 = .ok (.iload_n 3, 1) := by decide +kernel
theorem own_d_ok_1 : decode method_4_code 1 = .ok (.aload_n 0, 1) := by decide +kernel
theorem own_d_ok_2 : decode method_4_code 2 = .ok (.invokevirtual 34, 3) := by decide +kernel
theorem own_d_ok_5 : decode method_4_code 5 = .ok (.if_icmp .lt 5, 3) := by decide +kernel
theorem own_d_ok_8 : decode method_4_code 8 = .ok (.iconst 1, 1) := by decide +kernel
theorem own_d_ok_9 : decode method_4_code 9 = .ok (.ireturn, 1) := by decide +kernel
theorem own_d_ok_10 : decode method_4_code 10 = .ok (.aload_n 1, 1) := by decide +kernel
theorem own_d_ok_11 : decode method_4_code 11 = .ok (.invokevirtual 34, 3) := by decide +kernel
theorem own_d_ok_14 : decode method_4_code 14 = .ok (.istore 4, 2) := by decide +kernel
theorem own_d_ok_16 : decode method_4_code 16 = .ok (.iload_n 3, 1) := by decide +kernel
theorem own_d_ok_17 : decode method_4_code 17 = .ok (.iload 4, 2) := by decide +kernel
theorem own_d_ok_19 : decode method_4_code 19 = .ok (.if_icmp .ge 13, 3) := by decide +kernel
theorem own_d_ok_22 : decode method_4_code 22 = .ok (.aload_n 1, 1) := by decide +kernel
theorem own_d_ok_23 : decode method_4_code 23 = .ok (.iload_n 3, 1) := by decide +kernel
theorem own_d_ok_24 : decode method_4_code 24 = .ok (.invokevirtual 50, 3) := by decide +kernel
theorem own_d_ok_27 : decode method_4_code 27 = .ok (.istore 5, 2) := by decide +kernel
theorem own_d_ok_29 : decode method_4_code 29 = .ok (.goto 43, 3) := by decide +kernel
theorem own_d_ok_32 : decode method_4_code 32 = .ok (.iload_n 3, 1) := by decide +kernel
theorem own_d_ok_33 : decode method_4_code 33 = .ok (.iload 4, 2) := by decide +kernel
theorem own_d_ok_35 : decode method_4_code 35 = .ok (.if_icmp .ne 10, 3) := by decide +kernel
theorem own_d_ok_38 : decode method_4_code 38 = .ok (.bipush 58, 2) := by decide +kernel
theorem own_d_ok_40 : decode method_4_code 40 = .ok (.istore 5, 2) := by decide +kernel
theorem own_d_ok_42 : decode method_4_code 42 = .ok (.goto 30, 3) := by decide +kernel
theorem own_d_ok_45 : decode method_4_code 45 = .ok (.iload_n 3, 1) := by decide +kernel
theorem own_d_ok_46 : decode method_4_code 46 = .ok (.iload 4, 2) := by decide +kernel
theorem own_d_ok_48 : decode method_4_code 48 = .ok (.iconst 1, 1) := by decide +kernel
theorem own_d_ok_49 : decode method_4_code 49 = .ok (.iadd, 1) := by decide +kernel
theorem own_d_ok_50 : decode method_4_code 50 = .ok (.if_icmp .ne 10, 3) := by decide +kernel
theorem own_d_ok_53 : decode method_4_code 53 = .ok (.bipush 32, 2) := by decide +kernel
theorem own_d_ok_55 : decode method_4_code 55 = .ok (.istore 5, 2) := by decide +kernel
theorem own_d_ok_57 : decode method_4_code 57 = .ok (.goto 15, 3) := by decide +kernel
theorem own_d_ok_60 : decode method_4_code 60 = .ok (.aload_n 2, 1) := by decide +kernel
theorem own_d_ok_61 : decode method_4_code 61 = .ok (.iload_n 3, 1) := by decide +kernel
theorem own_d_ok_62 : decode method_4_code 62 = .ok (.iload 4, 2) := by decide +kernel
theorem own_d_ok_64 : decode method_4_code 64 = .ok (.isub, 1) := by decide +kernel
theorem own_d_ok_65 : decode method_4_code 65 = .ok (.iconst 2, 1) := by decide +kernel
theorem own_d_ok_66 : decode method_4_code 66 = .ok (.isub, 1) := by decide +kernel
theorem own_d_ok_67 : decode method_4_code 67 = .ok (.invokevirtual 50, 3) := by decide +kernel
theorem own_d_ok_70 : decode method_4_code 70 = .ok (.istore 5, 2) := by decide +kernel
theorem own_d_ok_72 : decode method_4_code 72 = .ok (.aload_n 0, 1) := by decide +kernel
theorem own_d_ok_73 : decode method_4_code 73 = .ok (.iload_n 3, 1) := by decide +kernel
theorem own_d_ok_74 : decode method_4_code 74 = .ok (.invokevirtual 50, 3) := by decide +kernel
theorem own_d_ok_77 : decode method_4_code 77 = .ok (.iload 5, 2) := by decide +kernel
theorem own_d_ok_79 : decode method_4_code 79 = .ok (.if_icmp .ne 7, 3) := by decide +kernel
theorem own_d_ok_82 : decode method_4_code 82 = .ok (.iconst 1, 1) := by decide +kernel
theorem own_d_ok_83 : decode method_4_code 83 = .ok (.goto 4, 3) := by decide +kernel
theorem own_d_ok_87 : decode method_4_code 87 = .ok (.ireturn, 1) := by decide +kernel
theorem own_pn_ok : plainName "com/example/scrutineer/scrutineer/ValidationFailureToStringPinLaw" = true := by first | (simp [plainName, overriddenIn]; done) | decide +kernel
theorem own_ef_ok (m : MethodId) (x0 : Addr) (x1 : Addr) (x2 : Addr) (x3 : Int32)  : entryFrame m #[(.ref x0), (.ref x1), (.ref x2), (.int x3)] 6 = mkF m 0 #[.val (.ref x0), .val (.ref x1), .val (.ref x2), .val (.int x3), .unset, .unset] [] := by first | (simp [entryFrame, mkF, argsToLocals, Value.category]; done) | rfl
def own_Q_ok (Z : State) (sa : Addr) (ta : Addr) (s1 : Addr) (t1_ : Addr) (b1 : List Int32) (s2 : Addr) (t2_ : Addr) (b2 : List Int32) (j : Nat) (zc : Int32) (fm : Value) (h0 : Heap) (n0 : Nat) (v : Option Value) (h : Heap) (L : List Loc) : Prop := v = some (.int (1 : Int32)) ∧ Fr n0 L ∧ h = h0
set_option maxRecDepth 65536 in
set_option maxHeartbeats 40000000 in
theorem own_rm_ok (l : Launch) (Z : State) (a0 : Array Value) (hw : ∀ d ∈ tables_1, d.before a0 Z = true) (ws : List Jvm.Cond) (sa : Addr) (ta : Addr) (s1 : Addr) (t1_ : Addr) (b1 : List Int32) (s2 : Addr) (t2_ : Addr) (b2 : List Int32) (j : Nat) (zc : Int32) (fm : Value) (h0 : Heap) (n0 : Nat) (Z0 : n0 ≤ h0.size) (O1 : Old Z n0 h0) (S_cs : Sta Z Z.heap "java/lang/String" "COMPACT_STRINGS" "Z" (.int zc)) (hzc : ¬ zc = (0 : Int32)) (S_fm : Sta Z Z.heap "jdk/internal/util/Preconditions" "SIOOBE_FORMATTER" "Ljava/util/function/BiFunction;" fm) (hfm : fm.isRef = true) (E1 : Exa Z h0 sa "java/lang/String") (Fc1 : Fld Z h0 sa "java/lang/String" "coder" "B" (.int (0 : Int32))) (Fv1 : Fld Z h0 sa "java/lang/String" "value" "[B" (.ref ta)) (Y1 : OG.BA Z h0 ta (b1 ++ [(58 : Int32), (32 : Int32)] ++ b2)) (E2 : Exa Z h0 s1 "java/lang/String") (Fc2 : Fld Z h0 s1 "java/lang/String" "coder" "B" (.int (0 : Int32))) (Fv2 : Fld Z h0 s1 "java/lang/String" "value" "[B" (.ref t1_)) (Y2 : OG.BA Z h0 t1_ b1) (E3 : Exa Z h0 s2 "java/lang/String") (Fc3 : Fld Z h0 s2 "java/lang/String" "coder" "B" (.int (0 : Int32))) (Fv3 : Fld Z h0 s2 "java/lang/String" "value" "[B" (.ref t2_)) (Y3 : OG.BA Z h0 t2_ b2) (hj : j < 2147483648) (hb1 : b1.length ≤ 3) (hb2 : b2.length ≤ 3) :
    MetFree l (⟨"com/example/scrutineer/scrutineer/ValidationFailureToStringPinLaw", "ok", "(Ljava/lang/String;Ljava/lang/String;Ljava/lang/String;I)Z"⟩ : MethodName) (head1 (Jvm.Cond.code (⟨"com/example/scrutineer/scrutineer/ValidationFailureToStringPinLaw", "ok", "(Ljava/lang/String;Ljava/lang/String;Ljava/lang/String;I)Z"⟩ : MethodName) method_4_code 6 (some .boolean) :: ws) ({ frames := 4, cells := 0, slots := 0, locals := 53 } : Room)) (fun a U => a = #[(.ref sa), (.ref s1), (.ref s2), (.int (Int32.ofNat j))] ∧ Z.Warmed39 U.vm ∧ U.heap = h0) (fun _ _ _ _ _ => True) (fun _ U o U' => ∃ v L, o = .returned v ∧ own_Q_ok Z sa ta s1 t1_ b1 s2 t2_ b2 j zc fm h0 n0 v U'.heap L ∧ FrameEnd U o U' L ({ frames := 4, cells := 0, slots := 0, locals := 53 } : Room).cells ({ frames := 4, cells := 0, slots := 0, locals := 53 } : Room).slots) := by
  refine MetFree.of_bodySF (plainFor_of_name own_pn_ok) hisR ?_
  intro p e s m args below meth c s₁ Bd hml0 hP hK
  obtain ⟨rfl, hZ, hh⟩ := hP
  have hx := Bd.exec
  have hby := Bd.bytes
  have hml : c.maxLocals = 6 := hml0
  have hown : s.vm.findClass "com/example/scrutineer/scrutineer/ValidationFailureToStringPinLaw" = some m.cls := findClass_of_methodNamed Bd.named
  have hnm := (name_of_methodNamed Bd.named Bd.method).1
  have X0 : Stand p l e ({ frames := 4, cells := 0, slots := 0, locals := 53 } : Room) s m #[(.ref sa), (.ref s1), (.ref s2), (.int (Int32.ofNat j))] below meth c s₁ [] 0 0 := Stand.of_body Bd
  have e0 : s₁.heap = h0 := by rw [← hh, Bd.state]; rfl
  have N0 := Fr.nil n0
  show OG.Go p.tables e below (OG.GP (own_Q_ok Z sa ta s1 t1_ b1 s2 t2_ b2 j zc fm h0 n0) ({ frames := 4, cells := 0, slots := 0, locals := 53 } : Room).cells ({ frames := 4, cells := 0, slots := 0, locals := 53 } : Room).slots s) (s₁.setTop (entryFrame m #[(.ref sa), (.ref s1), (.ref s2), (.int (Int32.ofNat j))] 6))
  refine OG.Go.cast (own_ef_ok m sa s1 s2 (Int32.ofNat j)) ?_
  refine OG.iloadN X0 hx hby own_d_ok_0 rfl rfl ?_
  refine OG.aloadN X0 hx hby own_d_ok_1 rfl rfl rfl ?_
  refine OG.cV X0 hx hZ hby (by rw [hml]; rfl) hown (y := (⟨"java/lang/String", "length", "()I"⟩ : MethodName)) (z := (⟨"java/lang/String", "length", "()I"⟩ : MethodName)) (hw _ (List.mem_of_getElem? (i := 200) rfl)) (hw _ (List.mem_of_getElem? (i := 118) rfl)) (notFace_of_selects (args := #[]) (mvT hZ (hw _ (List.mem_of_getElem? (i := 120) rfl)))) (hw _ (List.mem_of_getElem? (i := 120) rfl)) (hw _ (List.mem_of_getElem? (i := 119) rfl)) (hw _ (List.mem_of_getElem? (i := 121) rfl)) (hw _ (List.mem_of_getElem? (i := 6) rfl)) (by decide) (own_rm_s_len l Z a0 hw [] sa ta (b1 ++ [(58 : Int32), (32 : Int32)] ++ b2) zc h0 n0 Z0 O1 S_cs hzc E1 Fc1 Fv1 Y1) E1 e0 (argsL := []) (stk := [(.ref sa), (.int (Int32.ofNat j))]) (st := [(.int (Int32.ofNat j))]) own_pd_8 rfl rfl rfl (W := 1) rfl (by decide) (by decide) (by decide) (by decide) own_d_ok_2 rfl ?_
  intro T101 L101 v101 X101 q101
  obtain ⟨rfl, N101, e101⟩ := q101
  have M101 := Fr.app N0 N101
  show OG.Go _ _ _ _ (T101.setTop (mkF m 5 #[.val (.ref sa), .val (.ref s1), .val (.ref s2), .val (.int (Int32.ofNat j)), .unset, .unset] [(.int (Int32.ofNat (b1 ++ [(58 : Int32), (32 : Int32)] ++ b2).length)), (.int (Int32.ofNat j))]))
  by_cases hc5_102 : (Int32.ofNat j) < (Int32.ofNat (b1 ++ [(58 : Int32), (32 : Int32)] ++ b2).length)
  · refine OG.icmpYes (pc' := 10) X101 hx hby own_d_ok_5 (tlt hc5_102).1 (by decide) (by decide) ?_
    have hjB : j < b1.length + 2 + b2.length := by have q := (OG.ofN_ltiff hj Y1.1).mp hc5_102; rwa [own_blen] at q
    refine OG.aloadN X101 hx hby own_d_ok_10 rfl rfl rfl ?_
    refine OG.cV X101 hx hZ hby (by rw [hml]; rfl) hown (y := (⟨"java/lang/String", "length", "()I"⟩ : MethodName)) (z := (⟨"java/lang/String", "length", "()I"⟩ : MethodName)) (hw _ (List.mem_of_getElem? (i := 200) rfl)) (hw _ (List.mem_of_getElem? (i := 118) rfl)) (notFace_of_selects (args := #[]) (mvT hZ (hw _ (List.mem_of_getElem? (i := 120) rfl)))) (hw _ (List.mem_of_getElem? (i := 120) rfl)) (hw _ (List.mem_of_getElem? (i := 119) rfl)) (hw _ (List.mem_of_getElem? (i := 121) rfl)) (hw _ (List.mem_of_getElem? (i := 6) rfl)) (by decide) (own_rm_s_len l Z a0 hw [] s1 t1_ b1 zc h0 n0 Z0 O1 S_cs hzc E2 Fc2 Fv2 Y2) E2 e101 (argsL := []) (stk := [(.ref s1)]) (st := []) own_pd_8 rfl rfl rfl (W := 0) rfl (by decide) (by decide) (by decide) (by decide) own_d_ok_11 rfl ?_
    intro T103 L103 v103 X103 q103
    obtain ⟨rfl, N103, e103⟩ := q103
    have M103 := Fr.app M101 N103
    show OG.Go _ _ _ _ (T103.setTop (mkF m 14 #[.val (.ref sa), .val (.ref s1), .val (.ref s2), .val (.int (Int32.ofNat j)), .unset, .unset] [(.int (Int32.ofNat b1.length))]))
    refine OG.istore (Ls' := #[.val (.ref sa), .val (.ref s1), .val (.ref s2), .val (.int (Int32.ofNat j)), .val (.int (Int32.ofNat b1.length)), .unset]) X103 hx hby own_d_ok_14 rfl rfl ?_
    refine OG.iloadN X103 hx hby own_d_ok_16 rfl rfl ?_
    refine OG.iload X103 hx hby own_d_ok_17 rfl rfl ?_
    by_cases hc19_104 : (Int32.ofNat j) < (Int32.ofNat b1.length)
    · refine OG.icmpNo X103 hx hby own_d_ok_19 (tlt hc19_104).2.1 rfl ?_
      have hj1 : j < b1.length := (OG.ofN_ltiff hj Y2.1).mp hc19_104
      refine OG.aloadN X103 hx hby own_d_ok_22 rfl rfl rfl ?_
      refine OG.iloadN X103 hx hby own_d_ok_23 rfl rfl ?_
      refine OG.cV X103 hx hZ hby (by rw [hml]; rfl) hown (y := (⟨"java/lang/String", "charAt", "(I)C"⟩ : MethodName)) (z := (⟨"java/lang/String", "charAt", "(I)C"⟩ : MethodName)) (hw _ (List.mem_of_getElem? (i := 204) rfl)) (hw _ (List.mem_of_getElem? (i := 205) rfl)) (notFace_of_selects (args := #[]) (mvT hZ (hw _ (List.mem_of_getElem? (i := 207) rfl)))) (hw _ (List.mem_of_getElem? (i := 207) rfl)) (hw _ (List.mem_of_getElem? (i := 206) rfl)) (hw _ (List.mem_of_getElem? (i := 208) rfl)) (hw _ (List.mem_of_getElem? (i := 6) rfl)) (by decide) (own_rm_s_chr l Z a0 hw [] s1 t1_ b1 j zc fm h0 n0 Z0 O1 S_cs hzc S_fm hfm E2 Fc2 Fv2 Y2 hj1) E2 e103 (argsL := [(.int (Int32.ofNat j))]) (stk := [(.int (Int32.ofNat j)), (.ref s1)]) (st := []) own_pd_29 rfl rfl rfl (W := 0) rfl (by decide) (by decide) (by decide) (by decide) own_d_ok_24 rfl ?_
      intro T105 L105 v105 X105 q105
      obtain ⟨rfl, N105, e105⟩ := q105
      have M105 := Fr.app M103 N105
      show OG.Go _ _ _ _ (T105.setTop (mkF m 27 #[.val (.ref sa), .val (.ref s1), .val (.ref s2), .val (.int (Int32.ofNat j)), .val (.int (Int32.ofNat b1.length)), .unset] [(.int (b1.getD j 0 &&& (255 : Int32)))]))
      refine OG.istore (Ls' := #[.val (.ref sa), .val (.ref s1), .val (.ref s2), .val (.int (Int32.ofNat j)), .val (.int (Int32.ofNat b1.length)), .val (.int (b1.getD j 0 &&& (255 : Int32)))]) X105 hx hby own_d_ok_27 rfl rfl ?_
      refine OG.goto (pc' := 72) X105 hx hby own_d_ok_29 (by decide) (by decide) ?_
      refine OG.aloadN X105 hx hby own_d_ok_72 rfl rfl rfl ?_
      refine OG.iloadN X105 hx hby own_d_ok_73 rfl rfl ?_
      refine OG.cV X105 hx hZ hby (by rw [hml]; rfl) hown (y := (⟨"java/lang/String", "charAt", "(I)C"⟩ : MethodName)) (z := (⟨"java/lang/String", "charAt", "(I)C"⟩ : MethodName)) (hw _ (List.mem_of_getElem? (i := 204) rfl)) (hw _ (List.mem_of_getElem? (i := 205) rfl)) (notFace_of_selects (args := #[]) (mvT hZ (hw _ (List.mem_of_getElem? (i := 207) rfl)))) (hw _ (List.mem_of_getElem? (i := 207) rfl)) (hw _ (List.mem_of_getElem? (i := 206) rfl)) (hw _ (List.mem_of_getElem? (i := 208) rfl)) (hw _ (List.mem_of_getElem? (i := 6) rfl)) (by decide) (own_rm_s_chr l Z a0 hw [] sa ta (b1 ++ [(58 : Int32), (32 : Int32)] ++ b2) j zc fm h0 n0 Z0 O1 S_cs hzc S_fm hfm E1 Fc1 Fv1 Y1 (by rw [own_blen]; exact hjB)) E1 e105 (argsL := [(.int (Int32.ofNat j))]) (stk := [(.int (Int32.ofNat j)), (.ref sa)]) (st := []) own_pd_29 rfl rfl rfl (W := 0) rfl (by decide) (by decide) (by decide) (by decide) own_d_ok_74 rfl ?_
      intro T106 L106 v106 X106 q106
      obtain ⟨rfl, N106, e106⟩ := q106
      have M106 := Fr.app M105 N106
      show OG.Go _ _ _ _ (T106.setTop (mkF m 77 #[.val (.ref sa), .val (.ref s1), .val (.ref s2), .val (.int (Int32.ofNat j)), .val (.int (Int32.ofNat b1.length)), .val (.int (b1.getD j 0 &&& (255 : Int32)))] [(.int ((b1 ++ [(58 : Int32), (32 : Int32)] ++ b2).getD j 0 &&& (255 : Int32)))]))
      rw [own_bat1 b1 b2 hj1]
      refine OG.iload X106 hx hby own_d_ok_77 rfl rfl ?_
      refine OG.icmpNo X106 hx hby own_d_ok_79 (teq rfl).2 rfl ?_
      refine OG.iconst (v := (1 : Int32)) X106 hx hby own_d_ok_82 (by decide) rfl ?_
      refine OG.goto (pc' := 87) X106 hx hby own_d_ok_83 (by decide) (by decide) ?_
      refine OG.retZ X106 hx hby Bd.returns (by simp) own_d_ok_87 Bd.notSynchronized (by decide) (by decide) ?_
      exact ⟨rfl, M106, e106⟩
    · refine OG.icmpYes (pc' := 32) X103 hx hby own_d_ok_19 (flt hc19_104).2.1 (by decide) (by decide) ?_
      have hj2 : b1.length ≤ j := Nat.not_lt.mp fun q => hc19_104 ((OG.ofN_ltiff hj Y2.1).mpr q)
      refine OG.iloadN X103 hx hby own_d_ok_32 rfl rfl ?_
      refine OG.iload X103 hx hby own_d_ok_33 rfl rfl ?_
      by_cases hc35_107 : (Int32.ofNat j) = (Int32.ofNat b1.length)
      · refine OG.icmpNo X103 hx hby own_d_ok_35 (teq hc35_107).2 rfl ?_
        have hj3 : j = b1.length := (OG.ofN_inj hj Y2.1).mp hc35_107
        refine OG.bipush (v := (58 : Int32)) X103 hx hby own_d_ok_38 (by decide) rfl ?_
        refine OG.istore (Ls' := #[.val (.ref sa), .val (.ref s1), .val (.ref s2), .val (.int (Int32.ofNat j)), .val (.int (Int32.ofNat b1.length)), .val (.int (58 : Int32))]) X103 hx hby own_d_ok_40 rfl rfl ?_
        refine OG.goto (pc' := 72) X103 hx hby own_d_ok_42 (by decide) (by decide) ?_
        refine OG.aloadN X103 hx hby own_d_ok_72 rfl rfl rfl ?_
        refine OG.iloadN X103 hx hby own_d_ok_73 rfl rfl ?_
        refine OG.cV X103 hx hZ hby (by rw [hml]; rfl) hown (y := (⟨"java/lang/String", "charAt", "(I)C"⟩ : MethodName)) (z := (⟨"java/lang/String", "charAt", "(I)C"⟩ : MethodName)) (hw _ (List.mem_of_getElem? (i := 204) rfl)) (hw _ (List.mem_of_getElem? (i := 205) rfl)) (notFace_of_selects (args := #[]) (mvT hZ (hw _ (List.mem_of_getElem? (i := 207) rfl)))) (hw _ (List.mem_of_getElem? (i := 207) rfl)) (hw _ (List.mem_of_getElem? (i := 206) rfl)) (hw _ (List.mem_of_getElem? (i := 208) rfl)) (hw _ (List.mem_of_getElem? (i := 6) rfl)) (by decide) (own_rm_s_chr l Z a0 hw [] sa ta (b1 ++ [(58 : Int32), (32 : Int32)] ++ b2) j zc fm h0 n0 Z0 O1 S_cs hzc S_fm hfm E1 Fc1 Fv1 Y1 (by rw [own_blen]; exact hjB)) E1 e103 (argsL := [(.int (Int32.ofNat j))]) (stk := [(.int (Int32.ofNat j)), (.ref sa)]) (st := []) own_pd_29 rfl rfl rfl (W := 0) rfl (by decide) (by decide) (by decide) (by decide) own_d_ok_74 rfl ?_
        intro T108 L108 v108 X108 q108
        obtain ⟨rfl, N108, e108⟩ := q108
        have M108 := Fr.app M103 N108
        show OG.Go _ _ _ _ (T108.setTop (mkF m 77 #[.val (.ref sa), .val (.ref s1), .val (.ref s2), .val (.int (Int32.ofNat j)), .val (.int (Int32.ofNat b1.length)), .val (.int (58 : Int32))] [(.int ((b1 ++ [(58 : Int32), (32 : Int32)] ++ b2).getD j 0 &&& (255 : Int32)))]))
        rw [own_bat2 b1 b2 hj3, show (58 : Int32) &&& 255 = 58 from by decide]
        refine OG.iload X108 hx hby own_d_ok_77 rfl rfl ?_
        refine OG.icmpNo X108 hx hby own_d_ok_79 (teq (by decide)).2 rfl ?_
        refine OG.iconst (v := (1 : Int32)) X108 hx hby own_d_ok_82 (by decide) rfl ?_
        refine OG.goto (pc' := 87) X108 hx hby own_d_ok_83 (by decide) (by decide) ?_
        refine OG.retZ X108 hx hby Bd.returns (by simp) own_d_ok_87 Bd.notSynchronized (by decide) (by decide) ?_
        exact ⟨rfl, M108, e108⟩
      · refine OG.icmpYes (pc' := 45) X103 hx hby own_d_ok_35 (feq hc35_107).2 (by decide) (by decide) ?_
        have hj4 : j ≠ b1.length := fun q => hc35_107 (congrArg Int32.ofNat q)
        refine OG.iloadN X103 hx hby own_d_ok_45 rfl rfl ?_
        refine OG.iload X103 hx hby own_d_ok_46 rfl rfl ?_
        refine OG.iconst (v := (1 : Int32)) X103 hx hby own_d_ok_48 (by decide) rfl ?_
        refine OG.iadd X103 hx hby own_d_ok_49 rfl ?_
        rw [show ((Int32.ofNat b1.length) + (1 : Int32)) = (Int32.ofNat (b1.length + 1)) from OG.addN _ 1]
        by_cases hc50_109 : (Int32.ofNat j) = (Int32.ofNat (b1.length + 1))
        · refine OG.icmpNo X103 hx hby own_d_ok_50 (teq hc50_109).2 rfl ?_
          have hj5 : j = b1.length + 1 := (OG.ofN_inj hj (by omega)).mp hc50_109
          refine OG.bipush (v := (32 : Int32)) X103 hx hby own_d_ok_53 (by decide) rfl ?_
          refine OG.istore (Ls' := #[.val (.ref sa), .val (.ref s1), .val (.ref s2), .val (.int (Int32.ofNat j)), .val (.int (Int32.ofNat b1.length)), .val (.int (32 : Int32))]) X103 hx hby own_d_ok_55 rfl rfl ?_
          refine OG.goto (pc' := 72) X103 hx hby own_d_ok_57 (by decide) (by decide) ?_
          refine OG.aloadN X103 hx hby own_d_ok_72 rfl rfl rfl ?_
          refine OG.iloadN X103 hx hby own_d_ok_73 rfl rfl ?_
          refine OG.cV X103 hx hZ hby (by rw [hml]; rfl) hown (y := (⟨"java/lang/String", "charAt", "(I)C"⟩ : MethodName)) (z := (⟨"java/lang/String", "charAt", "(I)C"⟩ : MethodName)) (hw _ (List.mem_of_getElem? (i := 204) rfl)) (hw _ (List.mem_of_getElem? (i := 205) rfl)) (notFace_of_selects (args := #[]) (mvT hZ (hw _ (List.mem_of_getElem? (i := 207) rfl)))) (hw _ (List.mem_of_getElem? (i := 207) rfl)) (hw _ (List.mem_of_getElem? (i := 206) rfl)) (hw _ (List.mem_of_getElem? (i := 208) rfl)) (hw _ (List.mem_of_getElem? (i := 6) rfl)) (by decide) (own_rm_s_chr l Z a0 hw [] sa ta (b1 ++ [(58 : Int32), (32 : Int32)] ++ b2) j zc fm h0 n0 Z0 O1 S_cs hzc S_fm hfm E1 Fc1 Fv1 Y1 (by rw [own_blen]; exact hjB)) E1 e103 (argsL := [(.int (Int32.ofNat j))]) (stk := [(.int (Int32.ofNat j)), (.ref sa)]) (st := []) own_pd_29 rfl rfl rfl (W := 0) rfl (by decide) (by decide) (by decide) (by decide) own_d_ok_74 rfl ?_
          intro T110 L110 v110 X110 q110
          obtain ⟨rfl, N110, e110⟩ := q110
          have M110 := Fr.app M103 N110
          show OG.Go _ _ _ _ (T110.setTop (mkF m 77 #[.val (.ref sa), .val (.ref s1), .val (.ref s2), .val (.int (Int32.ofNat j)), .val (.int (Int32.ofNat b1.length)), .val (.int (32 : Int32))] [(.int ((b1 ++ [(58 : Int32), (32 : Int32)] ++ b2).getD j 0 &&& (255 : Int32)))]))
          rw [own_bat3 b1 b2 hj5, show (32 : Int32) &&& 255 = 32 from by decide]
          refine OG.iload X110 hx hby own_d_ok_77 rfl rfl ?_
          refine OG.icmpNo X110 hx hby own_d_ok_79 (teq (by decide)).2 rfl ?_
          refine OG.iconst (v := (1 : Int32)) X110 hx hby own_d_ok_82 (by decide) rfl ?_
          refine OG.goto (pc' := 87) X110 hx hby own_d_ok_83 (by decide) (by decide) ?_
          refine OG.retZ X110 hx hby Bd.returns (by simp) own_d_ok_87 Bd.notSynchronized (by decide) (by decide) ?_
          exact ⟨rfl, M110, e110⟩
        · refine OG.icmpYes (pc' := 60) X103 hx hby own_d_ok_50 (feq hc50_109).2 (by decide) (by decide) ?_
          have hj6 : b1.length + 2 ≤ j := by have q : j ≠ b1.length + 1 := fun q => hc50_109 (congrArg Int32.ofNat q); omega
          refine OG.aloadN X103 hx hby own_d_ok_60 rfl rfl rfl ?_
          refine OG.iloadN X103 hx hby own_d_ok_61 rfl rfl ?_
          refine OG.iload X103 hx hby own_d_ok_62 rfl rfl ?_
          refine OG.isub X103 hx hby own_d_ok_64 rfl ?_
          refine OG.iconst (v := (2 : Int32)) X103 hx hby own_d_ok_65 (by decide) rfl ?_
          refine OG.isub X103 hx hby own_d_ok_66 rfl ?_
          rw [own_subN hj hj6]
          refine OG.cV X103 hx hZ hby (by rw [hml]; rfl) hown (y := (⟨"java/lang/String", "charAt", "(I)C"⟩ : MethodName)) (z := (⟨"java/lang/String", "charAt", "(I)C"⟩ : MethodName)) (hw _ (List.mem_of_getElem? (i := 204) rfl)) (hw _ (List.mem_of_getElem? (i := 205) rfl)) (notFace_of_selects (args := #[]) (mvT hZ (hw _ (List.mem_of_getElem? (i := 207) rfl)))) (hw _ (List.mem_of_getElem? (i := 207) rfl)) (hw _ (List.mem_of_getElem? (i := 206) rfl)) (hw _ (List.mem_of_getElem? (i := 208) rfl)) (hw _ (List.mem_of_getElem? (i := 6) rfl)) (by decide) (own_rm_s_chr l Z a0 hw [] s2 t2_ b2 (j - b1.length - 2) zc fm h0 n0 Z0 O1 S_cs hzc S_fm hfm E3 Fc3 Fv3 Y3 (by omega)) E3 e103 (argsL := [(.int (Int32.ofNat (j - b1.length - 2)))]) (stk := [(.int (Int32.ofNat (j - b1.length - 2))), (.ref s2)]) (st := []) own_pd_29 rfl rfl rfl (W := 0) rfl (by decide) (by decide) (by decide) (by decide) own_d_ok_67 rfl ?_
          intro T111 L111 v111 X111 q111
          obtain ⟨rfl, N111, e111⟩ := q111
          have M111 := Fr.app M103 N111
          show OG.Go _ _ _ _ (T111.setTop (mkF m 70 #[.val (.ref sa), .val (.ref s1), .val (.ref s2), .val (.int (Int32.ofNat j)), .val (.int (Int32.ofNat b1.length)), .unset] [(.int (b2.getD (j - b1.length - 2) 0 &&& (255 : Int32)))]))
          refine OG.istore (Ls' := #[.val (.ref sa), .val (.ref s1), .val (.ref s2), .val (.int (Int32.ofNat j)), .val (.int (Int32.ofNat b1.length)), .val (.int (b2.getD (j - b1.length - 2) 0 &&& (255 : Int32)))]) X111 hx hby own_d_ok_70 rfl rfl ?_
          refine OG.aloadN X111 hx hby own_d_ok_72 rfl rfl rfl ?_
          refine OG.iloadN X111 hx hby own_d_ok_73 rfl rfl ?_
          refine OG.cV X111 hx hZ hby (by rw [hml]; rfl) hown (y := (⟨"java/lang/String", "charAt", "(I)C"⟩ : MethodName)) (z := (⟨"java/lang/String", "charAt", "(I)C"⟩ : MethodName)) (hw _ (List.mem_of_getElem? (i := 204) rfl)) (hw _ (List.mem_of_getElem? (i := 205) rfl)) (notFace_of_selects (args := #[]) (mvT hZ (hw _ (List.mem_of_getElem? (i := 207) rfl)))) (hw _ (List.mem_of_getElem? (i := 207) rfl)) (hw _ (List.mem_of_getElem? (i := 206) rfl)) (hw _ (List.mem_of_getElem? (i := 208) rfl)) (hw _ (List.mem_of_getElem? (i := 6) rfl)) (by decide) (own_rm_s_chr l Z a0 hw [] sa ta (b1 ++ [(58 : Int32), (32 : Int32)] ++ b2) j zc fm h0 n0 Z0 O1 S_cs hzc S_fm hfm E1 Fc1 Fv1 Y1 (by rw [own_blen]; exact hjB)) E1 e111 (argsL := [(.int (Int32.ofNat j))]) (stk := [(.int (Int32.ofNat j)), (.ref sa)]) (st := []) own_pd_29 rfl rfl rfl (W := 0) rfl (by decide) (by decide) (by decide) (by decide) own_d_ok_74 rfl ?_
          intro T112 L112 v112 X112 q112
          obtain ⟨rfl, N112, e112⟩ := q112
          have M112 := Fr.app M111 N112
          show OG.Go _ _ _ _ (T112.setTop (mkF m 77 #[.val (.ref sa), .val (.ref s1), .val (.ref s2), .val (.int (Int32.ofNat j)), .val (.int (Int32.ofNat b1.length)), .val (.int (b2.getD (j - b1.length - 2) 0 &&& (255 : Int32)))] [(.int ((b1 ++ [(58 : Int32), (32 : Int32)] ++ b2).getD j 0 &&& (255 : Int32)))]))
          rw [own_bat4 b1 b2 hj6]
          refine OG.iload X112 hx hby own_d_ok_77 rfl rfl ?_
          refine OG.icmpNo X112 hx hby own_d_ok_79 (teq rfl).2 rfl ?_
          refine OG.iconst (v := (1 : Int32)) X112 hx hby own_d_ok_82 (by decide) rfl ?_
          refine OG.goto (pc' := 87) X112 hx hby own_d_ok_83 (by decide) (by decide) ?_
          refine OG.retZ X112 hx hby Bd.returns (by simp) own_d_ok_87 Bd.notSynchronized (by decide) (by decide) ?_
          exact ⟨rfl, M112, e112⟩
  · refine OG.icmpNo X101 hx hby own_d_ok_5 (flt hc5_102).1 rfl ?_
    refine OG.iconst (v := (1 : Int32)) X101 hx hby own_d_ok_8 (by decide) rfl ?_
    refine OG.retZ X101 hx hby Bd.returns (by simp) own_d_ok_9 Bd.notSynchronized (by decide) (by decide) ?_
    exact ⟨rfl, M101, e101⟩
theorem own_pn_law : plainName "com/example/scrutineer/scrutineer/ValidationFailureToStringPinLaw" = true := by first | (simp [plainName, overriddenIn]; done) | decide +kernel
theorem own_ef_law (m : MethodId) (x0 : Int32) (x1 : Int32) (x2 : Int32) (x3 : Int32) (x4 : Int32) (x5 : Int32)  : entryFrame m #[(.int x0), (.int x1), (.int x2), (.int x3), (.int x4), (.int x5)] maxLocals = mkF m 0 #[.val (.int x0), .val (.int x1), .val (.int x2), .val (.int x3), .val (.int x4), .val (.int x5), .unset, .unset, .unset, .unset, .unset, .unset, .unset] [] := by first | (simp [entryFrame, mkF, argsToLocals, Value.category, maxLocals]; done) | rfl
def own_Q_law (Z : State) (p1 : Int32) (p2 : Int32) (p3 : Int32) (p4 : Int32) (p5 : Int32) (p6 : Int32) (zc : Int32) (fm : Value) (wc : Addr) (cl : Cell) (em : Addr) (h0 : Heap) (n0 : Nat) (v : Option Value) (h : Heap) (L : List Loc) : Prop := v = some (.int (1 : Int32)) ∧ Fr n0 L
set_option maxRecDepth 65536 in
set_option maxHeartbeats 40000000 in
theorem own_rm_law (l : Launch) (Z : State) (a0 : Array Value) (hw : ∀ d ∈ tables_1, d.before a0 Z = true) (ws : List Jvm.Cond) (p1 : Int32) (p2 : Int32) (p3 : Int32) (p4 : Int32) (p5 : Int32) (p6 : Int32) (zc : Int32) (fm : Value) (wc : Addr) (cl : Cell) (em : Addr) (h0 : Heap) (n0 : Nat) (Z0 : n0 ≤ h0.size) (O1 : Old Z n0 h0) (S_cs : Sta Z Z.heap "java/lang/String" "COMPACT_STRINGS" "Z" (.int zc)) (hzc : ¬ zc = (0 : Int32)) (S_fm : Sta Z Z.heap "jdk/internal/util/Preconditions" "SIOOBE_FORMATTER" "Ljava/util/function/BiFunction;" fm) (hfm : fm.isRef = true) (S_high : Sta Z Z.heap "java/lang/Integer$IntegerCache" "high" "I" (.int (127 : Int32))) (S_cache : Sta Z Z.heap "java/lang/Integer$IntegerCache" "cache" "[Ljava/lang/Integer;" (.ref wc)) (Ca : own_Cache Z wc cl) (S_em : Sta Z Z.heap "java/util/ImmutableCollections" "EMPTY_MAP" "Ljava/util/ImmutableCollections$MapN;" (.ref em)) (E_em : Exa Z Z.heap em "java/util/ImmutableCollections$MapN") :
    MetFree l x (head1 (Jvm.Cond.code x code maxLocals ret :: ws) room_1) (fun a U => a = #[(.int p1), (.int p2), (.int p3), (.int p4), (.int p5), (.int p6)] ∧ Z.Warmed39 U.vm ∧ U.heap = h0 ∧ CHv Z own_EL U.vm h0) (fun _ _ _ _ _ => True) (fun _ U o U' => ∃ v L, o = .returned v ∧ own_Q_law Z p1 p2 p3 p4 p5 p6 zc fm wc cl em h0 n0 v U'.heap L ∧ CHr Z own_EL U.vm U.heap U'.vm U'.heap ∧ ReturnedEndW U o U' L room_1.cells room_1.slots) := by
  refine MetFree.of_bodySF (plainFor_of_name own_pn_law) hisR ?_
  intro p e s m args below meth c s₁ Bd hml0 hP hK
  obtain ⟨rfl, hZ, hh, hCH⟩ := hP
  have hx := Bd.exec
  have hby := Bd.bytes
  have hml : c.maxLocals = 13 := hml0
  have hown : s.vm.findClass "com/example/scrutineer/scrutineer/ValidationFailureToStringPinLaw" = some m.cls := findClass_of_methodNamed Bd.named
  have hnm := (name_of_methodNamed Bd.named Bd.method).1
  have X0 : Stand p l e room_1 (s.setVm s.vm) m #[(.int p1), (.int p2), (.int p3), (.int p4), (.int p5), (.int p6)] below meth c s₁ [] 0 0 := Stand.of_body Bd
  have e0 : s₁.heap = h0 := by rw [← hh, Bd.state]; rfl
  have N0 := Fr.nil n0
  have CH0 : CHr Z own_EL s.vm s.heap s.vm h0 := by rw [hh]; exact CHr.refl hCH
  have hS0 : s.Since s.vm h0.size := (State.WarmedH.refl s).since _
  show OG.Go p.tables e below (OG.GH Z own_EL (own_Q_law Z p1 p2 p3 p4 p5 p6 zc fm wc cl em h0 n0) room_1.cells room_1.slots s) (s₁.setTop (entryFrame m #[(.int p1), (.int p2), (.int p3), (.int p4), (.int p5), (.int p6)] maxLocals))
  refine OG.Go.cast (own_ef_law m p1 p2 p3 p4 p5 p6) ?_
  refine OG.iloadN X0 hx hby at_0 rfl rfl ?_
  refine OG.iconst (v := (3 : Int32)) X0 hx hby at_1 (by decide) rfl ?_
  refine OG.iand X0 hx hby at_2 rfl ?_
  obtain ⟨na, hna, ena⟩ := own_and3 p4
  rw [ena]
  refine OG.istore (Ls' := #[.val (.int p1), .val (.int p2), .val (.int p3), .val (.int p4), .val (.int p5), .val (.int p6), .val (.int (Int32.ofNat na)), .unset, .unset, .unset, .unset, .unset, .unset]) X0 hx hby at_3 rfl rfl ?_
  refine OG.iloadN X0 hx hby at_5 rfl rfl ?_
  refine OG.iconst (v := (2 : Int32)) X0 hx hby at_6 (by decide) rfl ?_
  refine OG.iushr X0 hx hby at_7 rfl ?_
  refine OG.iconst (v := (3 : Int32)) X0 hx hby at_8 (by decide) rfl ?_
  refine OG.iand X0 hx hby at_9 rfl ?_
  obtain ⟨nb, hnb, enb⟩ := own_and3 (p4.toUInt32 >>> ((2 : Int32) &&& 31).toUInt32).toInt32
  rw [enb]
  refine OG.istore (Ls' := #[.val (.int p1), .val (.int p2), .val (.int p3), .val (.int p4), .val (.int p5), .val (.int p6), .val (.int (Int32.ofNat na)), .val (.int (Int32.ofNat nb)), .unset, .unset, .unset, .unset, .unset]) X0 hx hby at_10 rfl rfl ?_
  refine OG.iload X0 hx hby at_12 rfl rfl ?_
  refine OG.iloadN X0 hx hby at_14 rfl rfl ?_
  refine OG.cSH X0 hx hZ hby (by rw [hml]; rfl) hown (y := (⟨"com/example/scrutineer/scrutineer/ValidationFailureToStringPinLaw", "mk", "(II)Ljava/lang/String;"⟩ : MethodName)) (hw _ (List.mem_of_getElem? (i := 0) rfl)) (hw _ (List.mem_of_getElem? (i := 1) rfl)) (hw _ (List.mem_of_getElem? (i := 3) rfl)) (hw _ (List.mem_of_getElem? (i := 2) rfl)) (by decide) (own_rm_mk l Z a0 hw [] na p1 zc h0 n0 Z0 O1 S_cs hzc hna) e0 hS0 (Nat.le_refl _) (own_hEL hw) CH0.1 (argsL := [(.int (Int32.ofNat na)), (.int p1)]) (stk := [(.int p1), (.int (Int32.ofNat na))]) (st := []) own_pd_30 rfl rfl rfl (W := 0) rfl (by decide) (by decide) (by decide) (by decide) at_15 rfl ?_
  intro T101 L101 v101 X101 S101 Zw101 Ow101 C101 q101
  obtain ⟨sa101, ta101, bx101, rfl, N101, K101, E_101, Fc_101, Fv_101, Y_101, hl101⟩ := q101
  have CH102 := CHr.trans CH0 (C101)
  have M101 := Fr.app N0 N101
  show OG.Go _ _ _ _ (T101.setTop (mkF m 18 #[.val (.int p1), .val (.int p2), .val (.int p3), .val (.int p4), .val (.int p5), .val (.int p6), .val (.int (Int32.ofNat na)), .val (.int (Int32.ofNat nb)), .unset, .unset, .unset, .unset, .unset] [(.ref sa101)]))
  refine OG.astore (Ls' := #[.val (.int p1), .val (.int p2), .val (.int p3), .val (.int p4), .val (.int p5), .val (.int p6), .val (.int (Int32.ofNat na)), .val (.int (Int32.ofNat nb)), .val (.ref sa101), .unset, .unset, .unset, .unset]) X101 hx hby at_18 rfl rfl rfl ?_
  refine OG.iload X101 hx hby at_20 rfl rfl ?_
  refine OG.iloadN X101 hx hby at_22 rfl rfl ?_
  have f104 := (Old.keep O1 K101 all0)
  refine OG.cSH X101 hx Zw101 hby (by rw [hml]; rfl) Ow101 (y := (⟨"com/example/scrutineer/scrutineer/ValidationFailureToStringPinLaw", "mk", "(II)Ljava/lang/String;"⟩ : MethodName)) (hw _ (List.mem_of_getElem? (i := 0) rfl)) (hw _ (List.mem_of_getElem? (i := 1) rfl)) (hw _ (List.mem_of_getElem? (i := 3) rfl)) (hw _ (List.mem_of_getElem? (i := 2) rfl)) (by decide) (own_rm_mk l Z a0 hw [] nb p2 zc T101.heap n0 (Nat.le_trans Z0 K101.1) f104 S_cs hzc hnb) rfl S101 (Nat.le_refl _) (own_hEL hw) CH102.1 (argsL := [(.int (Int32.ofNat nb)), (.int p2)]) (stk := [(.int p2), (.int (Int32.ofNat nb))]) (st := []) own_pd_30 rfl rfl rfl (W := 0) rfl (by decide) (by decide) (by decide) (by decide) at_23 rfl ?_
  intro T103 L103 v103 X103 S103 Zw103 Ow103 C103 q103
  obtain ⟨sa103, ta103, bx103, rfl, N103, K103, E_103, Fc_103, Fv_103, Y_103, hl103⟩ := q103
  have CH105 := CHr.trans CH102 (C103)
  have M103 := Fr.app M101 N103
  show OG.Go _ _ _ _ (T103.setTop (mkF m 26 #[.val (.int p1), .val (.int p2), .val (.int p3), .val (.int p4), .val (.int p5), .val (.int p6), .val (.int (Int32.ofNat na)), .val (.int (Int32.ofNat nb)), .val (.ref sa101), .unset, .unset, .unset, .unset] [(.ref sa103)]))
  refine OG.astore (Ls' := #[.val (.int p1), .val (.int p2), .val (.int p3), .val (.int p4), .val (.int p5), .val (.int p6), .val (.int (Int32.ofNat na)), .val (.int (Int32.ofNat nb)), .val (.ref sa101), .val (.ref sa103), .unset, .unset, .unset]) X103 hx hby at_26 rfl rfl rfl ?_
  refine OG.iloadN X103 hx hby at_28 rfl rfl ?_
  refine OG.iconst (v := (4 : Int32)) X103 hx hby at_29 (by decide) rfl ?_
  refine OG.iushr X103 hx hby at_30 rfl ?_
  refine OG.iconst (v := (3 : Int32)) X103 hx hby at_31 (by decide) rfl ?_
  refine OG.iand X103 hx hby at_32 rfl ?_
  obtain ⟨nc, hnc, enc⟩ := own_and3 (p4.toUInt32 >>> ((4 : Int32) &&& 31).toUInt32).toInt32
  rw [enc]
  refine OG.iloadN X103 hx hby at_33 rfl rfl ?_
  have f107 := (Old.keep f104 K103 all0)
  refine OG.cSH X103 hx Zw103 hby (by rw [hml]; rfl) Ow103 (y := (⟨"com/example/scrutineer/scrutineer/ValidationFailureToStringPinLaw", "mk", "(II)Ljava/lang/String;"⟩ : MethodName)) (hw _ (List.mem_of_getElem? (i := 0) rfl)) (hw _ (List.mem_of_getElem? (i := 1) rfl)) (hw _ (List.mem_of_getElem? (i := 3) rfl)) (hw _ (List.mem_of_getElem? (i := 2) rfl)) (by decide) (own_rm_mk l Z a0 hw [] nc p3 zc T103.heap n0 (Nat.le_trans (Nat.le_trans Z0 K101.1) K103.1) f107 S_cs hzc hnc) rfl S103 (Nat.le_refl _) (own_hEL hw) CH105.1 (argsL := [(.int (Int32.ofNat nc)), (.int p3)]) (stk := [(.int p3), (.int (Int32.ofNat nc))]) (st := []) own_pd_30 rfl rfl rfl (W := 0) rfl (by decide) (by decide) (by decide) (by decide) at_34 rfl ?_
  intro T106 L106 v106 X106 S106 Zw106 Ow106 C106 q106
  obtain ⟨sa106, ta106, bx106, rfl, N106, K106, E_106, Fc_106, Fv_106, Y_106, hl106⟩ := q106
  have CH108 := CHr.trans CH105 (C106)
  have M106 := Fr.app M103 N106
  show OG.Go _ _ _ _ (T106.setTop (mkF m 37 #[.val (.int p1), .val (.int p2), .val (.int p3), .val (.int p4), .val (.int p5), .val (.int p6), .val (.int (Int32.ofNat na)), .val (.int (Int32.ofNat nb)), .val (.ref sa101), .val (.ref sa103), .unset, .unset, .unset] [(.ref sa106)]))
  refine OG.astore (Ls' := #[.val (.int p1), .val (.int p2), .val (.int p3), .val (.int p4), .val (.int p5), .val (.int p6), .val (.int (Int32.ofNat na)), .val (.int (Int32.ofNat nb)), .val (.ref sa101), .val (.ref sa103), .val (.ref sa106), .unset, .unset]) X106 hx hby at_37 rfl rfl rfl ?_
  refine OG.nO X106 hx Zw106 hby Ow106 (hw _ (List.mem_of_getElem? (i := 41) rfl)) (hw _ (List.mem_of_getElem? (i := 42) rfl)) (hw _ (List.mem_of_getElem? (i := 43) rfl)) rfl at_39 (by decide) (by decide) rfl ?_
  intro T109 h109 b109 g109 X109 e109 E109 A109 D109
  have f110 := (Exa.keep (Exa.keep E_101 K103) K106)
  have ne111 : sa101 ≠ b109 := Nat.ne_of_lt (Nat.lt_of_lt_of_le (Exa.lt f110) (Nat.le_of_eq g109.symm))
  have f112 := (OG.BA.keep (OG.BA.keep Y_101 K103 nin0) K106 nin0)
  have ne113 : ta101 ≠ b109 := Nat.ne_of_lt (Nat.lt_of_lt_of_le (OG.BA.lt f112) (Nat.le_of_eq g109.symm))
  have f114 := (Exa.keep E_103 K106)
  have ne115 : sa103 ≠ b109 := Nat.ne_of_lt (Nat.lt_of_lt_of_le (Exa.lt f114) (Nat.le_of_eq g109.symm))
  have f116 := (OG.BA.keep Y_103 K106 nin0)
  have ne117 : ta103 ≠ b109 := Nat.ne_of_lt (Nat.lt_of_lt_of_le (OG.BA.lt f116) (Nat.le_of_eq g109.symm))
  have ne118 : sa106 ≠ b109 := Nat.ne_of_lt (Nat.lt_of_lt_of_le (Exa.lt E_106) (Nat.le_of_eq g109.symm))
  have ne119 : ta106 ≠ b109 := Nat.ne_of_lt (Nat.lt_of_lt_of_le (OG.BA.lt Y_106) (Nat.le_of_eq g109.symm))
  have gn120 : n0 ≤ b109 := Nat.le_trans (Nat.le_trans (Nat.le_trans (Nat.le_trans Z0 K101.1) K103.1) K106.1) (Nat.le_of_eq g109.symm)
  have sz121 : h0.size ≤ b109 := Nat.le_trans (Nat.le_trans (Nat.le_trans (Nat.le_trans (Nat.le_refl _) K101.1) K103.1) K106.1) (Nat.le_of_eq g109.symm)
  have CH122 := CHr.trans CH108 (CHr.ext E109 CH108.1)
  have f123 : Fld Z h109 b109 "com/example/scrutineer/scrutineer/ValidationFailure" "path" "Ljava/lang/String;" .null := D109 (Or.inr (hw _ (List.mem_of_getElem? (i := 62) rfl))) (ty := (.object "java/lang/String")) (by decide)
  have f124 : Fld Z h109 b109 "com/example/scrutineer/scrutineer/ValidationFailure" "name" "Ljava/lang/String;" .null := D109 (Or.inr (hw _ (List.mem_of_getElem? (i := 64) rfl))) (ty := (.object "java/lang/String")) (by decide)
  have f125 : Fld Z h109 b109 "com/example/scrutineer/scrutineer/ValidationFailure" "label" "Ljava/lang/String;" .null := D109 (Or.inr (hw _ (List.mem_of_getElem? (i := 66) rfl))) (ty := (.object "java/lang/String")) (by decide)
  have f126 : Fld Z h109 b109 "com/example/scrutineer/scrutineer/ValidationFailure" "key" "Ljava/lang/String;" .null := D109 (Or.inr (hw _ (List.mem_of_getElem? (i := 68) rfl))) (ty := (.object "java/lang/String")) (by decide)
  have f127 : Fld Z h109 b109 "com/example/scrutineer/scrutineer/ValidationFailure" "message" "Ljava/lang/String;" .null := D109 (Or.inr (hw _ (List.mem_of_getElem? (i := 70) rfl))) (ty := (.object "java/lang/String")) (by decide)
  have f128 : Fld Z h109 b109 "com/example/scrutineer/scrutineer/ValidationFailure" "severity" "I" (.int (0 : Int32)) := D109 (Or.inr (hw _ (List.mem_of_getElem? (i := 72) rfl))) (ty := .int) (by decide)
  have f129 : Fld Z h109 b109 "com/example/scrutineer/scrutineer/ValidationFailure" "value" "Ljava/lang/Object;" .null := D109 (Or.inr (hw _ (List.mem_of_getElem? (i := 74) rfl))) (ty := (.object "java/lang/Object")) (by decide)
  have f130 : Fld Z h109 b109 "com/example/scrutineer/scrutineer/ValidationFailure" "messages" "Ljava/util/Map;" .null := D109 (Or.inr (hw _ (List.mem_of_getElem? (i := 81) rfl))) (ty := (.object "java/util/Map")) (by decide)
  have f131 : Fld Z h109 b109 "com/example/scrutineer/scrutineer/ValidationFailure" "validatorId" "Ljava/lang/String;" .null := D109 (Or.inr (hw _ (List.mem_of_getElem? (i := 83) rfl))) (ty := (.object "java/lang/String")) (by decide)
  refine OG.dup X109 hx hby at_42 rfl rfl ?_
  refine OG.aload X109 hx hby at_43 rfl rfl rfl ?_
  refine OG.aload X109 hx hby at_45 rfl rfl rfl ?_
  refine OG.aload X109 hx hby at_47 rfl rfl rfl ?_
  refine OG.aload X109 hx hby at_49 rfl rfl rfl ?_
  refine OG.aload X109 hx hby at_51 rfl rfl rfl ?_
  refine OG.iload X109 hx hby at_53 rfl rfl ?_
  refine OG.iload X109 hx hby at_55 rfl rfl ?_
  have f133 := (Old.ext (Old.keep f107 K106 all0) E109)
  refine OG.cS X109 hx Zw106 hby (by rw [hml]; rfl) Ow106 (y := (⟨"java/lang/Integer", "valueOf", "(I)Ljava/lang/Integer;"⟩ : MethodName)) (hw _ (List.mem_of_getElem? (i := 44) rfl)) (hw _ (List.mem_of_getElem? (i := 45) rfl)) (hw _ (List.mem_of_getElem? (i := 47) rfl)) (hw _ (List.mem_of_getElem? (i := 46) rfl)) (by decide) (own_rm_ivalueOf l Z a0 hw [] p6 wc cl h109 n0 (Nat.le_trans (Nat.le_trans (Nat.le_trans (Nat.le_trans Z0 K101.1) K103.1) K106.1) E109.1) f133 S_high S_cache Ca) e109 (argsL := [(.int p6)]) (stk := [(.int p6), (.int p5), (.ref sa103), (.ref sa106), (.ref sa106), (.ref sa106), (.ref sa101), (.ref b109), (.ref b109)]) (st := [(.int p5), (.ref sa103), (.ref sa106), (.ref sa106), (.ref sa106), (.ref sa101), (.ref b109), (.ref b109)]) own_pd_31 rfl rfl rfl (W := 8) rfl (by decide) (by decide) (by decide) (by decide) at_57 rfl ?_
  intro T132 L132 v132 X132 q132
  obtain ⟨ia132, rfl, N132, K132, Ea132⟩ := q132
  have CH134 := CHr.trans CH122 (CHr.keep K132 sf0 CH122.1)
  have M132 := Fr.app M106 N132
  show OG.Go _ _ _ _ (T132.setTop (mkF m 60 #[.val (.int p1), .val (.int p2), .val (.int p3), .val (.int p4), .val (.int p5), .val (.int p6), .val (.int (Int32.ofNat na)), .val (.int (Int32.ofNat nb)), .val (.ref sa101), .val (.ref sa103), .val (.ref sa106), .unset, .unset] [(.ref ia132), (.int p5), (.ref sa103), (.ref sa106), (.ref sa106), (.ref sa106), (.ref sa101), (.ref b109), (.ref b109)]))
  have f136 := (Old.keep f133 K132 all0)
  refine OG.cS X132 hx Zw106 hby (by rw [hml]; rfl) Ow106 (y := (⟨"java/util/Map", "of", "()Ljava/util/Map;"⟩ : MethodName)) (hw _ (List.mem_of_getElem? (i := 51) rfl)) (hw _ (List.mem_of_getElem? (i := 52) rfl)) (hw _ (List.mem_of_getElem? (i := 54) rfl)) (hw _ (List.mem_of_getElem? (i := 53) rfl)) (by decide) (own_rm_mapof l Z a0 hw [] em T132.heap n0 (Nat.le_trans (Nat.le_trans (Nat.le_trans (Nat.le_trans (Nat.le_trans Z0 K101.1) K103.1) K106.1) E109.1) K132.1) f136 S_em E_em) rfl (argsL := []) (stk := [(.ref ia132), (.int p5), (.ref sa103), (.ref sa106), (.ref sa106), (.ref sa106), (.ref sa101), (.ref b109), (.ref b109)]) (st := [(.ref ia132), (.int p5), (.ref sa103), (.ref sa106), (.ref sa106), (.ref sa106), (.ref sa101), (.ref b109), (.ref b109)]) own_pd_32 rfl rfl rfl (W := 9) rfl (by decide) (by decide) (by decide) (by decide) at_60 rfl ?_
  intro T135 L135 v135 X135 q135
  obtain ⟨rfl, N135, e135⟩ := q135
  have M135 := Fr.app M132 N135
  show OG.Go _ _ _ _ (T135.setTop (mkF m 63 #[.val (.int p1), .val (.int p2), .val (.int p3), .val (.int p4), .val (.int p5), .val (.int p6), .val (.int (Int32.ofNat na)), .val (.int (Int32.ofNat nb)), .val (.ref sa101), .val (.ref sa103), .val (.ref sa106), .unset, .unset] [(.ref em), (.ref ia132), (.int p5), (.ref sa103), (.ref sa106), (.ref sa106), (.ref sa106), (.ref sa101), (.ref b109), (.ref b109)]))
  refine OG.aload X135 hx hby at_63 rfl rfl rfl ?_
  have f138 := (Exa.keep A109 K132)
  have f139 := Exa.ext f136.2 E_em
  have f140 := (Fld.keep f123 K132 nin0)
  have f141 := (Fld.keep f124 K132 nin0)
  have f142 := (Fld.keep f125 K132 nin0)
  have f143 := (Fld.keep f126 K132 nin0)
  have f144 := (Fld.keep f127 K132 nin0)
  have f145 := (Fld.keep f128 K132 nin0)
  have f146 := (Fld.keep f129 K132 nin0)
  have f147 := (Fld.keep f130 K132 nin0)
  have f148 := (Fld.keep f131 K132 nin0)
  refine OG.cN X135 hx Zw106 hby (by rw [hml]; rfl) Ow106 (y := (⟨"com/example/scrutineer/scrutineer/ValidationFailure", "<init>", "(Ljava/lang/String;Ljava/lang/String;Ljava/lang/String;Ljava/lang/String;Ljava/lang/String;ILjava/lang/Object;Ljava/util/Map;Ljava/lang/String;)V"⟩ : MethodName)) rfl rfl (hw _ (List.mem_of_getElem? (i := 57) rfl)) (hw _ (List.mem_of_getElem? (i := 58) rfl)) (hw _ (List.mem_of_getElem? (i := 59) rfl)) (hw _ (List.mem_of_getElem? (i := 43) rfl)) (by decide) (own_rm_vfinit l Z a0 hw [] b109 sa101 sa103 sa106 ia132 em p5 T132.heap n0 (Nat.le_trans (Nat.le_trans (Nat.le_trans (Nat.le_trans (Nat.le_trans Z0 K101.1) K103.1) K106.1) E109.1) K132.1) f138 gn120 f139 f140 f141 f142 f143 f144 f145 f146 f147 f148) e135 (argsL := [(.ref sa101), (.ref sa106), (.ref sa106), (.ref sa106), (.ref sa103), (.int p5), (.ref ia132), (.ref em), (.ref sa106)]) (stk := [(.ref sa106), (.ref em), (.ref ia132), (.int p5), (.ref sa103), (.ref sa106), (.ref sa106), (.ref sa106), (.ref sa101), (.ref b109), (.ref b109)]) (st := [(.ref b109)]) own_pd_33 rfl rfl rfl (W := 1) rfl (by decide) (by decide) (by decide) (by decide) at_65 rfl ?_
  intro T137 L137 v137 X137 q137
  obtain ⟨rfl, N137, K137, Ea137, Fa137, Fb137⟩ := q137
  have CH149 := CHr.trans CH134 (CHr.keep K137 (sfS (Safe.exa (EL := own_EL) (vm := T106.vm) (show Z.vm.Alike T106.vm from Zw106.alike) f138 (by decide) (by decide)) sf0) CH134.1)
  have M137 := Fr.app M135 N137
  show OG.Go _ _ _ _ (T137.setTop (mkF m 68 #[.val (.int p1), .val (.int p2), .val (.int p3), .val (.int p4), .val (.int p5), .val (.int p6), .val (.int (Int32.ofNat na)), .val (.int (Int32.ofNat nb)), .val (.ref sa101), .val (.ref sa103), .val (.ref sa106), .unset, .unset] [(.ref b109)]))
  refine OG.astore (Ls' := #[.val (.int p1), .val (.int p2), .val (.int p3), .val (.int p4), .val (.int p5), .val (.int p6), .val (.int (Int32.ofNat na)), .val (.int (Int32.ofNat nb)), .val (.ref sa101), .val (.ref sa103), .val (.ref sa106), .val (.ref b109), .unset]) X137 hx hby at_68 rfl rfl rfl ?_
  refine OG.aload X137 hx hby at_70 rfl rfl rfl ?_
  have f151 := (Exa.keep (Exa.keep (Exa.ext E109 f110) K132) K137)
  have f152 := (Fld.keep (Fld.keep (Fld.ext E109 (Fld.keep (Fld.keep Fc_101 K103 nin0) K106 nin0)) K132 nin0) K137 (ninS ne111 nin0))
  have f153 := (Fld.keep (Fld.keep (Fld.ext E109 (Fld.keep (Fld.keep Fv_101 K103 nin0) K106 nin0)) K132 nin0) K137 (ninS ne111 nin0))
  have f154 := (OG.BA.keep (OG.BA.keep (OG.BA.ext f112 E109) K132 nin0) K137 (ninS ne113 nin0))
  have f155 := (Exa.keep (Exa.keep (Exa.ext E109 f114) K132) K137)
  have f156 := (Fld.keep (Fld.keep (Fld.ext E109 (Fld.keep Fc_103 K106 nin0)) K132 nin0) K137 (ninS ne115 nin0))
  have f157 := (Fld.keep (Fld.keep (Fld.ext E109 (Fld.keep Fv_103 K106 nin0)) K132 nin0) K137 (ninS ne115 nin0))
  have f158 := (OG.BA.keep (OG.BA.keep (OG.BA.ext f116 E109) K132 nin0) K137 (ninS ne117 nin0))
  have f159 := (Old.keep f136 K137 (allS gn120 all0))
  refine OG.cVH X137 hx Zw106 hby (by rw [hml]; rfl) Ow106 (y := (⟨"com/example/scrutineer/scrutineer/ValidationFailure", "toString", "()Ljava/lang/String;"⟩ : MethodName)) (z := (⟨"com/example/scrutineer/scrutineer/ValidationFailure", "toString", "()Ljava/lang/String;"⟩ : MethodName)) (hw _ (List.mem_of_getElem? (i := 84) rfl)) (hw _ (List.mem_of_getElem? (i := 85) rfl)) (notFace_of_selects (args := #[]) (mvT (s := s.setVm T106.vm) Zw106 (hw _ (List.mem_of_getElem? (i := 87) rfl)))) (hw _ (List.mem_of_getElem? (i := 87) rfl)) (hw _ (List.mem_of_getElem? (i := 86) rfl)) (hw _ (List.mem_of_getElem? (i := 88) rfl)) (hw _ (List.mem_of_getElem? (i := 43) rfl)) (by decide) (own_rm_vftos l Z a0 hw [] b109 sa101 ta101 bx101 sa103 ta103 bx103 zc T137.heap n0 (Nat.le_trans (Nat.le_trans (Nat.le_trans (Nat.le_trans (Nat.le_trans (Nat.le_trans Z0 K101.1) K103.1) K106.1) E109.1) K132.1) K137.1) f159 S_cs hzc Ea137 Fa137 Fb137 f151 f152 f153 f154 f155 f156 f157 f158 (by omega) (by omega)) Ea137 rfl S106 (Nat.le_trans (Nat.le_trans (Nat.le_trans (Nat.le_refl _) E109.1) K132.1) K137.1) (own_hEL hw) CH149.1 (argsL := []) (stk := [(.ref b109)]) (st := []) own_pd_28 rfl rfl rfl (W := 0) rfl (by decide) (by decide) (by decide) (by decide) at_72 rfl ?_
  intro T150 L150 v150 X150 S150 Zw150 Ow150 C150 q150
  obtain ⟨sa150, ta150, rfl, N150, K150, E_150, Fc_150, Fv_150, Y_150⟩ := q150
  have CH160 := CHr.trans CH149 (C150)
  have M150 := Fr.app M137 N150
  show OG.Go _ _ _ _ (T150.setTop (mkF m 75 #[.val (.int p1), .val (.int p2), .val (.int p3), .val (.int p4), .val (.int p5), .val (.int p6), .val (.int (Int32.ofNat na)), .val (.int (Int32.ofNat nb)), .val (.ref sa101), .val (.ref sa103), .val (.ref sa106), .val (.ref b109), .unset] [(.ref sa150)]))
  refine OG.astore (Ls' := #[.val (.int p1), .val (.int p2), .val (.int p3), .val (.int p4), .val (.int p5), .val (.int p6), .val (.int (Int32.ofNat na)), .val (.int (Int32.ofNat nb)), .val (.ref sa101), .val (.ref sa103), .val (.ref sa106), .val (.ref b109), .val (.ref sa150)]) X150 hx hby at_75 rfl rfl rfl ?_
  refine OG.aload X150 hx hby at_77 rfl rfl rfl ?_
  refine OG.ifnullNo X150 hx hby at_79 rfl ?_
  refine OG.aload X150 hx hby at_82 rfl rfl rfl ?_
  have f162 := (Old.keep f159 K150 all0)
  refine OG.cV X150 hx Zw150 hby (by rw [hml]; rfl) Ow150 (y := (⟨"java/lang/String", "length", "()I"⟩ : MethodName)) (z := (⟨"java/lang/String", "length", "()I"⟩ : MethodName)) (hw _ (List.mem_of_getElem? (i := 200) rfl)) (hw _ (List.mem_of_getElem? (i := 118) rfl)) (notFace_of_selects (args := #[]) (mvT (s := s.setVm T150.vm) Zw150 (hw _ (List.mem_of_getElem? (i := 120) rfl)))) (hw _ (List.mem_of_getElem? (i := 120) rfl)) (hw _ (List.mem_of_getElem? (i := 119) rfl)) (hw _ (List.mem_of_getElem? (i := 121) rfl)) (hw _ (List.mem_of_getElem? (i := 6) rfl)) (by decide) (own_rm_s_len l Z a0 hw [] sa150 ta150 (bx101 ++ [(58 : Int32), (32 : Int32)] ++ bx103) zc T150.heap n0 (Nat.le_trans (Nat.le_trans (Nat.le_trans (Nat.le_trans (Nat.le_trans (Nat.le_trans (Nat.le_trans Z0 K101.1) K103.1) K106.1) E109.1) K132.1) K137.1) K150.1) f162 S_cs hzc E_150 Fc_150 Fv_150 Y_150) E_150 rfl (argsL := []) (stk := [(.ref sa150)]) (st := []) own_pd_8 rfl rfl rfl (W := 0) rfl (by decide) (by decide) (by decide) (by decide) at_84 rfl ?_
  intro T161 L161 v161 X161 q161
  obtain ⟨rfl, N161, e161⟩ := q161
  have M161 := Fr.app M150 N161
  show OG.Go _ _ _ _ (T161.setTop (mkF m 87 #[.val (.int p1), .val (.int p2), .val (.int p3), .val (.int p4), .val (.int p5), .val (.int p6), .val (.int (Int32.ofNat na)), .val (.int (Int32.ofNat nb)), .val (.ref sa101), .val (.ref sa103), .val (.ref sa106), .val (.ref b109), .val (.ref sa150)] [(.int (Int32.ofNat (bx101 ++ [(58 : Int32), (32 : Int32)] ++ bx103).length))]))
  refine OG.iload X161 hx hby at_87 rfl rfl ?_
  refine OG.iconst (v := (2 : Int32)) X161 hx hby at_89 (by decide) rfl ?_
  refine OG.iadd X161 hx hby at_90 rfl ?_
  rw [show ((Int32.ofNat na) + (2 : Int32)) = (Int32.ofNat (na + 2)) from OG.addN _ 2]
  refine OG.iload X161 hx hby at_91 rfl rfl ?_
  refine OG.iadd X161 hx hby at_93 rfl ?_
  rw [OG.addN]
  rw [own_blen, hl101, hl103]
  refine OG.icmpYes (pc' := 99) X161 hx hby at_94 (teq rfl).1 (by decide) (by decide) ?_
  refine OG.aload X161 hx hby at_99 rfl rfl rfl ?_
  refine OG.aload X161 hx hby at_101 rfl rfl rfl ?_
  refine OG.aload X161 hx hby at_103 rfl rfl rfl ?_
  refine OG.iconst (v := (0 : Int32)) X161 hx hby at_105 (by decide) rfl ?_
  have f164 := (Exa.keep f151 K150)
  have f165 := (Fld.keep f152 K150 nin0)
  have f166 := (Fld.keep f153 K150 nin0)
  have f167 := (OG.BA.keep f154 K150 nin0)
  have f168 := (Exa.keep f155 K150)
  have f169 := (Fld.keep f156 K150 nin0)
  have f170 := (Fld.keep f157 K150 nin0)
  have f171 := (OG.BA.keep f158 K150 nin0)
  refine OG.cS X161 hx Zw150 hby (by rw [hml]; rfl) Ow150 (y := (⟨"com/example/scrutineer/scrutineer/ValidationFailureToStringPinLaw", "ok", "(Ljava/lang/String;Ljava/lang/String;Ljava/lang/String;I)Z"⟩ : MethodName)) (hw _ (List.mem_of_getElem? (i := 201) rfl)) (hw _ (List.mem_of_getElem? (i := 202) rfl)) (hw _ (List.mem_of_getElem? (i := 203) rfl)) (hw _ (List.mem_of_getElem? (i := 2) rfl)) (by decide) (own_rm_ok l Z a0 hw [] sa150 ta150 sa101 ta101 bx101 sa103 ta103 bx103 0 zc fm T150.heap n0 (Nat.le_trans (Nat.le_trans (Nat.le_trans (Nat.le_trans (Nat.le_trans (Nat.le_trans (Nat.le_trans Z0 K101.1) K103.1) K106.1) E109.1) K132.1) K137.1) K150.1) f162 S_cs hzc S_fm hfm E_150 Fc_150 Fv_150 Y_150 f164 f165 f166 f167 f168 f169 f170 f171 (by decide) (by omega) (by omega)) e161 (argsL := [(.ref sa150), (.ref sa101), (.ref sa103), (.int (0 : Int32))]) (stk := [(.int (0 : Int32)), (.ref sa103), (.ref sa101), (.ref sa150)]) (st := []) own_pd_34 rfl rfl rfl (W := 0) rfl (by decide) (by decide) (by decide) (by decide) at_106 rfl ?_
  intro T163 L163 v163 X163 q163
  obtain ⟨rfl, N163, e163⟩ := q163
  have M163 := Fr.app M161 N163
  show OG.Go _ _ _ _ (T163.setTop (mkF m 109 #[.val (.int p1), .val (.int p2), .val (.int p3), .val (.int p4), .val (.int p5), .val (.int p6), .val (.int (Int32.ofNat na)), .val (.int (Int32.ofNat nb)), .val (.ref sa101), .val (.ref sa103), .val (.ref sa106), .val (.ref b109), .val (.ref sa150)] [(.int (1 : Int32))]))
  refine OG.ifNo X163 hx hby at_109 (feq (by decide)).1 rfl ?_
  refine OG.aload X163 hx hby at_112 rfl rfl rfl ?_
  refine OG.aload X163 hx hby at_114 rfl rfl rfl ?_
  refine OG.aload X163 hx hby at_116 rfl rfl rfl ?_
  refine OG.iconst (v := (1 : Int32)) X163 hx hby at_118 (by decide) rfl ?_
  refine OG.cS X163 hx Zw150 hby (by rw [hml]; rfl) Ow150 (y := (⟨"com/example/scrutineer/scrutineer/ValidationFailureToStringPinLaw", "ok", "(Ljava/lang/String;Ljava/lang/String;Ljava/lang/String;I)Z"⟩ : MethodName)) (hw _ (List.mem_of_getElem? (i := 201) rfl)) (hw _ (List.mem_of_getElem? (i := 202) rfl)) (hw _ (List.mem_of_getElem? (i := 203) rfl)) (hw _ (List.mem_of_getElem? (i := 2) rfl)) (by decide) (own_rm_ok l Z a0 hw [] sa150 ta150 sa101 ta101 bx101 sa103 ta103 bx103 1 zc fm T150.heap n0 (Nat.le_trans (Nat.le_trans (Nat.le_trans (Nat.le_trans (Nat.le_trans (Nat.le_trans (Nat.le_trans Z0 K101.1) K103.1) K106.1) E109.1) K132.1) K137.1) K150.1) f162 S_cs hzc S_fm hfm E_150 Fc_150 Fv_150 Y_150 f164 f165 f166 f167 f168 f169 f170 f171 (by decide) (by omega) (by omega)) e163 (argsL := [(.ref sa150), (.ref sa101), (.ref sa103), (.int (1 : Int32))]) (stk := [(.int (1 : Int32)), (.ref sa103), (.ref sa101), (.ref sa150)]) (st := []) own_pd_34 rfl rfl rfl (W := 0) rfl (by decide) (by decide) (by decide) (by decide) at_119 rfl ?_
  intro T172 L172 v172 X172 q172
  obtain ⟨rfl, N172, e172⟩ := q172
  have M172 := Fr.app M163 N172
  show OG.Go _ _ _ _ (T172.setTop (mkF m 122 #[.val (.int p1), .val (.int p2), .val (.int p3), .val (.int p4), .val (.int p5), .val (.int p6), .val (.int (Int32.ofNat na)), .val (.int (Int32.ofNat nb)), .val (.ref sa101), .val (.ref sa103), .val (.ref sa106), .val (.ref b109), .val (.ref sa150)] [(.int (1 : Int32))]))
  refine OG.ifNo X172 hx hby at_122 (feq (by decide)).1 rfl ?_
  refine OG.aload X172 hx hby at_125 rfl rfl rfl ?_
  refine OG.aload X172 hx hby at_127 rfl rfl rfl ?_
  refine OG.aload X172 hx hby at_129 rfl rfl rfl ?_
  refine OG.iconst (v := (2 : Int32)) X172 hx hby at_131 (by decide) rfl ?_
  refine OG.cS X172 hx Zw150 hby (by rw [hml]; rfl) Ow150 (y := (⟨"com/example/scrutineer/scrutineer/ValidationFailureToStringPinLaw", "ok", "(Ljava/lang/String;Ljava/lang/String;Ljava/lang/String;I)Z"⟩ : MethodName)) (hw _ (List.mem_of_getElem? (i := 201) rfl)) (hw _ (List.mem_of_getElem? (i := 202) rfl)) (hw _ (List.mem_of_getElem? (i := 203) rfl)) (hw _ (List.mem_of_getElem? (i := 2) rfl)) (by decide) (own_rm_ok l Z a0 hw [] sa150 ta150 sa101 ta101 bx101 sa103 ta103 bx103 2 zc fm T150.heap n0 (Nat.le_trans (Nat.le_trans (Nat.le_trans (Nat.le_trans (Nat.le_trans (Nat.le_trans (Nat.le_trans Z0 K101.1) K103.1) K106.1) E109.1) K132.1) K137.1) K150.1) f162 S_cs hzc S_fm hfm E_150 Fc_150 Fv_150 Y_150 f164 f165 f166 f167 f168 f169 f170 f171 (by decide) (by omega) (by omega)) e172 (argsL := [(.ref sa150), (.ref sa101), (.ref sa103), (.int (2 : Int32))]) (stk := [(.int (2 : Int32)), (.ref sa103), (.ref sa101), (.ref sa150)]) (st := []) own_pd_34 rfl rfl rfl (W := 0) rfl (by decide) (by decide) (by decide) (by decide) at_132 rfl ?_
  intro T173 L173 v173 X173 q173
  obtain ⟨rfl, N173, e173⟩ := q173
  have M173 := Fr.app M172 N173
  show OG.Go _ _ _ _ (T173.setTop (mkF m 135 #[.val (.int p1), .val (.int p2), .val (.int p3), .val (.int p4), .val (.int p5), .val (.int p6), .val (.int (Int32.ofNat na)), .val (.int (Int32.ofNat nb)), .val (.ref sa101), .val (.ref sa103), .val (.ref sa106), .val (.ref b109), .val (.ref sa150)] [(.int (1 : Int32))]))
  refine OG.ifNo X173 hx hby at_135 (feq (by decide)).1 rfl ?_
  refine OG.aload X173 hx hby at_138 rfl rfl rfl ?_
  refine OG.aload X173 hx hby at_140 rfl rfl rfl ?_
  refine OG.aload X173 hx hby at_142 rfl rfl rfl ?_
  refine OG.iconst (v := (3 : Int32)) X173 hx hby at_144 (by decide) rfl ?_
  refine OG.cS X173 hx Zw150 hby (by rw [hml]; rfl) Ow150 (y := (⟨"com/example/scrutineer/scrutineer/ValidationFailureToStringPinLaw", "ok", "(Ljava/lang/String;Ljava/lang/String;Ljava/lang/String;I)Z"⟩ : MethodName)) (hw _ (List.mem_of_getElem? (i := 201) rfl)) (hw _ (List.mem_of_getElem? (i := 202) rfl)) (hw _ (List.mem_of_getElem? (i := 203) rfl)) (hw _ (List.mem_of_getElem? (i := 2) rfl)) (by decide) (own_rm_ok l Z a0 hw [] sa150 ta150 sa101 ta101 bx101 sa103 ta103 bx103 3 zc fm T150.heap n0 (Nat.le_trans (Nat.le_trans (Nat.le_trans (Nat.le_trans (Nat.le_trans (Nat.le_trans (Nat.le_trans Z0 K101.1) K103.1) K106.1) E109.1) K132.1) K137.1) K150.1) f162 S_cs hzc S_fm hfm E_150 Fc_150 Fv_150 Y_150 f164 f165 f166 f167 f168 f169 f170 f171 (by decide) (by omega) (by omega)) e173 (argsL := [(.ref sa150), (.ref sa101), (.ref sa103), (.int (3 : Int32))]) (stk := [(.int (3 : Int32)), (.ref sa103), (.ref sa101), (.ref sa150)]) (st := []) own_pd_34 rfl rfl rfl (W := 0) rfl (by decide) (by decide) (by decide) (by decide) at_145 rfl ?_
  intro T174 L174 v174 X174 q174
  obtain ⟨rfl, N174, e174⟩ := q174
  have M174 := Fr.app M173 N174
  show OG.Go _ _ _ _ (T174.setTop (mkF m 148 #[.val (.int p1), .val (.int p2), .val (.int p3), .val (.int p4), .val (.int p5), .val (.int p6), .val (.int (Int32.ofNat na)), .val (.int (Int32.ofNat nb)), .val (.ref sa101), .val (.ref sa103), .val (.ref sa106), .val (.ref b109), .val (.ref sa150)] [(.int (1 : Int32))]))
  refine OG.ifNo X174 hx hby at_148 (feq (by decide)).1 rfl ?_
  refine OG.aload X174 hx hby at_151 rfl rfl rfl ?_
  refine OG.aload X174 hx hby at_153 rfl rfl rfl ?_
  refine OG.aload X174 hx hby at_155 rfl rfl rfl ?_
  refine OG.iconst (v := (4 : Int32)) X174 hx hby at_157 (by decide) rfl ?_
  refine OG.cS X174 hx Zw150 hby (by rw [hml]; rfl) Ow150 (y := (⟨"com/example/scrutineer/scrutineer/ValidationFailureToStringPinLaw", "ok", "(Ljava/lang/String;Ljava/lang/String;Ljava/lang/String;I)Z"⟩ : MethodName)) (hw _ (List.mem_of_getElem? (i := 201) rfl)) (hw _ (List.mem_of_getElem? (i := 202) rfl)) (hw _ (List.mem_of_getElem? (i := 203) rfl)) (hw _ (List.mem_of_getElem? (i := 2) rfl)) (by decide) (own_rm_ok l Z a0 hw [] sa150 ta150 sa101 ta101 bx101 sa103 ta103 bx103 4 zc fm T150.heap n0 (Nat.le_trans (Nat.le_trans (Nat.le_trans (Nat.le_trans (Nat.le_trans (Nat.le_trans (Nat.le_trans Z0 K101.1) K103.1) K106.1) E109.1) K132.1) K137.1) K150.1) f162 S_cs hzc S_fm hfm E_150 Fc_150 Fv_150 Y_150 f164 f165 f166 f167 f168 f169 f170 f171 (by decide) (by omega) (by omega)) e174 (argsL := [(.ref sa150), (.ref sa101), (.ref sa103), (.int (4 : Int32))]) (stk := [(.int (4 : Int32)), (.ref sa103), (.ref sa101), (.ref sa150)]) (st := []) own_pd_34 rfl rfl rfl (W := 0) rfl (by decide) (by decide) (by decide) (by decide) at_158 rfl ?_
  intro T175 L175 v175 X175 q175
  obtain ⟨rfl, N175, e175⟩ := q175
  have M175 := Fr.app M174 N175
  show OG.Go _ _ _ _ (T175.setTop (mkF m 161 #[.val (.int p1), .val (.int p2), .val (.int p3), .val (.int p4), .val (.int p5), .val (.int p6), .val (.int (Int32.ofNat na)), .val (.int (Int32.ofNat nb)), .val (.ref sa101), .val (.ref sa103), .val (.ref sa106), .val (.ref b109), .val (.ref sa150)] [(.int (1 : Int32))]))
  refine OG.ifNo X175 hx hby at_161 (feq (by decide)).1 rfl ?_
  refine OG.aload X175 hx hby at_164 rfl rfl rfl ?_
  refine OG.aload X175 hx hby at_166 rfl rfl rfl ?_
  refine OG.aload X175 hx hby at_168 rfl rfl rfl ?_
  refine OG.iconst (v := (5 : Int32)) X175 hx hby at_170 (by decide) rfl ?_
  refine OG.cS X175 hx Zw150 hby (by rw [hml]; rfl) Ow150 (y := (⟨"com/example/scrutineer/scrutineer/ValidationFailureToStringPinLaw", "ok", "(Ljava/lang/String;Ljava/lang/String;Ljava/lang/String;I)Z"⟩ : MethodName)) (hw _ (List.mem_of_getElem? (i := 201) rfl)) (hw _ (List.mem_of_getElem? (i := 202) rfl)) (hw _ (List.mem_of_getElem? (i := 203) rfl)) (hw _ (List.mem_of_getElem? (i := 2) rfl)) (by decide) (own_rm_ok l Z a0 hw [] sa150 ta150 sa101 ta101 bx101 sa103 ta103 bx103 5 zc fm T150.heap n0 (Nat.le_trans (Nat.le_trans (Nat.le_trans (Nat.le_trans (Nat.le_trans (Nat.le_trans (Nat.le_trans Z0 K101.1) K103.1) K106.1) E109.1) K132.1) K137.1) K150.1) f162 S_cs hzc S_fm hfm E_150 Fc_150 Fv_150 Y_150 f164 f165 f166 f167 f168 f169 f170 f171 (by decide) (by omega) (by omega)) e175 (argsL := [(.ref sa150), (.ref sa101), (.ref sa103), (.int (5 : Int32))]) (stk := [(.int (5 : Int32)), (.ref sa103), (.ref sa101), (.ref sa150)]) (st := []) own_pd_34 rfl rfl rfl (W := 0) rfl (by decide) (by decide) (by decide) (by decide) at_171 rfl ?_
  intro T176 L176 v176 X176 q176
  obtain ⟨rfl, N176, e176⟩ := q176
  have M176 := Fr.app M175 N176
  show OG.Go _ _ _ _ (T176.setTop (mkF m 174 #[.val (.int p1), .val (.int p2), .val (.int p3), .val (.int p4), .val (.int p5), .val (.int p6), .val (.int (Int32.ofNat na)), .val (.int (Int32.ofNat nb)), .val (.ref sa101), .val (.ref sa103), .val (.ref sa106), .val (.ref b109), .val (.ref sa150)] [(.int (1 : Int32))]))
  refine OG.ifNo X176 hx hby at_174 (feq (by decide)).1 rfl ?_
  refine OG.aload X176 hx hby at_177 rfl rfl rfl ?_
  refine OG.aload X176 hx hby at_179 rfl rfl rfl ?_
  refine OG.aload X176 hx hby at_181 rfl rfl rfl ?_
  refine OG.bipush (v := (6 : Int32)) X176 hx hby at_183 (by decide) rfl ?_
  refine OG.cS X176 hx Zw150 hby (by rw [hml]; rfl) Ow150 (y := (⟨"com/example/scrutineer/scrutineer/ValidationFailureToStringPinLaw", "ok", "(Ljava/lang/String;Ljava/lang/String;Ljava/lang/String;I)Z"⟩ : MethodName)) (hw _ (List.mem_of_getElem? (i := 201) rfl)) (hw _ (List.mem_of_getElem? (i := 202) rfl)) (hw _ (List.mem_of_getElem? (i := 203) rfl)) (hw _ (List.mem_of_getElem? (i := 2) rfl)) (by decide) (own_rm_ok l Z a0 hw [] sa150 ta150 sa101 ta101 bx101 sa103 ta103 bx103 6 zc fm T150.heap n0 (Nat.le_trans (Nat.le_trans (Nat.le_trans (Nat.le_trans (Nat.le_trans (Nat.le_trans (Nat.le_trans Z0 K101.1) K103.1) K106.1) E109.1) K132.1) K137.1) K150.1) f162 S_cs hzc S_fm hfm E_150 Fc_150 Fv_150 Y_150 f164 f165 f166 f167 f168 f169 f170 f171 (by decide) (by omega) (by omega)) e176 (argsL := [(.ref sa150), (.ref sa101), (.ref sa103), (.int (6 : Int32))]) (stk := [(.int (6 : Int32)), (.ref sa103), (.ref sa101), (.ref sa150)]) (st := []) own_pd_34 rfl rfl rfl (W := 0) rfl (by decide) (by decide) (by decide) (by decide) at_185 rfl ?_
  intro T177 L177 v177 X177 q177
  obtain ⟨rfl, N177, e177⟩ := q177
  have M177 := Fr.app M176 N177
  show OG.Go _ _ _ _ (T177.setTop (mkF m 188 #[.val (.int p1), .val (.int p2), .val (.int p3), .val (.int p4), .val (.int p5), .val (.int p6), .val (.int (Int32.ofNat na)), .val (.int (Int32.ofNat nb)), .val (.ref sa101), .val (.ref sa103), .val (.ref sa106), .val (.ref b109), .val (.ref sa150)] [(.int (1 : Int32))]))
  refine OG.ifNo X177 hx hby at_188 (feq (by decide)).1 rfl ?_
  refine OG.aload X177 hx hby at_191 rfl rfl rfl ?_
  refine OG.aload X177 hx hby at_193 rfl rfl rfl ?_
  refine OG.aload X177 hx hby at_195 rfl rfl rfl ?_
  refine OG.bipush (v := (7 : Int32)) X177 hx hby at_197 (by decide) rfl ?_
  refine OG.cS X177 hx Zw150 hby (by rw [hml]; rfl) Ow150 (y := (⟨"com/example/scrutineer/scrutineer/ValidationFailureToStringPinLaw", "ok", "(Ljava/lang/String;Ljava/lang/String;Ljava/lang/String;I)Z"⟩ : MethodName)) (hw _ (List.mem_of_getElem? (i := 201) rfl)) (hw _ (List.mem_of_getElem? (i := 202) rfl)) (hw _ (List.mem_of_getElem? (i := 203) rfl)) (hw _ (List.mem_of_getElem? (i := 2) rfl)) (by decide) (own_rm_ok l Z a0 hw [] sa150 ta150 sa101 ta101 bx101 sa103 ta103 bx103 7 zc fm T150.heap n0 (Nat.le_trans (Nat.le_trans (Nat.le_trans (Nat.le_trans (Nat.le_trans (Nat.le_trans (Nat.le_trans Z0 K101.1) K103.1) K106.1) E109.1) K132.1) K137.1) K150.1) f162 S_cs hzc S_fm hfm E_150 Fc_150 Fv_150 Y_150 f164 f165 f166 f167 f168 f169 f170 f171 (by decide) (by omega) (by omega)) e177 (argsL := [(.ref sa150), (.ref sa101), (.ref sa103), (.int (7 : Int32))]) (stk := [(.int (7 : Int32)), (.ref sa103), (.ref sa101), (.ref sa150)]) (st := []) own_pd_34 rfl rfl rfl (W := 0) rfl (by decide) (by decide) (by decide) (by decide) at_199 rfl ?_
  intro T178 L178 v178 X178 q178
  obtain ⟨rfl, N178, e178⟩ := q178
  have M178 := Fr.app M177 N178
  show OG.Go _ _ _ _ (T178.setTop (mkF m 202 #[.val (.int p1), .val (.int p2), .val (.int p3), .val (.int p4), .val (.int p5), .val (.int p6), .val (.int (Int32.ofNat na)), .val (.int (Int32.ofNat nb)), .val (.ref sa101), .val (.ref sa103), .val (.ref sa106), .val (.ref b109), .val (.ref sa150)] [(.int (1 : Int32))]))
  refine OG.ifNo X178 hx hby at_202 (feq (by decide)).1 rfl ?_
  refine OG.iconst (v := (1 : Int32)) X178 hx hby at_205 (by decide) rfl ?_
  refine OG.goto (pc' := 210) X178 hx hby at_206 (by decide) (by decide) ?_
  refine OG.retZH X178 hx Zw150 hby (own_hEL hw) S150 (by rw [e178]; exact (Nat.le_refl _)) (by rw [e178]; exact CH160) Bd.returns (by simp) at_210 Bd.notSynchronized (by decide) (by decide) ?_
  exact ⟨rfl, M178⟩
theorem own_cache {args : Array Value} {s : State} (hw : ∀ d ∈ tables_1, d.before args s = true) (hsets : ∀ w ∈ jdkStatics_1, w.before args s = true) :
    ∃ wc cl, Sta s s.heap "java/lang/Integer$IntegerCache" "high" "I" (.int (127 : Int32)) ∧ Sta s s.heap "java/lang/Integer$IntegerCache" "cache" "[Ljava/lang/Integer;" (.ref wc) ∧ own_Cache s wc cl := by
  have q3 := OG.eqI_v (Cond.before_iff.mp (hsets _ (List.mem_of_getElem? (i := 12) rfl)))
  have S1 := Sta.start q3 (Or.inl (hsets _ (List.mem_of_getElem? (i := 10) rfl)))
  obtain ⟨wc, ev⟩ := exa_v (Cond.before_iff.mp (hsets _ (List.mem_of_getElem? (i := 14) rfl)))
  have S2 := Sta.start ev (Or.inr ⟨(hw _ (List.mem_of_getElem? (i := 49) rfl)), hsets _ (List.mem_of_getElem? (i := 11) rfl)⟩)
  obtain ⟨cl, A⟩ := Arr.start ev (Cond.before_iff.mp (hsets _ (List.mem_of_getElem? (i := 13) rfl)))
  obtain ⟨z1, z2⟩ := Jvm.Free.IntBox.length_fwd (hsets _ (List.mem_of_getElem? (i := 15) rfl)) ev A.1 A.2.1 A.2.2
  have z3 : cl.slots.size = 256 := by
    have e1 := len_toInt z1
    rw [z2] at e1
    have e2 : (256 : Int32).toInt = 256 := by decide
    omega
  have hall := own_all (Cond.before_iff.mp (hsets _ (List.mem_of_getElem? (i := 16) rfl))) ev (Jvm.Free.IntBox.arrayAt_of A.1 A.2.1 A.2.2)
  refine ⟨wc, cl, S1, S2, A, z3, fun j h1 h2 => ?_⟩
  have hj : j.toNatClampNeg < cl.slots.size := by
    rw [z3]
    have := own_in h1 h2
    omega
  have ej : j.toNatClampNeg.toInt32 = j := (back32 h1).1
  obtain ⟨k1, k2⟩ := and_e (hall _ hj)
  obtain ⟨a, c', cell, kk, e1, e2, e3, e4, e5, rfl, e7⟩ := Cond.exactly_spec (beq_iff_eq.mpr k1)
  have ix : (Term.index 0).eval args s none [j.toNatClampNeg] s = some (.int j) := by simp [Term.eval, ej]
  have ev' : (Term.static "java/lang/Integer$IntegerCache" "cache" "[Ljava/lang/Integer;").eval args s none [j.toNatClampNeg] s = some (.ref wc) := ev
  obtain ⟨-, q5⟩ := elem_in e1 ev' ix A.1
  exact ⟨a, q5, ⟨cell, kk, e3, e2, e4, e5, e7⟩⟩
set_option maxRecDepth 65536 in
set_option maxHeartbeats 40000000 in
theorem comes_1 {Post : Tables → Env → Array Value → State → Outcome → State → Prop} (hpost : ∀ tb e args s v u, (limb_1_1.after args s (.returned v) u = true ∧ limb_1_2.after args s (.returned v) u = true ∧ True) → FramedW s (.returned v) u (Jvm.fieldLocs frame_1_writes args s ++ Jvm.arrayLocs frame_1_arrays args s ++ Jvm.staticLocs frame_1_statics s) 48 2304 → Post tb e args s (.returned v) u) :
    ArmFor flags0 classFile x code maxLocals ret World_1 tables_1 room_1 Calls_1 rest_1 Pre_1 Post := by
  intro l hfl _ _ p e ha hc hk s m args below hf hA hF happ hP
  obtain ⟨hcalls, hrest, hpre⟩ := hP
  obtain ⟨-, -, -, hnamed, -, -, -, hat⟩ := (Spec.applies_iff hf).mp happ
  obtain ⟨hg, hn⟩ := and_e (Cond.before_iff.mp (show (Jvm.Cond.and given_1 narrow_1).before args s = true from hpre))
  obtain ⟨gc, gr0⟩ := and_e hg
  obtain ⟨ga0, gr1⟩ := and_e gr0
  obtain ⟨ga1, gr2⟩ := and_e gr1
  obtain ⟨ga2, gr3⟩ := and_e gr2
  obtain ⟨ga3, gr4⟩ := and_e gr3
  obtain ⟨ga4, gr5⟩ := and_e gr4
  obtain ⟨w0, w1, w2, w3, w4, w5, rfl⟩ : ∃ w0 w1 w2 w3 w4 w5 : Value, args = #[w0, w1, w2, w3, w4, w5] := by
    have hs : args.size = 6 := by simpa [Cond.value, given_1] using gc
    obtain ⟨L⟩ := args
    match L, hs with
    | [w0, w1, w2, w3, w4, w5], _ => exact ⟨w0, w1, w2, w3, w4, w5, rfl⟩
  have hw := fun d (hd : d ∈ tables_1) => atoms_spec (ws := Jvm.Cond.code x code maxLocals ret :: tables_1) hat d (List.mem_cons_of_mem _ hd)
  have hfit : Fit s := fun {y c} hc i hi => by
    obtain ⟨ha, rfl⟩ := Array.getElem?_eq_some_iff.mp hc
    have q := List.all_eq_true.mp ((Array.all_eq_true_iff_forall_mem.mp hF) _ (Array.getElem_mem ha)) i (List.mem_range.mpr hi)
    simpa [Array.getElem?_eq_getElem hi] using q
  obtain ⟨i0, ei0⟩ := is_v ga0
  obtain rfl : w0 = (.int i0) := Option.some.inj ei0
  obtain ⟨i1, ei1⟩ := is_v ga1
  obtain rfl : w1 = (.int i1) := Option.some.inj ei1
  obtain ⟨i2, ei2⟩ := is_v ga2
  obtain rfl : w2 = (.int i2) := Option.some.inj ei2
  obtain ⟨i3, ei3⟩ := is_v ga3
  obtain rfl : w3 = (.int i3) := Option.some.inj ei3
  obtain ⟨i4, ei4⟩ := is_v ga4
  obtain rfl : w4 = (.int i4) := Option.some.inj ei4
  obtain ⟨i5, ei5⟩ := is_v gr5
  obtain rfl : w5 = (.int i5) := Option.some.inj ei5
  obtain ⟨hsets, hown0⟩ := atoms_of _ (rest_1_c_eq ▸ (show rest_1_c.before _ s = true from hrest))
  obtain ⟨zc, evz⟩ := is_v (Cond.before_iff.mp (hsets _ (List.mem_of_getElem? (i := 1) rfl)))
  have S_cs := Sta.start evz (Or.inl (hsets _ (List.mem_of_getElem? (i := 0) rfl)))
  have hzc := own_ne0 evz (Cond.before_iff.mp (hsets _ (List.mem_of_getElem? (i := 2) rfl)))
  obtain ⟨fm, evf, hfm⟩ := own_isRef (Cond.before_iff.mp (hsets _ (List.mem_of_getElem? (i := 8) rfl)))
  have S_fm := Sta.start evf (Or.inl (hsets _ (List.mem_of_getElem? (i := 7) rfl)))
  obtain ⟨wc, cl, S_high, S_cache, Ca⟩ := own_cache hw hsets
  obtain ⟨em, evm⟩ := exa_v (Cond.before_iff.mp (hsets _ (List.mem_of_getElem? (i := 19) rfl)))
  have E_em := Exa.start evm (Cond.before_iff.mp (hsets _ (List.mem_of_getElem? (i := 19) rfl)))
  have S_em := Sta.start evm (Or.inl (hsets _ (List.mem_of_getElem? (i := 18) rfl)))
  obtain ⟨n, o, h1, h2, h3, _, L, rfl, ⟨rfl, N⟩, -, hq⟩ := own_rm_law l s _ hw tables_1 i0 i1 i2 i3 i4 i5 zc fm wc cl em s.heap s.heap.size (Nat.le_refl _) (Old.start s) S_cs hzc S_fm hfm S_high S_cache Ca S_em E_em p e ha hc hk s m _ below hf ((Spec.applies_iff_loose hf).mp happ).1 ⟨rfl, State.Warmed39.refl s, rfl, CHv.start (own_hEL hw) (fun q hq => hcalls.1 q ((by decide : ∀ q ∈ own_EL, q ∈ consts_1) q hq)) (hsets _ (List.mem_of_getElem? (i := 2) rfl)) (hw _ (List.mem_of_getElem? (i := 18) rfl)) (hw _ (List.mem_of_getElem? (i := 14) rfl))⟩ trivial
  refine ⟨n, _, h1, h2, h3, hpost _ _ _ _ _ _ ⟨Cond.after_iff.mpr rfl, Cond.after_iff.mpr (eq_i res_at (Term.int_eval (1)) rfl), trivial⟩ ⟨hq.1, hq.2.1, hq.2.2.1, (hq.2.2.2.sift fun y hy => Or.inr (N y hy)).mono (by decide) (by decide)⟩⟩
theorem main_1_1 : Claimed_1_1 := comes_1 fun _ _ _ _ _ _ h hF => ⟨h.1, hF⟩
theorem main_1_2 : Claimed_1_2 := comes_1 fun _ _ _ _ _ _ h hF => ⟨h.2.1, hF⟩
end Jvm.Pilot.@@N@@
namespace Jvm.Pilot.@@N@@
open Jvm Jvm.ClassFile Sem Op Lib Jvm.Free Jvm.Stand Jvm.Pilot.@@N@@.Jvm.D
/-! MADE BY PROGRAM (witnessworld.py) out of the Statement's table words and the real class files: 36 classes; the members and pool entries that the words name. The judged class is class 1, her method 1. -/
namespace start1
open Jvm.ClassFile
def u (s : String) : CpInfo := .utf8 (stringToUtf16 s)
/-- a pool by its gaps: so many unusable entries, then the entry; so many at the end -/
def gap : Nat → List CpInfo → List CpInfo
  | 0, r => r
  | n + 1, r => .unusable :: gap n r
def poolList (es : List (Nat × CpInfo)) (last : Nat) : List CpInfo := es.foldr (fun e r => gap e.1 (e.2 :: r)) (gap last [])
def pool (es : List (Nat × CpInfo)) (last : Nat) : Array CpInfo := ⟨poolList es last⟩
def fileOf (pool : Array CpInfo) (this : Nat) (attrs : Array Attribute := #[]) (ms : Array MethodInfo := #[]) (fl : Nat := 33) (sup : Nat := 0) (ifs : Array Nat := #[]) (fds : Array FieldInfo := #[]) : ClassFile where
  minorVersion := 0
  majorVersion := 65
  constantPool := pool
  accessFlags := fl
  thisClass := this
  superClass := sup
  interfaces := ifs
  fields := fds
  methods := ms
  attributes := attrs
def plain (name : String) (sup : Option ClassId) : Class where
  name := name
  kind := .ordinary
  loader := none
  accessFlags := 33
  super := sup
  interfaces := #[]
  cf := none
  fields := #[]
  methods := #[]
  instanceTypes := #[]
  staticTypes := #[]
  resolved := #[]
  callSites := []
  init := .initialized
  statics := none
  mirror := none

def pool0 : Array CpInfo := pool [(5, u "<init>"), (0, u "()V"), (1, .class_ 10), (1, u "java/lang/Object")] 113

def k0c0 : Code := { maxStack := 0, maxLocals := 1, code := object_method_1_code, exceptionTable := #[], attributes := #[] }
def k0m0 : Method := { name := "<init>", desc := "()V", sig := { parameters := [], returnType := none }, accessFlags := 1, code := some k0c0 }
/-- java/lang/Object -/
def k0 : Class := { plain "java/lang/Object" none with
  accessFlags := 33
  interfaces := #[]
  cf := some (fileOf pool0 8 #[] #[{ accessFlags := 1, nameIndex := 5, descriptorIndex := 6, attributes := #[] }] 33 0 #[] #[])
  fields := #[]
  methods := #[k0m0]
  instanceTypes := #[]
  staticTypes := #[]
  resolved := Array.replicate 124 none
  statics := none }

def pool1 : Array CpInfo := pool [(2, .class_ 4), (1, u "java/lang/Object"), (0, u "<init>"), (0, u "()V"), (0, .methodref 8 9), (0, .class_ 10), (0, .nameAndType 11 12), (0, u "com/example/scrutineer/scrutineer/ValidationFailureToStringPinLaw"), (0, u "mk"), (0, u "(II)Ljava/lang/String;"), (0, .class_ 14), (0, u "com/example/scrutineer/scrutineer/ValidationFailure"), (0, .methodref 16 17), (0, .class_ 18), (0, .nameAndType 19 20), (0, u "java/lang/Integer"), (0, u "valueOf"), (0, u "(I)Ljava/lang/Integer;"), (0, .interfaceMethodref 22 23), (0, .class_ 24), (0, .nameAndType 25 26), (0, u "java/util/Map"), (0, u "of"), (0, u "()Ljava/util/Map;"), (0, .methodref 13 28), (0, .nameAndType 5 29), (0, u "(Ljava/lang/String;Ljava/lang/String;Ljava/lang/String;Ljava/lang/String;Ljava/lang/String;ILjava/lang/Object;Ljava/util/Map;Ljava/lang/String;)V"), (0, .methodref 13 31), (0, .nameAndType 32 33), (0, u "toString"), (0, u "()Ljava/lang/String;"), (0, .methodref 35 36), (0, .class_ 37), (0, .nameAndType 38 39), (0, u "java/lang/String"), (0, u "length"), (0, u "()I"), (0, .methodref 8 41), (0, .nameAndType 42 43), (0, u "ok"), (0, u "(Ljava/lang/String;Ljava/lang/String;Ljava/lang/String;I)Z"), (0, .methodref 35 45), (0, .nameAndType 5 46), (0, u "([C)V"), (0, .methodref 35 48), (0, .nameAndType 19 49), (0, u "(C)Ljava/lang/String;"), (0, .methodref 35 51), (0, .nameAndType 52 53), (0, u "charAt"), (0, u "(I)C"), (2, u "law"), (0, u "(IIIIII)Z")] 3

def k1m0 : Method := { name := "<init>", desc := "()V", sig := { parameters := [], returnType := none }, accessFlags := 1, code := none }
def k1c1 : Code := { maxStack := 11, maxLocals := 13, code := code, exceptionTable := #[], attributes := #[] }
def k1m1 : Method := { name := "law", desc := "(IIIIII)Z", sig := { parameters := [.int, .int, .int, .int, .int, .int], returnType := some .boolean }, accessFlags := 9, code := some k1c1 }
def k1c2 : Code := { maxStack := 6, maxLocals := 5, code := method_3_code, exceptionTable := #[], attributes := #[] }
def k1m2 : Method := { name := "mk", desc := "(II)Ljava/lang/String;", sig := { parameters := [.int, .int], returnType := some (.object "java/lang/String") }, accessFlags := 10, code := some k1c2 }
def k1c3 : Code := { maxStack := 3, maxLocals := 6, code := method_4_code, exceptionTable := #[], attributes := #[] }
def k1m3 : Method := { name := "ok", desc := "(Ljava/lang/String;Ljava/lang/String;Ljava/lang/String;I)Z", sig := { parameters := [(.object "java/lang/String"), (.object "java/lang/String"), (.object "java/lang/String"), .int], returnType := some .boolean }, accessFlags := 10, code := some k1c3 }
/-- com/example/scrutineer/scrutineer/ValidationFailureToStringPinLaw -/
def k1 : Class := { plain "com/example/scrutineer/scrutineer/ValidationFailureToStringPinLaw" (some 0) with
  accessFlags := 49
  interfaces := #[]
  cf := some (fileOf pool1 8 #[] #[{ accessFlags := 1, nameIndex := 5, descriptorIndex := 6, attributes := #[] }, { accessFlags := 9, nameIndex := 56, descriptorIndex := 57, attributes := #[] }, { accessFlags := 10, nameIndex := 11, descriptorIndex := 12, attributes := #[] }, { accessFlags := 10, nameIndex := 42, descriptorIndex := 43, attributes := #[] }] 49 2 #[] #[])
  fields := #[]
  methods := #[k1m0, k1m1, k1m2, k1m3]
  instanceTypes := #[]
  staticTypes := #[]
  resolved := Array.replicate 61 none
  statics := none }

def pool2 : Array CpInfo := pool [(1, .class_ 2), (0, u "java/io/Serializable"), (0, .class_ 4), (0, u "java/lang/Object")] 2

/-- java/io/Serializable -/
def k2 : Class := { plain "java/io/Serializable" (some 0) with
  accessFlags := 1537
  interfaces := #[]
  cf := some (fileOf pool2 1 #[] #[] 1537 3 #[] #[])
  fields := #[]
  methods := #[]
  instanceTypes := #[]
  staticTypes := #[]
  resolved := Array.replicate 7 none
  statics := none }

def pool3 : Array CpInfo := pool [(1, .class_ 2), (0, u "java/lang/Comparable"), (0, .class_ 4), (0, u "java/lang/Object")] 7

/-- java/lang/Comparable -/
def k3 : Class := { plain "java/lang/Comparable" (some 0) with
  accessFlags := 1537
  interfaces := #[]
  cf := some (fileOf pool3 1 #[] #[] 1537 3 #[] #[])
  fields := #[]
  methods := #[]
  instanceTypes := #[]
  staticTypes := #[]
  resolved := Array.replicate 12 none
  statics := none }

def pool4 : Array CpInfo := pool [(2, .class_ 4), (1, u "java/lang/CharSequence"), (42, .class_ 48), (0, u "java/lang/CharSequence$1CodePointIterator"), (10, .class_ 60), (0, u "java/lang/CharSequence$1CharIterator"), (5, .class_ 67), (0, u "java/lang/Object")] 63

/-- java/lang/CharSequence -/
def k4 : Class := { plain "java/lang/CharSequence" (some 0) with
  accessFlags := 1537
  interfaces := #[]
  cf := some (fileOf pool4 2 #[.nestMembers #[47, 59]] #[] 1537 66 #[] #[])
  fields := #[]
  methods := #[]
  instanceTypes := #[]
  staticTypes := #[]
  resolved := Array.replicate 131 none
  statics := none }

def pool5 : Array CpInfo := pool [(1, .class_ 2), (0, u "java/lang/constant/Constable"), (0, .class_ 4), (0, u "java/lang/Object")] 6

/-- java/lang/constant/Constable -/
def k5 : Class := { plain "java/lang/constant/Constable" (some 0) with
  accessFlags := 1537
  interfaces := #[]
  cf := some (fileOf pool5 1 #[] #[] 1537 3 #[] #[])
  fields := #[]
  methods := #[]
  instanceTypes := #[]
  staticTypes := #[]
  resolved := Array.replicate 11 none
  statics := none }

def pool6 : Array CpInfo := pool [(1, .class_ 2), (0, u "java/lang/constant/ConstantDesc"), (0, .class_ 4), (0, u "java/lang/Object")] 32

/-- java/lang/constant/ConstantDesc -/
def k6 : Class := { plain "java/lang/constant/ConstantDesc" (some 0) with
  accessFlags := 1537
  interfaces := #[]
  cf := some (fileOf pool6 1 #[] #[] 1537 3 #[] #[])
  fields := #[]
  methods := #[]
  instanceTypes := #[]
  staticTypes := #[]
  resolved := Array.replicate 37 none
  statics := none }

def pool7 : Array CpInfo := pool [(1, .methodref 2 3), (0, .class_ 4), (0, .nameAndType 5 6), (0, u "java/lang/Object"), (0, u "<init>"), (0, u "()V"), (0, .string 8), (0, u ""), (0, .fieldref 10 11), (0, .class_ 12), (0, .nameAndType 13 14), (0, u "java/lang/String"), (0, u "value"), (0, u "[B"), (0, .fieldref 10 16), (0, .nameAndType 17 18), (0, u "coder"), (0, u "B"), (2, u "hash"), (0, u "I"), (2, u "hashIsZero"), (0, u "Z"), (0, .methodref 10 28), (0, .nameAndType 5 29), (0, u "([CIILjava/lang/Void;)V"), (8, .fieldref 10 39), (0, .nameAndType 40 26), (0, u "COMPACT_STRINGS"), (1, .class_ 44), (1, u "java/lang/StringUTF16"), (0, u "compress"), (1, .methodref 42 48), (0, .nameAndType 49 50), (0, u "coderFromArrayLen"), (0, u "([BI)B"), (2, u "toBytes"), (0, .methodref 55 56), (0, .class_ 57), (0, .nameAndType 58 59), (0, u "java/util/Arrays"), (0, u "copyOfRange"), (0, u "([BII)[B"), (47, .class_ 109), (1, u "java/lang/StringLatin1"), (32, u "()Z"), (34, .methodref 42 178), (0, .nameAndType 45 179), (0, u "([CII)[B"), (13, .class_ 195), (1, u "java/lang/System"), (13, .methodref 10 210), (0, .nameAndType 5 211), (0, u "([BB)V"), (0, .methodref 193 213), (0, .nameAndType 214 215), (0, u "arraycopy"), (0, u "(Ljava/lang/Object;ILjava/lang/Object;II)V"), (118, u "()I"), (0, .methodref 10 336), (0, .nameAndType 17 337), (0, u "()B"), (2, u "()[B"), (22, u "([BI)C"), (5, u "(C)Z"), (21, u "(II)V"), (35, u "(I)C"), (61, .methodref 10 490), (0, .nameAndType 5 491), (0, u "(Ljava/lang/AbstractStringBuilder;Ljava/lang/Void;)V"), (0, .methodref 10 493), (0, .nameAndType 494 142), (0, u "isLatin1"), (0, .methodref 107 496), (0, .nameAndType 497 363), (0, u "charAt"), (3, u "checkIndex"), (4, .nameAndType 507 334), (0, u "length"), (24, u "getBytes"), (16, .methodref 550 506), (0, .class_ 551), (0, u "java/lang/AbstractStringBuilder"), (0, .methodref 550 553), (0, .nameAndType 554 340), (0, u "getValue"), (20, .class_ 576), (0, u "java/lang/CharSequence"), (22, u "CASE_INSENSITIVE_ORDER"), (0, u "Ljava/util/Comparator;"), (181, u "valueOf"), (0, u "(C)Ljava/lang/String;"), (37, u "([BIB)V"), (188, u "([C)V"), (4, .methodref 107 1016), (0, .nameAndType 1017 369), (0, u "canEncode"), (0, .methodref 107 1019), (0, .nameAndType 53 1020), (0, u "(C)[B"), (26, .methodref 550 493), (5, .fieldref 1054 1055), (0, .class_ 1056), (0, .nameAndType 1057 1058), (0, u "jdk/internal/util/Preconditions"), (0, u "SIOOBE_FORMATTER"), (0, u "Ljava/util/function/BiFunction;"), (0, .methodref 1054 1060), (0, .nameAndType 501 1061), (0, u "(IILjava/util/function/BiFunction;)I"), (39, u "serialPersistentFields"), (0, u "[Ljava/io/ObjectStreamField;"), (0, .class_ 1104), (0, u "java/lang/String$CaseInsensitiveComparator"), (1, .class_ 1107), (0, u "java/io/Serializable"), (0, .class_ 1109), (0, u "java/lang/Comparable"), (0, .class_ 1111), (0, u "java/lang/constant/Constable"), (0, .class_ 1113), (0, u "java/lang/constant/ConstantDesc"), (2, u "serialVersionUID"), (0, u "J"), (3, u "REPL"), (0, u "C"), (2, u "LATIN1"), (1, u "UTF16"), (105, u "(Ljava/lang/StringBuilder;)V")] 217

def k7m0 : Method := { name := "<init>", desc := "()V", sig := { parameters := [], returnType := none }, accessFlags := 1, code := none }
def k7c1 : Code := { maxStack := 5, maxLocals := 2, code := jdk_42_method_3_code, exceptionTable := #[], attributes := #[] }
def k7m1 : Method := { name := "<init>", desc := "([C)V", sig := { parameters := [(.array .char)], returnType := none }, accessFlags := 1, code := some k7c1 }
def k7c2 : Code := { maxStack := 3, maxLocals := 2, code := jdk_42_method_53_code, exceptionTable := #[], attributes := #[] }
def k7m2 : Method := { name := "<init>", desc := "(Ljava/lang/StringBuilder;)V", sig := { parameters := [(.object "java/lang/StringBuilder")], returnType := none }, accessFlags := 1, code := some k7c2 }
def k7c3 : Code := { maxStack := 2, maxLocals := 1, code := jdk_42_method_54_code, exceptionTable := #[], attributes := #[] }
def k7m3 : Method := { name := "length", desc := "()I", sig := { parameters := [], returnType := some .int }, accessFlags := 1, code := some k7c3 }
def k7c4 : Code := { maxStack := 2, maxLocals := 2, code := jdk_42_method_56_code, exceptionTable := #[], attributes := #[] }
def k7m4 : Method := { name := "charAt", desc := "(I)C", sig := { parameters := [.int], returnType := some .char }, accessFlags := 1, code := some k7c4 }
def k7c5 : Code := { maxStack := 4, maxLocals := 1, code := jdk_42_method_139_code, exceptionTable := #[], attributes := #[] }
def k7m5 : Method := { name := "valueOf", desc := "(C)Ljava/lang/String;", sig := { parameters := [.char], returnType := some (.object "java/lang/String") }, accessFlags := 9, code := some k7c5 }
def k7c6 : Code := { maxStack := 5, maxLocals := 4, code := jdk_42_method_147_code, exceptionTable := #[], attributes := #[] }
def k7m6 : Method := { name := "getBytes", desc := "([BIB)V", sig := { parameters := [(.array .byte), .int, .byte], returnType := none }, accessFlags := 0, code := some k7c6 }
def k7c7 : Code := { maxStack := 4, maxLocals := 6, code := jdk_42_method_149_code, exceptionTable := #[], attributes := #[] }
def k7m7 : Method := { name := "<init>", desc := "([CIILjava/lang/Void;)V", sig := { parameters := [(.array .char), .int, .int, (.object "java/lang/Void")], returnType := none }, accessFlags := 2, code := some k7c7 }
def k7c8 : Code := { maxStack := 5, maxLocals := 5, code := jdk_42_method_150_code, exceptionTable := #[], attributes := #[] }
def k7m8 : Method := { name := "<init>", desc := "(Ljava/lang/AbstractStringBuilder;Ljava/lang/Void;)V", sig := { parameters := [(.object "java/lang/AbstractStringBuilder"), (.object "java/lang/Void")], returnType := none }, accessFlags := 0, code := some k7c8 }
def k7c9 : Code := { maxStack := 2, maxLocals := 3, code := jdk_42_method_151_code, exceptionTable := #[], attributes := #[] }
def k7m9 : Method := { name := "<init>", desc := "([BB)V", sig := { parameters := [(.array .byte), .byte], returnType := none }, accessFlags := 0, code := some k7c9 }
def k7c10 : Code := { maxStack := 1, maxLocals := 1, code := jdk_42_method_152_code, exceptionTable := #[], attributes := #[] }
def k7m10 : Method := { name := "coder", desc := "()B", sig := { parameters := [], returnType := some .byte }, accessFlags := 0, code := some k7c10 }
def k7c11 : Code := { maxStack := 1, maxLocals := 1, code := jdk_42_method_154_code, exceptionTable := #[], attributes := #[] }
def k7m11 : Method := { name := "isLatin1", desc := "()Z", sig := { parameters := [], returnType := some .boolean }, accessFlags := 0, code := some k7c11 }
def k7c12 : Code := { maxStack := 3, maxLocals := 2, code := jdk_42_method_155_code, exceptionTable := #[], attributes := #[] }
def k7m12 : Method := { name := "checkIndex", desc := "(II)V", sig := { parameters := [.int, .int], returnType := none }, accessFlags := 8, code := some k7c12 }
/-- java/lang/String -/
def k7 : Class := { plain "java/lang/String" (some 0) with
  accessFlags := 49
  interfaces := #[2, 3, 4, 5, 6]
  cf := some (fileOf pool7 10 #[.nestMembers #[1103]] #[{ accessFlags := 1, nameIndex := 5, descriptorIndex := 6, attributes := #[] }, { accessFlags := 1, nameIndex := 5, descriptorIndex := 1010, attributes := #[] }, { accessFlags := 1, nameIndex := 5, descriptorIndex := 1233, attributes := #[] }, { accessFlags := 1, nameIndex := 507, descriptorIndex := 334, attributes := #[] }, { accessFlags := 1, nameIndex := 497, descriptorIndex := 427, attributes := #[] }, { accessFlags := 9, nameIndex := 782, descriptorIndex := 783, attributes := #[] }, { accessFlags := 0, nameIndex := 532, descriptorIndex := 821, attributes := #[] }, { accessFlags := 2, nameIndex := 5, descriptorIndex := 29, attributes := #[] }, { accessFlags := 0, nameIndex := 5, descriptorIndex := 491, attributes := #[] }, { accessFlags := 0, nameIndex := 5, descriptorIndex := 211, attributes := #[] }, { accessFlags := 0, nameIndex := 17, descriptorIndex := 337, attributes := #[] }, { accessFlags := 0, nameIndex := 494, descriptorIndex := 142, attributes := #[] }, { accessFlags := 8, nameIndex := 501, descriptorIndex := 391, attributes := #[] }] 49 2 #[1106, 1108, 575, 1110, 1112] #[{ accessFlags := 18, nameIndex := 13, descriptorIndex := 14, attributes := #[] }, { accessFlags := 18, nameIndex := 17, descriptorIndex := 18, attributes := #[] }, { accessFlags := 2, nameIndex := 21, descriptorIndex := 22, attributes := #[] }, { accessFlags := 2, nameIndex := 25, descriptorIndex := 26, attributes := #[] }, { accessFlags := 26, nameIndex := 1116, descriptorIndex := 1117, attributes := #[] }, { accessFlags := 24, nameIndex := 40, descriptorIndex := 26, attributes := #[] }, { accessFlags := 26, nameIndex := 1101, descriptorIndex := 1102, attributes := #[] }, { accessFlags := 26, nameIndex := 1121, descriptorIndex := 1122, attributes := #[] }, { accessFlags := 25, nameIndex := 599, descriptorIndex := 600, attributes := #[] }, { accessFlags := 24, nameIndex := 1125, descriptorIndex := 18, attributes := #[] }, { accessFlags := 24, nameIndex := 1127, descriptorIndex := 18, attributes := #[] }])
  fields := #[{ name := "value", type := (.array .byte), accessFlags := 18, slot := 0, constantValue := 0 }, { name := "coder", type := .byte, accessFlags := 18, slot := 1, constantValue := 0 }, { name := "hash", type := .int, accessFlags := 2, slot := 2, constantValue := 0 }, { name := "hashIsZero", type := .boolean, accessFlags := 2, slot := 3, constantValue := 0 }, { name := "serialVersionUID", type := .long, accessFlags := 26, slot := 0, constantValue := 0 }, { name := "COMPACT_STRINGS", type := .boolean, accessFlags := 24, slot := 1, constantValue := 0 }, { name := "serialPersistentFields", type := (.array (.object "java/io/ObjectStreamField")), accessFlags := 26, slot := 2, constantValue := 0 }, { name := "REPL", type := .char, accessFlags := 26, slot := 3, constantValue := 0 }, { name := "CASE_INSENSITIVE_ORDER", type := (.object "java/util/Comparator"), accessFlags := 25, slot := 4, constantValue := 0 }, { name := "LATIN1", type := .byte, accessFlags := 24, slot := 5, constantValue := 0 }, { name := "UTF16", type := .byte, accessFlags := 24, slot := 6, constantValue := 0 }]
  methods := #[k7m0, k7m1, k7m2, k7m3, k7m4, k7m5, k7m6, k7m7, k7m8, k7m9, k7m10, k7m11, k7m12]
  instanceTypes := #[(.array .byte), .byte, .int, .boolean]
  staticTypes := #[.long, .boolean, (.array (.object "java/io/ObjectStreamField")), .char, (.object "java/util/Comparator"), .byte, .byte]
  resolved := Array.replicate 1451 none
  statics := some 0 }

def pool8 : Array CpInfo := pool [(1, .class_ 2), (0, u "java/lang/String"), (1, .class_ 6), (1, u "java/lang/Object"), (0, u "<init>"), (0, u "()V"), (0, .methodref 1 10), (0, .nameAndType 11 12), (0, u "checkIndex"), (0, u "(II)V"), (1, .class_ 16), (1, u "java/lang/StringLatin1"), (36, u "([BI)C"), (36, u "canEncode"), (14, u "(C)Z"), (15, u "$assertionsDisabled"), (0, u "Z"), (98, .class_ 223), (1, u "java/lang/StringLatin1$LinesSpliterator"), (28, u "charAt"), (127, u "toBytes"), (1, u "(C)[B"), (7, .class_ 391), (0, u "java/lang/StringLatin1$CharsSpliterator")] 3

def k8m0 : Method := { name := "<init>", desc := "()V", sig := { parameters := [], returnType := none }, accessFlags := 0, code := none }
def k8c1 : Code := { maxStack := 2, maxLocals := 2, code := jdk_43_method_2_code, exceptionTable := #[], attributes := #[] }
def k8m1 : Method := { name := "charAt", desc := "([BI)C", sig := { parameters := [(.array .byte), .int], returnType := some .char }, accessFlags := 9, code := some k8c1 }
def k8c2 : Code := { maxStack := 2, maxLocals := 1, code := jdk_43_method_3_code, exceptionTable := #[], attributes := #[] }
def k8m2 : Method := { name := "canEncode", desc := "(C)Z", sig := { parameters := [.char], returnType := some .boolean }, accessFlags := 9, code := some k8c2 }
def k8c3 : Code := { maxStack := 4, maxLocals := 1, code := jdk_43_method_46_code, exceptionTable := #[], attributes := #[] }
def k8m3 : Method := { name := "toBytes", desc := "(C)[B", sig := { parameters := [.char], returnType := some (.array .byte) }, accessFlags := 9, code := some k8c3 }
/-- java/lang/StringLatin1 -/
def k8 : Class := { plain "java/lang/StringLatin1" (some 0) with
  accessFlags := 48
  interfaces := #[]
  cf := some (fileOf pool8 14 #[.nestMembers #[390, 221]] #[{ accessFlags := 0, nameIndex := 7, descriptorIndex := 8, attributes := #[] }, { accessFlags := 9, nameIndex := 252, descriptorIndex := 53, attributes := #[] }, { accessFlags := 9, nameIndex := 90, descriptorIndex := 105, attributes := #[] }, { accessFlags := 9, nameIndex := 380, descriptorIndex := 382, attributes := #[] }] 48 4 #[] #[{ accessFlags := 4120, nameIndex := 121, descriptorIndex := 122, attributes := #[] }])
  fields := #[{ name := "$assertionsDisabled", type := .boolean, accessFlags := 4120, slot := 0, constantValue := 0 }]
  methods := #[k8m0, k8m1, k8m2, k8m3]
  instanceTypes := #[]
  staticTypes := #[.boolean]
  resolved := Array.replicate 395 none
  statics := none }

def pool9 : Array CpInfo := pool [(1, .methodref 2 3), (0, .class_ 4), (0, .nameAndType 5 6), (0, u "java/lang/Object"), (0, u "<init>"), (0, u "()V"), (0, .fieldref 8 9), (0, .class_ 10), (0, .nameAndType 11 12), (0, u "com/example/scrutineer/scrutineer/ValidationFailure"), (0, u "path"), (0, u "Ljava/lang/String;"), (0, .fieldref 8 14), (0, .nameAndType 15 12), (0, u "name"), (0, .fieldref 8 17), (0, .nameAndType 18 12), (0, u "label"), (0, .fieldref 8 20), (0, .nameAndType 21 12), (0, u "key"), (0, .fieldref 8 23), (0, .nameAndType 24 12), (0, u "message"), (0, .fieldref 8 26), (0, .nameAndType 27 28), (0, u "severity"), (0, u "I"), (0, .fieldref 8 30), (0, .nameAndType 31 32), (0, u "value"), (0, u "Ljava/lang/Object;"), (0, .interfaceMethodref 34 35), (0, .class_ 36), (0, .nameAndType 37 38), (0, u "java/util/Map"), (0, u "copyOf"), (0, u "(Ljava/util/Map;)Ljava/util/Map;"), (0, .fieldref 8 40), (0, .nameAndType 41 42), (0, u "messages"), (0, u "Ljava/util/Map;"), (0, .fieldref 8 44), (0, .nameAndType 45 12), (0, u "validatorId"), (19, .class_ 66), (0, u "java/lang/StringBuilder"), (0, .methodref 65 3), (0, .methodref 65 69), (0, .nameAndType 70 71), (0, u "append"), (0, u "(Ljava/lang/String;)Ljava/lang/StringBuilder;"), (0, .string 73), (0, u ": "), (0, .methodref 65 75), (0, .nameAndType 76 77), (0, u "toString"), (0, u "()Ljava/lang/String;"), (2, u "(Ljava/lang/String;Ljava/lang/String;Ljava/lang/String;Ljava/lang/String;Ljava/lang/String;ILjava/lang/Object;Ljava/util/Map;Ljava/lang/String;)V")] 11

def k9c0 : Code := { maxStack := 2, maxLocals := 10, code := prog_69_method_1_code, exceptionTable := #[], attributes := #[] }
def k9m0 : Method := { name := "<init>", desc := "(Ljava/lang/String;Ljava/lang/String;Ljava/lang/String;Ljava/lang/String;Ljava/lang/String;ILjava/lang/Object;Ljava/util/Map;Ljava/lang/String;)V", sig := { parameters := [(.object "java/lang/String"), (.object "java/lang/String"), (.object "java/lang/String"), (.object "java/lang/String"), (.object "java/lang/String"), .int, (.object "java/lang/Object"), (.object "java/util/Map"), (.object "java/lang/String")], returnType := none }, accessFlags := 0, code := some k9c0 }
def k9c1 : Code := { maxStack := 2, maxLocals := 1, code := prog_69_method_13_code, exceptionTable := #[], attributes := #[] }
def k9m1 : Method := { name := "toString", desc := "()Ljava/lang/String;", sig := { parameters := [], returnType := some (.object "java/lang/String") }, accessFlags := 1, code := some k9c1 }
/-- com/example/scrutineer/scrutineer/ValidationFailure -/
def k9 : Class := { plain "com/example/scrutineer/scrutineer/ValidationFailure" (some 0) with
  accessFlags := 49
  interfaces := #[]
  cf := some (fileOf pool9 8 #[] #[{ accessFlags := 0, nameIndex := 5, descriptorIndex := 80, attributes := #[] }, { accessFlags := 1, nameIndex := 76, descriptorIndex := 77, attributes := #[] }] 49 2 #[] #[{ accessFlags := 18, nameIndex := 11, descriptorIndex := 12, attributes := #[] }, { accessFlags := 18, nameIndex := 15, descriptorIndex := 12, attributes := #[] }, { accessFlags := 18, nameIndex := 18, descriptorIndex := 12, attributes := #[] }, { accessFlags := 18, nameIndex := 21, descriptorIndex := 12, attributes := #[] }, { accessFlags := 18, nameIndex := 24, descriptorIndex := 12, attributes := #[] }, { accessFlags := 18, nameIndex := 27, descriptorIndex := 28, attributes := #[] }, { accessFlags := 18, nameIndex := 31, descriptorIndex := 32, attributes := #[] }, { accessFlags := 18, nameIndex := 41, descriptorIndex := 42, attributes := #[] }, { accessFlags := 18, nameIndex := 45, descriptorIndex := 12, attributes := #[] }])
  fields := #[{ name := "path", type := (.object "java/lang/String"), accessFlags := 18, slot := 0, constantValue := 0 }, { name := "name", type := (.object "java/lang/String"), accessFlags := 18, slot := 1, constantValue := 0 }, { name := "label", type := (.object "java/lang/String"), accessFlags := 18, slot := 2, constantValue := 0 }, { name := "key", type := (.object "java/lang/String"), accessFlags := 18, slot := 3, constantValue := 0 }, { name := "message", type := (.object "java/lang/String"), accessFlags := 18, slot := 4, constantValue := 0 }, { name := "severity", type := .int, accessFlags := 18, slot := 5, constantValue := 0 }, { name := "value", type := (.object "java/lang/Object"), accessFlags := 18, slot := 6, constantValue := 0 }, { name := "messages", type := (.object "java/util/Map"), accessFlags := 18, slot := 7, constantValue := 0 }, { name := "validatorId", type := (.object "java/lang/String"), accessFlags := 18, slot := 8, constantValue := 0 }]
  methods := #[k9m0, k9m1]
  instanceTypes := #[(.object "java/lang/String"), (.object "java/lang/String"), (.object "java/lang/String"), (.object "java/lang/String"), (.object "java/lang/String"), .int, (.object "java/lang/Object"), (.object "java/util/Map"), (.object "java/lang/String")]
  staticTypes := #[]
  resolved := Array.replicate 92 none
  statics := none }

def pool10 : Array CpInfo := pool [(1, .methodref 2 3), (0, .class_ 4), (0, .nameAndType 5 6), (0, u "java/lang/Object"), (0, u "<init>"), (0, u "()V"), (1, .class_ 10), (1, u "java/lang/Number"), (2, .class_ 14), (0, u "java/io/Serializable"), (0, u "serialVersionUID"), (0, u "J")] 20

def k10c0 : Code := { maxStack := 1, maxLocals := 1, code := jdk_18_method_1_code, exceptionTable := #[], attributes := #[] }
def k10m0 : Method := { name := "<init>", desc := "()V", sig := { parameters := [], returnType := none }, accessFlags := 1, code := some k10c0 }
/-- java/lang/Number -/
def k10 : Class := { plain "java/lang/Number" (some 0) with
  accessFlags := 1057
  interfaces := #[2]
  cf := some (fileOf pool10 8 #[] #[{ accessFlags := 1, nameIndex := 5, descriptorIndex := 6, attributes := #[] }] 1057 2 #[13] #[{ accessFlags := 26, nameIndex := 15, descriptorIndex := 16, attributes := #[] }])
  fields := #[{ name := "serialVersionUID", type := .long, accessFlags := 26, slot := 0, constantValue := 0 }]
  methods := #[k10m0]
  instanceTypes := #[]
  staticTypes := #[.long]
  resolved := Array.replicate 37 none
  statics := none }

def pool11 : Array CpInfo := pool [(1, .class_ 2), (0, u "java/lang/Integer"), (16, u "digits"), (0, u "[C"), (46, u "<init>"), (17, u "DigitOnes"), (0, u "[B"), (2, u "DigitTens"), (10, .nameAndType 67 101), (0, u "()V"), (85, u "valueOf"), (0, u "(I)Ljava/lang/Integer;"), (0, .class_ 190), (0, u "java/lang/Integer$IntegerCache"), (0, .fieldref 189 192), (0, .nameAndType 193 194), (0, u "high"), (0, u "I"), (0, .fieldref 189 196), (0, .nameAndType 197 198), (0, u "cache"), (0, u "[Ljava/lang/Integer;"), (0, .methodref 1 200), (0, .nameAndType 67 201), (0, u "(I)V"), (0, .methodref 203 100), (0, .class_ 204), (0, u "java/lang/Number"), (0, .fieldref 1 206), (0, .nameAndType 207 194), (0, u "value"), (94, u "TYPE"), (0, u "Ljava/lang/Class;"), (0, .class_ 305), (0, u "java/lang/Comparable"), (0, .class_ 307), (0, u "java/lang/constant/Constable"), (0, .class_ 309), (0, u "java/lang/constant/ConstantDesc"), (0, u "MIN_VALUE"), (1, u "MAX_VALUE"), (3, u "SIZE"), (1, u "BYTES"), (1, u "serialVersionUID"), (0, u "J")] 131

def k11c0 : Code := { maxStack := 3, maxLocals := 1, code := jdk_33_method_22_code, exceptionTable := #[], attributes := #[] }
def k11m0 : Method := { name := "valueOf", desc := "(I)Ljava/lang/Integer;", sig := { parameters := [.int], returnType := some (.object "java/lang/Integer") }, accessFlags := 9, code := some k11c0 }
def k11c1 : Code := { maxStack := 2, maxLocals := 2, code := jdk_33_method_23_code, exceptionTable := #[], attributes := #[] }
def k11m1 : Method := { name := "<init>", desc := "(I)V", sig := { parameters := [.int], returnType := none }, accessFlags := 1, code := some k11c1 }
/-- java/lang/Integer -/
def k11 : Class := { plain "java/lang/Integer" (some 10) with
  accessFlags := 49
  interfaces := #[3, 5, 6]
  cf := some (fileOf pool11 1 #[.nestMembers #[189]] #[{ accessFlags := 9, nameIndex := 187, descriptorIndex := 188, attributes := #[] }, { accessFlags := 1, nameIndex := 67, descriptorIndex := 201, attributes := #[] }] 49 203 #[304, 306, 308] #[{ accessFlags := 25, nameIndex := 310, descriptorIndex := 194, attributes := #[] }, { accessFlags := 25, nameIndex := 312, descriptorIndex := 194, attributes := #[] }, { accessFlags := 25, nameIndex := 302, descriptorIndex := 303, attributes := #[] }, { accessFlags := 24, nameIndex := 19, descriptorIndex := 20, attributes := #[] }, { accessFlags := 24, nameIndex := 89, descriptorIndex := 86, attributes := #[] }, { accessFlags := 24, nameIndex := 85, descriptorIndex := 86, attributes := #[] }, { accessFlags := 18, nameIndex := 207, descriptorIndex := 194, attributes := #[] }, { accessFlags := 25, nameIndex := 316, descriptorIndex := 194, attributes := #[] }, { accessFlags := 25, nameIndex := 318, descriptorIndex := 194, attributes := #[] }, { accessFlags := 26, nameIndex := 320, descriptorIndex := 321, attributes := #[] }])
  fields := #[{ name := "MIN_VALUE", type := .int, accessFlags := 25, slot := 0, constantValue := 0 }, { name := "MAX_VALUE", type := .int, accessFlags := 25, slot := 1, constantValue := 0 }, { name := "TYPE", type := (.object "java/lang/Class"), accessFlags := 25, slot := 2, constantValue := 0 }, { name := "digits", type := (.array .char), accessFlags := 24, slot := 3, constantValue := 0 }, { name := "DigitTens", type := (.array .byte), accessFlags := 24, slot := 4, constantValue := 0 }, { name := "DigitOnes", type := (.array .byte), accessFlags := 24, slot := 5, constantValue := 0 }, { name := "value", type := .int, accessFlags := 18, slot := 0, constantValue := 0 }, { name := "SIZE", type := .int, accessFlags := 25, slot := 6, constantValue := 0 }, { name := "BYTES", type := .int, accessFlags := 25, slot := 7, constantValue := 0 }, { name := "serialVersionUID", type := .long, accessFlags := 26, slot := 8, constantValue := 0 }]
  methods := #[k11m0, k11m1]
  instanceTypes := #[.int]
  staticTypes := #[.int, .int, (.object "java/lang/Class"), (.array .char), (.array .byte), (.array .byte), .int, .int, .long]
  resolved := Array.replicate 453 none
  statics := none }

def pool12 : Array CpInfo := pool [(2, .class_ 4), (1, u "java/lang/Object"), (0, u "<init>"), (0, u "()V"), (0, .class_ 8), (0, u "java/lang/Integer"), (7, .class_ 18), (1, u "java/lang/Integer$IntegerCache"), (0, u "$assertionsDisabled"), (0, u "Z"), (26, u "high"), (0, u "I"), (8, u "archivedCache"), (0, u "[Ljava/lang/Integer;"), (12, u "cache"), (0, u "low")] 27

def k12m0 : Method := { name := "<init>", desc := "()V", sig := { parameters := [], returnType := none }, accessFlags := 2, code := none }
/-- java/lang/Integer$IntegerCache -/
def k12 : Class := { plain "java/lang/Integer$IntegerCache" (some 0) with
  accessFlags := 48
  interfaces := #[]
  cf := some (fileOf pool12 16 #[.nestHost 7] #[{ accessFlags := 2, nameIndex := 5, descriptorIndex := 6, attributes := #[] }] 48 2 #[] #[{ accessFlags := 24, nameIndex := 72, descriptorIndex := 48, attributes := #[] }, { accessFlags := 24, nameIndex := 47, descriptorIndex := 48, attributes := #[] }, { accessFlags := 24, nameIndex := 71, descriptorIndex := 58, attributes := #[] }, { accessFlags := 8, nameIndex := 57, descriptorIndex := 58, attributes := #[] }, { accessFlags := 4120, nameIndex := 19, descriptorIndex := 20, attributes := #[] }])
  fields := #[{ name := "low", type := .int, accessFlags := 24, slot := 0, constantValue := 0 }, { name := "high", type := .int, accessFlags := 24, slot := 1, constantValue := 0 }, { name := "cache", type := (.array (.object "java/lang/Integer")), accessFlags := 24, slot := 2, constantValue := 0 }, { name := "archivedCache", type := (.array (.object "java/lang/Integer")), accessFlags := 8, slot := 3, constantValue := 0 }, { name := "$assertionsDisabled", type := .boolean, accessFlags := 4120, slot := 4, constantValue := 0 }]
  methods := #[k12m0]
  instanceTypes := #[]
  staticTypes := #[.int, .int, (.array (.object "java/lang/Integer")), (.array (.object "java/lang/Integer")), .boolean]
  resolved := Array.replicate 100 none
  statics := some 1 }

def pool13 : Array CpInfo := pool [(2, .class_ 4), (1, u "java/util/Map"), (31, .class_ 37), (0, u "java/util/Map$Entry"), (43, .fieldref 82 83), (0, .class_ 84), (0, .nameAndType 85 86), (0, u "java/util/ImmutableCollections"), (0, u "EMPTY_MAP"), (0, u "Ljava/util/ImmutableCollections$MapN;"), (6, .class_ 94), (0, u "java/lang/Object"), (6, .class_ 102), (0, u "java/util/ImmutableCollections$AbstractImmutableMap"), (5, u "of"), (0, u "()Ljava/util/Map;"), (140, u "copyOf"), (0, u "(Ljava/util/Map;)Ljava/util/Map;")] 11

def k13c0 : Code := { maxStack := 1, maxLocals := 0, code := jdk_72_method_26_code, exceptionTable := #[], attributes := #[] }
def k13m0 : Method := { name := "of", desc := "()Ljava/util/Map;", sig := { parameters := [], returnType := some (.object "java/util/Map") }, accessFlags := 9, code := some k13c0 }
def k13c1 : Code := { maxStack := 2, maxLocals := 1, code := jdk_72_method_39_code, exceptionTable := #[], attributes := #[] }
def k13m1 : Method := { name := "copyOf", desc := "(Ljava/util/Map;)Ljava/util/Map;", sig := { parameters := [(.object "java/util/Map")], returnType := some (.object "java/util/Map") }, accessFlags := 9, code := some k13c1 }
/-- java/util/Map -/
def k13 : Class := { plain "java/util/Map" (some 0) with
  accessFlags := 1537
  interfaces := #[]
  cf := some (fileOf pool13 2 #[.nestMembers #[36]] #[{ accessFlags := 9, nameIndex := 108, descriptorIndex := 109, attributes := #[] }, { accessFlags := 9, nameIndex := 250, descriptorIndex := 251, attributes := #[] }] 1537 93 #[] #[])
  fields := #[]
  methods := #[k13m0, k13m1]
  instanceTypes := #[]
  staticTypes := #[]
  resolved := Array.replicate 263 none
  statics := none }

def pool14 : Array CpInfo := pool [(2, .class_ 4), (1, u "java/lang/Object"), (0, u "<init>"), (0, u "()V"), (3, .class_ 11), (0, u "java/util/ImmutableCollections$List12"), (0, .class_ 13), (0, u "java/util/ImmutableCollections$ListN"), (3, u "Z"), (29, .class_ 49), (1, u "java/util/ImmutableCollections"), (0, u "$assertionsDisabled"), (5, u "[Ljava/lang/Object;"), (5, u "EMPTY_LIST"), (0, u "Ljava/util/ImmutableCollections$ListN;"), (8, u "EMPTY_LIST_NULLS"), (22, u "SALT32L"), (0, u "J"), (2, u "REVERSE"), (6, u "archivedObjects"), (2, u "EMPTY"), (0, u "Ljava/lang/Object;"), (0, .class_ 112), (0, u "java/util/ImmutableCollections$SetN"), (5, u "EMPTY_SET"), (0, u "Ljava/util/ImmutableCollections$SetN;"), (0, .class_ 121), (0, u "java/util/ImmutableCollections$MapN"), (3, u "EMPTY_MAP"), (0, u "Ljava/util/ImmutableCollections$MapN;"), (4, u "EXPAND_FACTOR"), (0, u "I"), (36, .class_ 170), (0, u "java/util/ImmutableCollections$MapN$MapNIterator"), (0, .class_ 172), (0, u "java/util/ImmutableCollections$MapN$1"), (0, .class_ 174), (0, u "java/util/ImmutableCollections$Map1"), (0, .class_ 176), (0, u "java/util/ImmutableCollections$AbstractImmutableMap"), (0, .class_ 178), (0, u "java/util/ImmutableCollections$SetN$SetNIterator"), (0, .class_ 180), (0, u "java/util/ImmutableCollections$Set12"), (0, .class_ 182), (0, u "java/util/ImmutableCollections$Set12$1"), (0, .class_ 184), (0, u "java/util/ImmutableCollections$AbstractImmutableSet"), (0, .class_ 186), (0, u "java/util/ImmutableCollections$SubList"), (0, .class_ 188), (0, u "java/util/ImmutableCollections$ListItr"), (0, .class_ 190), (0, u "java/util/ImmutableCollections$AbstractImmutableList"), (0, .class_ 192), (0, u "java/util/ImmutableCollections$AbstractImmutableCollection"), (0, .class_ 194), (0, u "java/util/ImmutableCollections$Access"), (0, .class_ 196), (0, u "java/util/ImmutableCollections$Access$1")] 16

def k14m0 : Method := { name := "<init>", desc := "()V", sig := { parameters := [], returnType := none }, accessFlags := 2, code := none }
/-- java/util/ImmutableCollections -/
def k14 : Class := { plain "java/util/ImmutableCollections" (some 0) with
  accessFlags := 32
  interfaces := #[]
  cf := some (fileOf pool14 47 #[.nestMembers #[120, 169, 171, 173, 175, 111, 177, 179, 181, 183, 12, 10, 185, 187, 189, 191, 193, 195]] #[{ accessFlags := 2, nameIndex := 5, descriptorIndex := 6, attributes := #[] }] 32 2 #[] #[{ accessFlags := 26, nameIndex := 95, descriptorIndex := 96, attributes := #[] }, { accessFlags := 26, nameIndex := 99, descriptorIndex := 17, attributes := #[] }, { accessFlags := 10, nameIndex := 106, descriptorIndex := 56, attributes := #[] }, { accessFlags := 26, nameIndex := 109, descriptorIndex := 110, attributes := #[] }, { accessFlags := 24, nameIndex := 62, descriptorIndex := 63, attributes := #[] }, { accessFlags := 24, nameIndex := 72, descriptorIndex := 63, attributes := #[] }, { accessFlags := 24, nameIndex := 118, descriptorIndex := 119, attributes := #[] }, { accessFlags := 24, nameIndex := 125, descriptorIndex := 126, attributes := #[] }, { accessFlags := 24, nameIndex := 131, descriptorIndex := 132, attributes := #[] }, { accessFlags := 4120, nameIndex := 50, descriptorIndex := 17, attributes := #[] }])
  fields := #[{ name := "SALT32L", type := .long, accessFlags := 26, slot := 0, constantValue := 0 }, { name := "REVERSE", type := .boolean, accessFlags := 26, slot := 1, constantValue := 0 }, { name := "archivedObjects", type := (.array (.object "java/lang/Object")), accessFlags := 10, slot := 2, constantValue := 0 }, { name := "EMPTY", type := (.object "java/lang/Object"), accessFlags := 26, slot := 3, constantValue := 0 }, { name := "EMPTY_LIST", type := (.object "java/util/ImmutableCollections$ListN"), accessFlags := 24, slot := 4, constantValue := 0 }, { name := "EMPTY_LIST_NULLS", type := (.object "java/util/ImmutableCollections$ListN"), accessFlags := 24, slot := 5, constantValue := 0 }, { name := "EMPTY_SET", type := (.object "java/util/ImmutableCollections$SetN"), accessFlags := 24, slot := 6, constantValue := 0 }, { name := "EMPTY_MAP", type := (.object "java/util/ImmutableCollections$MapN"), accessFlags := 24, slot := 7, constantValue := 0 }, { name := "EXPAND_FACTOR", type := .int, accessFlags := 24, slot := 8, constantValue := 0 }, { name := "$assertionsDisabled", type := .boolean, accessFlags := 4120, slot := 9, constantValue := 0 }]
  methods := #[k14m0]
  instanceTypes := #[]
  staticTypes := #[.long, .boolean, (.array (.object "java/lang/Object")), (.object "java/lang/Object"), (.object "java/util/ImmutableCollections$ListN"), (.object "java/util/ImmutableCollections$ListN"), (.object "java/util/ImmutableCollections$SetN"), (.object "java/util/ImmutableCollections$MapN"), .int, .boolean]
  resolved := Array.replicate 213 none
  statics := some 2 }

def pool15 : Array CpInfo := pool [(2, .class_ 4), (1, u "java/lang/Object"), (0, u "<init>"), (0, u "()V"), (1, .class_ 10), (1, u "java/util/AbstractMap"), (42, .class_ 54), (0, u "java/util/Map"), (9, u "keySet"), (0, u "Ljava/util/Set;"), (0, .class_ 67), (0, u "java/util/AbstractMap$1"), (5, u "values"), (0, u "Ljava/util/Collection;"), (0, .class_ 76), (0, u "java/util/AbstractMap$2"), (104, .class_ 182), (0, u "java/util/AbstractMap$ViewCollection"), (0, .class_ 184), (0, u "java/util/AbstractMap$SimpleImmutableEntry"), (0, .class_ 186), (0, u "java/util/AbstractMap$SimpleEntry"), (0, .class_ 188), (0, u "java/util/AbstractMap$2$1"), (0, .class_ 190), (0, u "java/util/AbstractMap$1$1")] 5

def k15m0 : Method := { name := "<init>", desc := "()V", sig := { parameters := [], returnType := none }, accessFlags := 4, code := none }
/-- java/util/AbstractMap -/
def k15 : Class := { plain "java/util/AbstractMap" (some 0) with
  accessFlags := 1057
  interfaces := #[13]
  cf := some (fileOf pool15 8 #[.nestMembers #[181, 183, 185, 75, 187, 66, 189]] #[{ accessFlags := 4, nameIndex := 5, descriptorIndex := 6, attributes := #[] }] 1057 2 #[53] #[{ accessFlags := 128, nameIndex := 64, descriptorIndex := 65, attributes := #[] }, { accessFlags := 128, nameIndex := 73, descriptorIndex := 74, attributes := #[] }])
  fields := #[{ name := "keySet", type := (.object "java/util/Set"), accessFlags := 128, slot := 0, constantValue := 0 }, { name := "values", type := (.object "java/util/Collection"), accessFlags := 128, slot := 1, constantValue := 0 }]
  methods := #[k15m0]
  instanceTypes := #[(.object "java/util/Set"), (.object "java/util/Collection")]
  staticTypes := #[]
  resolved := Array.replicate 196 none
  statics := none }

def pool16 : Array CpInfo := pool [(2, .class_ 4), (1, u "java/util/AbstractMap"), (0, u "<init>"), (0, u "()V"), (1, .class_ 10), (1, u "java/util/ImmutableCollections"), (3, .class_ 16), (1, u "java/util/ImmutableCollections$AbstractImmutableMap"), (2, .class_ 20), (0, u "java/io/Serializable")] 66

def k16m0 : Method := { name := "<init>", desc := "()V", sig := { parameters := [], returnType := none }, accessFlags := 0, code := none }
/-- java/util/ImmutableCollections$AbstractImmutableMap -/
def k16 : Class := { plain "java/util/ImmutableCollections$AbstractImmutableMap" (some 15) with
  accessFlags := 1056
  interfaces := #[2]
  cf := some (fileOf pool16 14 #[.nestHost 8] #[{ accessFlags := 0, nameIndex := 5, descriptorIndex := 6, attributes := #[] }] 1056 2 #[19] #[])
  fields := #[]
  methods := #[k16m0]
  instanceTypes := #[(.object "java/util/Set"), (.object "java/util/Collection")]
  staticTypes := #[]
  resolved := Array.replicate 87 none
  statics := none }

def pool17 : Array CpInfo := pool [(1, .class_ 2), (0, u "java/util/ImmutableCollections"), (1, .class_ 6), (1, u "java/util/ImmutableCollections$AbstractImmutableMap"), (10, .class_ 19), (1, u "java/util/ImmutableCollections$MapN"), (0, u "size"), (0, u "I"), (4, u "table"), (0, u "[Ljava/lang/Object;")] 121

/-- java/util/ImmutableCollections$MapN -/
def k17 : Class := { plain "java/util/ImmutableCollections$MapN" (some 16) with
  accessFlags := 48
  interfaces := #[]
  cf := some (fileOf pool17 17 #[.nestHost 1] #[] 48 4 #[] #[{ accessFlags := 16, nameIndex := 26, descriptorIndex := 27, attributes := #[] }, { accessFlags := 16, nameIndex := 20, descriptorIndex := 21, attributes := #[] }])
  fields := #[{ name := "table", type := (.array (.object "java/lang/Object")), accessFlags := 16, slot := 2, constantValue := 0 }, { name := "size", type := .int, accessFlags := 16, slot := 3, constantValue := 0 }]
  methods := #[]
  instanceTypes := #[(.object "java/util/Set"), (.object "java/util/Collection"), (.array (.object "java/lang/Object")), .int]
  staticTypes := #[]
  resolved := Array.replicate 149 none
  statics := none }

def pool18 : Array CpInfo := pool [(1, .class_ 2), (0, u "java/lang/Appendable"), (0, .class_ 4), (0, u "java/lang/Object")] 9

/-- java/lang/Appendable -/
def k18 : Class := { plain "java/lang/Appendable" (some 0) with
  accessFlags := 1537
  interfaces := #[]
  cf := some (fileOf pool18 1 #[] #[] 1537 3 #[] #[])
  fields := #[]
  methods := #[]
  instanceTypes := #[]
  staticTypes := #[]
  resolved := Array.replicate 14 none
  statics := none }

def pool19 : Array CpInfo := pool [(1, .class_ 2), (0, u "java/lang/String"), (0, .methodref 4 5), (0, .class_ 6), (0, .nameAndType 7 8), (0, u "java/lang/Object"), (0, u "<init>"), (0, u "()V"), (1, .class_ 12), (1, u "java/lang/AbstractStringBuilder"), (0, u "EMPTYVALUE"), (0, u "[B"), (0, .fieldref 10 16), (0, .nameAndType 17 14), (0, u "value"), (0, .fieldref 1 19), (0, .nameAndType 20 21), (0, u "COMPACT_STRINGS"), (0, u "Z"), (0, .fieldref 10 23), (0, .nameAndType 24 25), (0, u "coder"), (0, u "B"), (6, .methodref 1 33), (0, .nameAndType 34 35), (0, u "length"), (0, u "()I"), (4, .methodref 1 41), (0, .nameAndType 24 42), (0, u "()B"), (2, u "append"), (0, u "(Ljava/lang/String;)Ljava/lang/AbstractStringBuilder;"), (1, .class_ 49), (0, u "java/lang/CharSequence"), (19, u "(Ljava/lang/String;)V"), (5, u "maybeLatin1"), (3, .fieldref 10 80), (0, .nameAndType 81 82), (0, u "count"), (0, u "I"), (2, u "isLatin1"), (0, u "()Z"), (13, .methodref 10 101), (0, .nameAndType 102 103), (0, u "ensureCapacityInternal"), (0, u "(I)V"), (104, .methodref 10 209), (0, .nameAndType 210 211), (0, u "putStringAt"), (0, u "(ILjava/lang/String;)V"), (5, u "inflateIfNeededFor"), (2, .nameAndType 221 222), (0, u "getBytes"), (0, u "([BIB)V"), (174, .methodref 10 398), (0, .nameAndType 217 69), (0, .methodref 1 220), (3, u "()[B"), (40, .class_ 445), (0, u "java/lang/Appendable"), (106, u "getValue")] 56

def k19m0 : Method := { name := "<init>", desc := "()V", sig := { parameters := [], returnType := none }, accessFlags := 0, code := none }
def k19c1 : Code := { maxStack := 2, maxLocals := 2, code := jdk_68_method_2_code, exceptionTable := #[], attributes := #[] }
def k19m1 : Method := { name := "<init>", desc := "(I)V", sig := { parameters := [.int], returnType := none }, accessFlags := 0, code := some k19c1 }
def k19c2 : Code := { maxStack := 1, maxLocals := 1, code := jdk_68_method_6_code, exceptionTable := #[], attributes := #[] }
def k19m2 : Method := { name := "length", desc := "()I", sig := { parameters := [], returnType := some .int }, accessFlags := 1, code := some k19c2 }
def k19c3 : Code := { maxStack := 4, maxLocals := 3, code := jdk_68_method_9_code, exceptionTable := #[], attributes := #[] }
def k19m3 : Method := { name := "ensureCapacityInternal", desc := "(I)V", sig := { parameters := [.int], returnType := none }, accessFlags := 2, code := some k19c3 }
def k19c4 : Code := { maxStack := 3, maxLocals := 3, code := jdk_68_method_22_code, exceptionTable := #[], attributes := #[] }
def k19m4 : Method := { name := "append", desc := "(Ljava/lang/String;)Ljava/lang/AbstractStringBuilder;", sig := { parameters := [(.object "java/lang/String")], returnType := some (.object "java/lang/AbstractStringBuilder") }, accessFlags := 1, code := some k19c4 }
def k19c5 : Code := { maxStack := 1, maxLocals := 1, code := jdk_68_method_64_code, exceptionTable := #[], attributes := #[] }
def k19m5 : Method := { name := "getValue", desc := "()[B", sig := { parameters := [], returnType := some (.array .byte) }, accessFlags := 16, code := some k19c5 }
def k19c6 : Code := { maxStack := 1, maxLocals := 1, code := jdk_68_method_68_code, exceptionTable := #[], attributes := #[] }
def k19m6 : Method := { name := "isLatin1", desc := "()Z", sig := { parameters := [], returnType := some .boolean }, accessFlags := 16, code := some k19c6 }
def k19c7 : Code := { maxStack := 2, maxLocals := 2, code := jdk_68_method_71_code, exceptionTable := #[], attributes := #[] }
def k19m7 : Method := { name := "inflateIfNeededFor", desc := "(Ljava/lang/String;)V", sig := { parameters := [(.object "java/lang/String")], returnType := none }, accessFlags := 2, code := some k19c7 }
def k19c8 : Code := { maxStack := 4, maxLocals := 3, code := jdk_68_method_73_code, exceptionTable := #[], attributes := #[] }
def k19m8 : Method := { name := "putStringAt", desc := "(ILjava/lang/String;)V", sig := { parameters := [.int, (.object "java/lang/String")], returnType := none }, accessFlags := 2, code := some k19c8 }
/-- java/lang/AbstractStringBuilder -/
def k19 : Class := { plain "java/lang/AbstractStringBuilder" (some 0) with
  accessFlags := 1056
  interfaces := #[18, 4]
  cf := some (fileOf pool19 10 #[] #[{ accessFlags := 0, nameIndex := 7, descriptorIndex := 8, attributes := #[] }, { accessFlags := 0, nameIndex := 7, descriptorIndex := 103, attributes := #[] }, { accessFlags := 1, nameIndex := 34, descriptorIndex := 35, attributes := #[] }, { accessFlags := 2, nameIndex := 102, descriptorIndex := 103, attributes := #[] }, { accessFlags := 1, nameIndex := 45, descriptorIndex := 46, attributes := #[] }, { accessFlags := 16, nameIndex := 552, descriptorIndex := 403, attributes := #[] }, { accessFlags := 16, nameIndex := 85, descriptorIndex := 86, attributes := #[] }, { accessFlags := 2, nameIndex := 217, descriptorIndex := 69, attributes := #[] }, { accessFlags := 2, nameIndex := 210, descriptorIndex := 211, attributes := #[] }] 1056 4 #[444, 48] #[{ accessFlags := 0, nameIndex := 17, descriptorIndex := 14, attributes := #[] }, { accessFlags := 0, nameIndex := 24, descriptorIndex := 25, attributes := #[] }, { accessFlags := 0, nameIndex := 75, descriptorIndex := 21, attributes := #[] }, { accessFlags := 0, nameIndex := 81, descriptorIndex := 82, attributes := #[] }, { accessFlags := 26, nameIndex := 13, descriptorIndex := 14, attributes := #[] }])
  fields := #[{ name := "value", type := (.array .byte), accessFlags := 0, slot := 0, constantValue := 0 }, { name := "coder", type := .byte, accessFlags := 0, slot := 1, constantValue := 0 }, { name := "maybeLatin1", type := .boolean, accessFlags := 0, slot := 2, constantValue := 0 }, { name := "count", type := .int, accessFlags := 0, slot := 3, constantValue := 0 }, { name := "EMPTYVALUE", type := (.array .byte), accessFlags := 26, slot := 0, constantValue := 0 }]
  methods := #[k19m0, k19m1, k19m2, k19m3, k19m4, k19m5, k19m6, k19m7, k19m8]
  instanceTypes := #[(.array .byte), .byte, .boolean, .int]
  staticTypes := #[(.array .byte)]
  resolved := Array.replicate 609 none
  statics := none }

def pool20 : Array CpInfo := pool [(1, .methodref 2 3), (0, .class_ 4), (0, .nameAndType 5 6), (0, u "java/lang/AbstractStringBuilder"), (0, u "<init>"), (0, u "(I)V"), (11, .class_ 20), (1, u "java/lang/String"), (3, .class_ 26), (1, u "java/lang/StringBuilder"), (0, u "append"), (0, u "(Ljava/lang/String;)Ljava/lang/StringBuilder;"), (0, .methodref 2 30), (0, .nameAndType 27 31), (0, u "(Ljava/lang/String;)Ljava/lang/AbstractStringBuilder;"), (105, .methodref 18 138), (0, .nameAndType 5 139), (0, u "(Ljava/lang/StringBuilder;)V"), (5, u "()V"), (10, u "()I"), (186, .methodref 2 344), (0, .nameAndType 345 156), (0, u "length"), (3, .class_ 350), (0, u "java/lang/Appendable"), (0, .class_ 352), (0, u "java/io/Serializable"), (0, .class_ 354), (0, u "java/lang/Comparable"), (0, .class_ 356), (0, u "java/lang/CharSequence"), (0, u "serialVersionUID"), (0, u "J"), (40, u "toString"), (0, u "()Ljava/lang/String;")] 21

def k20c0 : Code := { maxStack := 2, maxLocals := 1, code := jdk_67_method_1_code, exceptionTable := #[], attributes := #[] }
def k20m0 : Method := { name := "<init>", desc := "()V", sig := { parameters := [], returnType := none }, accessFlags := 1, code := some k20c0 }
def k20c1 : Code := { maxStack := 2, maxLocals := 2, code := jdk_67_method_7_code, exceptionTable := #[], attributes := #[] }
def k20m1 : Method := { name := "append", desc := "(Ljava/lang/String;)Ljava/lang/StringBuilder;", sig := { parameters := [(.object "java/lang/String")], returnType := some (.object "java/lang/StringBuilder") }, accessFlags := 1, code := some k20c1 }
def k20c2 : Code := { maxStack := 3, maxLocals := 1, code := jdk_67_method_42_code, exceptionTable := #[], attributes := #[] }
def k20m2 : Method := { name := "toString", desc := "()Ljava/lang/String;", sig := { parameters := [], returnType := some (.object "java/lang/String") }, accessFlags := 1, code := some k20c2 }
def k20c3 : Code := { maxStack := 1, maxLocals := 1, code := jdk_67_method_93_code, exceptionTable := #[], attributes := #[] }
def k20m3 : Method := { name := "length", desc := "()I", sig := { parameters := [], returnType := some .int }, accessFlags := 4161, code := some k20c3 }
/-- java/lang/StringBuilder -/
def k20 : Class := { plain "java/lang/StringBuilder" (some 19) with
  accessFlags := 49
  interfaces := #[18, 2, 3, 4]
  cf := some (fileOf pool20 24 #[] #[{ accessFlags := 1, nameIndex := 5, descriptorIndex := 145, attributes := #[] }, { accessFlags := 1, nameIndex := 27, descriptorIndex := 28, attributes := #[] }, { accessFlags := 1, nameIndex := 399, descriptorIndex := 400, attributes := #[] }, { accessFlags := 4161, nameIndex := 345, descriptorIndex := 156, attributes := #[] }] 49 2 #[349, 351, 353, 355] #[{ accessFlags := 24, nameIndex := 357, descriptorIndex := 358, attributes := #[] }])
  fields := #[{ name := "serialVersionUID", type := .long, accessFlags := 24, slot := 0, constantValue := 0 }]
  methods := #[k20m0, k20m1, k20m2, k20m3]
  instanceTypes := #[(.array .byte), .byte, .boolean, .int]
  staticTypes := #[.long]
  resolved := Array.replicate 422 none
  statics := none }

def pool21 : Array CpInfo := pool [(2, .class_ 4), (1, u "java/lang/Object"), (0, u "<init>"), (0, u "()V"), (1, .class_ 10), (1, u "java/lang/System"), (0, u "allowSecurityManager"), (0, u "I"), (16, u "cons"), (0, u "Ljava/io/Console;"), (77, .class_ 110), (1, u "java/lang/System$CallersHolder"), (43, u "initialErrStream"), (0, u "Ljava/io/PrintStream;"), (19, u "security"), (0, u "Ljava/lang/SecurityManager;"), (31, .class_ 209), (0, u "java/lang/System$1"), (7, u "props"), (0, u "Ljava/util/Properties;"), (2, u "lineSeparator"), (0, u "Ljava/lang/String;"), (96, .class_ 321), (1, u "java/lang/System$LoggerFinder"), (5, .class_ 328), (0, u "java/lang/System$Logger"), (67, u "err"), (2, u "out"), (91, u "notSupportedJnuEncoding"), (15, u "in"), (17, u "initialIn"), (0, u "Ljava/io/InputStream;"), (35, u "bootLayer"), (0, u "Ljava/lang/ModuleLayer;"), (99, .class_ 664), (0, u "java/lang/System$2"), (9, u "NEVER"), (2, u "MAYBE"), (49, u "arraycopy"), (0, u "(Ljava/lang/Object;ILjava/lang/Object;II)V"), (72, .class_ 802), (0, u "java/lang/System$Logger$Level")] 31

def k21m0 : Method := { name := "<init>", desc := "()V", sig := { parameters := [], returnType := none }, accessFlags := 2, code := none }
def k21m1 : Method := { name := "arraycopy", desc := "(Ljava/lang/Object;ILjava/lang/Object;II)V", sig := { parameters := [(.object "java/lang/Object"), .int, (.object "java/lang/Object"), .int, .int], returnType := none }, accessFlags := 265, code := none }
/-- java/lang/System -/
def k21 : Class := { plain "java/lang/System" (some 0) with
  accessFlags := 49
  interfaces := #[]
  cf := some (fileOf pool21 8 #[.nestMembers #[319, 327, 801, 108, 663, 208]] #[{ accessFlags := 2, nameIndex := 5, descriptorIndex := 6, attributes := #[] }, { accessFlags := 265, nameIndex := 727, descriptorIndex := 728, attributes := #[] }] 49 2 #[] #[{ accessFlags := 25, nameIndex := 507, descriptorIndex := 526, attributes := #[] }, { accessFlags := 25, nameIndex := 399, descriptorIndex := 155, attributes := #[] }, { accessFlags := 25, nameIndex := 396, descriptorIndex := 155, attributes := #[] }, { accessFlags := 10, nameIndex := 525, descriptorIndex := 526, attributes := #[] }, { accessFlags := 26, nameIndex := 674, descriptorIndex := 12, attributes := #[] }, { accessFlags := 26, nameIndex := 677, descriptorIndex := 12, attributes := #[] }, { accessFlags := 10, nameIndex := 11, descriptorIndex := 12, attributes := #[] }, { accessFlags := 74, nameIndex := 175, descriptorIndex := 176, attributes := #[] }, { accessFlags := 10, nameIndex := 491, descriptorIndex := 222, attributes := #[] }, { accessFlags := 74, nameIndex := 29, descriptorIndex := 30, attributes := #[] }, { accessFlags := 74, nameIndex := 154, descriptorIndex := 155, attributes := #[] }, { accessFlags := 10, nameIndex := 217, descriptorIndex := 218, attributes := #[] }, { accessFlags := 10, nameIndex := 221, descriptorIndex := 222, attributes := #[] }, { accessFlags := 8, nameIndex := 562, descriptorIndex := 563, attributes := #[] }])
  fields := #[{ name := "in", type := (.object "java/io/InputStream"), accessFlags := 25, slot := 0, constantValue := 0 }, { name := "out", type := (.object "java/io/PrintStream"), accessFlags := 25, slot := 1, constantValue := 0 }, { name := "err", type := (.object "java/io/PrintStream"), accessFlags := 25, slot := 2, constantValue := 0 }, { name := "initialIn", type := (.object "java/io/InputStream"), accessFlags := 10, slot := 3, constantValue := 0 }, { name := "NEVER", type := .int, accessFlags := 26, slot := 4, constantValue := 0 }, { name := "MAYBE", type := .int, accessFlags := 26, slot := 5, constantValue := 0 }, { name := "allowSecurityManager", type := .int, accessFlags := 10, slot := 6, constantValue := 0 }, { name := "security", type := (.object "java/lang/SecurityManager"), accessFlags := 74, slot := 7, constantValue := 0 }, { name := "notSupportedJnuEncoding", type := (.object "java/lang/String"), accessFlags := 10, slot := 8, constantValue := 0 }, { name := "cons", type := (.object "java/io/Console"), accessFlags := 74, slot := 9, constantValue := 0 }, { name := "initialErrStream", type := (.object "java/io/PrintStream"), accessFlags := 74, slot := 10, constantValue := 0 }, { name := "props", type := (.object "java/util/Properties"), accessFlags := 10, slot := 11, constantValue := 0 }, { name := "lineSeparator", type := (.object "java/lang/String"), accessFlags := 10, slot := 12, constantValue := 0 }, { name := "bootLayer", type := (.object "java/lang/ModuleLayer"), accessFlags := 8, slot := 13, constantValue := 0 }]
  methods := #[k21m0, k21m1]
  instanceTypes := #[]
  staticTypes := #[(.object "java/io/InputStream"), (.object "java/io/PrintStream"), (.object "java/io/PrintStream"), (.object "java/io/InputStream"), .int, .int, .int, (.object "java/lang/SecurityManager"), (.object "java/lang/String"), (.object "java/io/Console"), (.object "java/io/PrintStream"), (.object "java/util/Properties"), (.object "java/lang/String"), (.object "java/lang/ModuleLayer")]
  resolved := Array.replicate 834 none
  statics := none }

def pool22 : Array CpInfo := pool [(2, .class_ 4), (1, u "java/lang/Object"), (0, u "<init>"), (0, u "()V"), (7, .class_ 16), (1, u "java/util/Arrays"), (57, .class_ 76), (1, u "java/util/Arrays$NaturalOrder"), (36, .class_ 115), (1, u "java/util/Arrays$LegacyMergeSort"), (1, u "Z"), (21, u "copyOfRange"), (10, .methodref 151 152), (0, .class_ 153), (0, .nameAndType 154 155), (0, u "java/lang/System"), (0, u "arraycopy"), (0, u "(Ljava/lang/Object;ILjava/lang/Object;II)V"), (148, .methodref 305 306), (0, .class_ 307), (0, .nameAndType 308 309), (0, u "java/lang/Math"), (0, u "min"), (0, u "(II)I"), (29, .methodref 14 340), (0, .nameAndType 341 342), (0, u "copyOfRangeByte"), (0, u "([BII)[B"), (0, .methodref 14 344), (0, .nameAndType 345 346), (0, u "checkLength"), (0, u "(II)V"), (28, .class_ 376), (0, u "java/util/Arrays$ArrayList"), (68, u "$assertionsDisabled"), (269, u "MIN_ARRAY_SORT_GRAN"), (0, u "I"), (2, u "INSERTIONSORT_THRESHOLD"), (255, .class_ 976), (0, u "java/util/Arrays$ArrayItr")] 52

def k22m0 : Method := { name := "<init>", desc := "()V", sig := { parameters := [], returnType := none }, accessFlags := 2, code := none }
def k22c1 : Code := { maxStack := 4, maxLocals := 2, code := jdk_65_method_131_code, exceptionTable := #[], attributes := #[] }
def k22m1 : Method := { name := "checkLength", desc := "(II)V", sig := { parameters := [.int, .int], returnType := none }, accessFlags := 10, code := some k22c1 }
def k22c2 : Code := { maxStack := 3, maxLocals := 3, code := jdk_65_method_132_code, exceptionTable := #[], attributes := #[] }
def k22m2 : Method := { name := "copyOfRange", desc := "([BII)[B", sig := { parameters := [(.array .byte), .int, .int], returnType := some (.array .byte) }, accessFlags := 9, code := some k22c2 }
def k22c3 : Code := { maxStack := 6, maxLocals := 5, code := jdk_65_method_133_code, exceptionTable := #[], attributes := #[] }
def k22m3 : Method := { name := "copyOfRangeByte", desc := "([BII)[B", sig := { parameters := [(.array .byte), .int, .int], returnType := some (.array .byte) }, accessFlags := 10, code := some k22c3 }
/-- java/util/Arrays -/
def k22 : Class := { plain "java/util/Arrays" (some 0) with
  accessFlags := 49
  interfaces := #[]
  cf := some (fileOf pool22 14 #[.nestMembers #[975, 375, 113, 74]] #[{ accessFlags := 2, nameIndex := 5, descriptorIndex := 6, attributes := #[] }, { accessFlags := 10, nameIndex := 345, descriptorIndex := 346, attributes := #[] }, { accessFlags := 9, nameIndex := 139, descriptorIndex := 342, attributes := #[] }, { accessFlags := 10, nameIndex := 341, descriptorIndex := 342, attributes := #[] }] 49 2 #[] #[{ accessFlags := 26, nameIndex := 715, descriptorIndex := 716, attributes := #[] }, { accessFlags := 26, nameIndex := 719, descriptorIndex := 716, attributes := #[] }, { accessFlags := 4120, nameIndex := 445, descriptorIndex := 117, attributes := #[] }])
  fields := #[{ name := "MIN_ARRAY_SORT_GRAN", type := .int, accessFlags := 26, slot := 0, constantValue := 0 }, { name := "INSERTIONSORT_THRESHOLD", type := .int, accessFlags := 26, slot := 1, constantValue := 0 }, { name := "$assertionsDisabled", type := .boolean, accessFlags := 4120, slot := 2, constantValue := 0 }]
  methods := #[k22m0, k22m1, k22m2, k22m3]
  instanceTypes := #[]
  staticTypes := #[.int, .int, .boolean]
  resolved := Array.replicate 1029 none
  statics := none }

def pool23 : Array CpInfo := pool [(1, .class_ 2), (0, u "java/lang/Math"), (1, .class_ 6), (1, u "java/lang/Object"), (0, u "<init>"), (0, u "()V"), (89, .class_ 100), (1, u "java/lang/Math$RandomNumberGeneratorHolder"), (71, u "negativeZeroFloatBits"), (0, u "J"), (2, u "negativeZeroDoubleBits"), (24, u "min"), (43, u "$assertionsDisabled"), (0, u "Z"), (88, u "(II)I"), (2, u "twoToTheDoubleScaleDown"), (0, u "D"), (4, u "twoToTheDoubleScaleUp"), (9, u "E"), (3, u "PI"), (2, u "TAU"), (2, u "DEGREES_TO_RADIANS"), (0, u "RADIANS_TO_DEGREES")] 94

def k23m0 : Method := { name := "<init>", desc := "()V", sig := { parameters := [], returnType := none }, accessFlags := 2, code := none }
def k23c1 : Code := { maxStack := 2, maxLocals := 2, code := jdk_29_method_69_code, exceptionTable := #[], attributes := #[] }
def k23m1 : Method := { name := "min", desc := "(II)I", sig := { parameters := [.int, .int], returnType := some .int }, accessFlags := 9, code := some k23c1 }
/-- java/lang/Math -/
def k23 : Class := { plain "java/lang/Math" (some 0) with
  accessFlags := 49
  interfaces := #[]
  cf := some (fileOf pool23 1 #[.nestMembers #[98]] #[{ accessFlags := 2, nameIndex := 7, descriptorIndex := 8, attributes := #[] }, { accessFlags := 9, nameIndex := 201, descriptorIndex := 335, attributes := #[] }] 49 4 #[] #[{ accessFlags := 25, nameIndex := 354, descriptorIndex := 339, attributes := #[] }, { accessFlags := 25, nameIndex := 358, descriptorIndex := 339, attributes := #[] }, { accessFlags := 25, nameIndex := 361, descriptorIndex := 339, attributes := #[] }, { accessFlags := 26, nameIndex := 364, descriptorIndex := 339, attributes := #[] }, { accessFlags := 26, nameIndex := 365, descriptorIndex := 339, attributes := #[] }, { accessFlags := 26, nameIndex := 172, descriptorIndex := 173, attributes := #[] }, { accessFlags := 26, nameIndex := 176, descriptorIndex := 173, attributes := #[] }, { accessFlags := 8, nameIndex := 344, descriptorIndex := 339, attributes := #[] }, { accessFlags := 8, nameIndex := 338, descriptorIndex := 339, attributes := #[] }, { accessFlags := 4120, nameIndex := 245, descriptorIndex := 246, attributes := #[] }])
  fields := #[{ name := "E", type := .double, accessFlags := 25, slot := 0, constantValue := 0 }, { name := "PI", type := .double, accessFlags := 25, slot := 1, constantValue := 0 }, { name := "TAU", type := .double, accessFlags := 25, slot := 2, constantValue := 0 }, { name := "DEGREES_TO_RADIANS", type := .double, accessFlags := 26, slot := 3, constantValue := 0 }, { name := "RADIANS_TO_DEGREES", type := .double, accessFlags := 26, slot := 4, constantValue := 0 }, { name := "negativeZeroFloatBits", type := .long, accessFlags := 26, slot := 5, constantValue := 0 }, { name := "negativeZeroDoubleBits", type := .long, accessFlags := 26, slot := 6, constantValue := 0 }, { name := "twoToTheDoubleScaleUp", type := .double, accessFlags := 8, slot := 7, constantValue := 0 }, { name := "twoToTheDoubleScaleDown", type := .double, accessFlags := 8, slot := 8, constantValue := 0 }, { name := "$assertionsDisabled", type := .boolean, accessFlags := 4120, slot := 9, constantValue := 0 }]
  methods := #[k23m0, k23m1]
  instanceTypes := #[]
  staticTypes := #[.double, .double, .double, .double, .double, .long, .long, .double, .double, .boolean]
  resolved := Array.replicate 460 none
  statics := none }

def pool24 : Array CpInfo := pool [(2, .class_ 4), (1, u "java/lang/Object"), (0, u "<init>"), (0, u "()V"), (17, .class_ 26), (1, u "jdk/internal/util/Preconditions"), (6, u "checkIndex"), (21, .class_ 56), (0, u "jdk/internal/util/Preconditions$4"), (57, .class_ 115), (0, u "jdk/internal/util/Preconditions$1"), (7, u "SIOOBE_FORMATTER"), (0, u "Ljava/util/function/BiFunction;"), (0, .class_ 126), (0, u "jdk/internal/util/Preconditions$2"), (3, u "AIOOBE_FORMATTER"), (0, .class_ 132), (0, u "jdk/internal/util/Preconditions$3"), (3, u "IOOBE_FORMATTER"), (41, u "(IILjava/util/function/BiFunction;)I")] 15

def k24m0 : Method := { name := "<init>", desc := "()V", sig := { parameters := [], returnType := none }, accessFlags := 1, code := none }
def k24c1 : Code := { maxStack := 3, maxLocals := 3, code := jdk_41_method_11_code, exceptionTable := #[], attributes := #[] }
def k24m1 : Method := { name := "checkIndex", desc := "(IILjava/util/function/BiFunction;)I", sig := { parameters := [.int, .int, (.object "java/util/function/BiFunction")], returnType := some .int }, accessFlags := 9, code := some k24c1 }
/-- jdk/internal/util/Preconditions -/
def k24 : Class := { plain "jdk/internal/util/Preconditions" (some 0) with
  accessFlags := 33
  interfaces := #[]
  cf := some (fileOf pool24 24 #[.nestMembers #[55, 131, 125, 114]] #[{ accessFlags := 1, nameIndex := 5, descriptorIndex := 6, attributes := #[] }, { accessFlags := 9, nameIndex := 33, descriptorIndex := 178, attributes := #[] }] 33 2 #[] #[{ accessFlags := 25, nameIndex := 123, descriptorIndex := 124, attributes := #[] }, { accessFlags := 25, nameIndex := 130, descriptorIndex := 124, attributes := #[] }, { accessFlags := 25, nameIndex := 136, descriptorIndex := 124, attributes := #[] }])
  fields := #[{ name := "SIOOBE_FORMATTER", type := (.object "java/util/function/BiFunction"), accessFlags := 25, slot := 0, constantValue := 0 }, { name := "AIOOBE_FORMATTER", type := (.object "java/util/function/BiFunction"), accessFlags := 25, slot := 1, constantValue := 0 }, { name := "IOOBE_FORMATTER", type := (.object "java/util/function/BiFunction"), accessFlags := 25, slot := 2, constantValue := 0 }]
  methods := #[k24m0, k24m1]
  instanceTypes := #[]
  staticTypes := #[(.object "java/util/function/BiFunction"), (.object "java/util/function/BiFunction"), (.object "java/util/function/BiFunction")]
  resolved := Array.replicate 194 none
  statics := some 3 }

def pool25 : Array CpInfo := pool [(6, .class_ 8), (1, u "java/lang/Object"), (0, u "<init>"), (0, u "()V"), (1, .class_ 14), (1, u "java/lang/StringUTF16"), (31, u "$assertionsDisabled"), (0, u "Z"), (13, u "HI_BYTE_SHIFT"), (0, u "I"), (2, u "LO_BYTE_SHIFT"), (49, .methodref 12 116), (0, .nameAndType 117 118), (0, u "compress"), (0, u "([CI[BII)I"), (3, u "([CII)[B"), (138, u "coderFromArrayLen"), (0, u "([BI)B"), (106, .class_ 371), (1, u "java/lang/StringUTF16$LinesSpliterator"), (58, u "MAX_LENGTH"), (196, .class_ 628), (0, u "java/lang/StringUTF16$CodePointsSpliterator"), (0, .class_ 630), (0, u "java/lang/StringUTF16$CharsSpliterator")] 4

def k25m0 : Method := { name := "<init>", desc := "()V", sig := { parameters := [], returnType := none }, accessFlags := 0, code := none }
def k25c1 : Code := { maxStack := 2, maxLocals := 2, code := jdk_52_method_15_code, exceptionTable := #[], attributes := #[] }
def k25m1 : Method := { name := "coderFromArrayLen", desc := "([BI)B", sig := { parameters := [(.array .byte), .int], returnType := some .byte }, accessFlags := 8, code := some k25c1 }
def k25c2 : Code := { maxStack := 5, maxLocals := 6, code := jdk_52_method_16_code, exceptionTable := #[], attributes := #[] }
def k25m2 : Method := { name := "compress", desc := "([CII)[B", sig := { parameters := [(.array .char), .int, .int], returnType := some (.array .byte) }, accessFlags := 9, code := some k25c2 }
def k25c3 : Code := { maxStack := 3, maxLocals := 7, code := jdk_52_method_21_code, exceptionTable := #[], attributes := #[] }
def k25m3 : Method := { name := "compress", desc := "([CI[BII)I", sig := { parameters := [(.array .char), .int, (.array .byte), .int, .int], returnType := some .int }, accessFlags := 9, code := some k25c3 }
/-- java/lang/StringUTF16 -/
def k25 : Class := { plain "java/lang/StringUTF16" (some 0) with
  accessFlags := 48
  interfaces := #[]
  cf := some (fileOf pool25 12 #[.nestMembers #[627, 629, 369]] #[{ accessFlags := 0, nameIndex := 9, descriptorIndex := 10, attributes := #[] }, { accessFlags := 8, nameIndex := 261, descriptorIndex := 262, attributes := #[] }, { accessFlags := 9, nameIndex := 117, descriptorIndex := 122, attributes := #[] }, { accessFlags := 9, nameIndex := 117, descriptorIndex := 118, attributes := #[] }] 48 6 #[] #[{ accessFlags := 26, nameIndex := 61, descriptorIndex := 62, attributes := #[] }, { accessFlags := 26, nameIndex := 65, descriptorIndex := 62, attributes := #[] }, { accessFlags := 24, nameIndex := 430, descriptorIndex := 62, attributes := #[] }, { accessFlags := 4120, nameIndex := 46, descriptorIndex := 47, attributes := #[] }])
  fields := #[{ name := "HI_BYTE_SHIFT", type := .int, accessFlags := 26, slot := 0, constantValue := 0 }, { name := "LO_BYTE_SHIFT", type := .int, accessFlags := 26, slot := 1, constantValue := 0 }, { name := "MAX_LENGTH", type := .int, accessFlags := 24, slot := 2, constantValue := 0 }, { name := "$assertionsDisabled", type := .boolean, accessFlags := 4120, slot := 3, constantValue := 0 }]
  methods := #[k25m0, k25m1, k25m2, k25m3]
  instanceTypes := #[]
  staticTypes := #[.int, .int, .int, .boolean]
  resolved := Array.replicate 635 none
  statics := none }

def pool26 : Array CpInfo := pool [(9, u "<init>"), (6, .class_ 18), (1, u "java/lang/Object"), (0, u "()V"), (1, .class_ 23), (1, u "jdk/internal/util/ArraysSupport"), (0, u "LOG2_ARRAY_LONG_INDEX_SCALE"), (0, u "I"), (2, u "U"), (0, u "Ljdk/internal/misc/Unsafe;"), (8, u "BIG_ENDIAN"), (0, u "Z"), (8, u "LOG2_BYTE_BIT_SIZE"), (4, u "LOG2_ARRAY_INT_INDEX_SCALE"), (54, u "JLA"), (0, u "Ljdk/internal/access/JavaLangAccess;"), (11, u "LOG2_ARRAY_BOOLEAN_INDEX_SCALE"), (9, u "LOG2_ARRAY_BYTE_INDEX_SCALE"), (5, u "LOG2_ARRAY_CHAR_INDEX_SCALE"), (5, u "LOG2_ARRAY_SHORT_INDEX_SCALE"), (18, u "LOG2_ARRAY_FLOAT_INDEX_SCALE"), (24, u "LOG2_ARRAY_DOUBLE_INDEX_SCALE"), (89, u "T_BOOLEAN"), (2, u "T_CHAR"), (1, u "T_FLOAT"), (1, u "T_DOUBLE"), (1, u "T_BYTE"), (1, u "T_SHORT"), (1, u "T_INT"), (1, u "T_LONG"), (1, u "SOFT_MAX_ARRAY_LENGTH")] 83

def k26m0 : Method := { name := "<init>", desc := "()V", sig := { parameters := [], returnType := none }, accessFlags := 2, code := none }
/-- jdk/internal/util/ArraysSupport -/
def k26 : Class := { plain "jdk/internal/util/ArraysSupport" (some 0) with
  accessFlags := 33
  interfaces := #[]
  cf := some (fileOf pool26 21 #[] #[{ accessFlags := 2, nameIndex := 9, descriptorIndex := 19, attributes := #[] }] 33 16 #[] #[{ accessFlags := 24, nameIndex := 28, descriptorIndex := 29, attributes := #[] }, { accessFlags := 26, nameIndex := 38, descriptorIndex := 39, attributes := #[] }, { accessFlags := 25, nameIndex := 121, descriptorIndex := 25, attributes := #[] }, { accessFlags := 25, nameIndex := 131, descriptorIndex := 25, attributes := #[] }, { accessFlags := 25, nameIndex := 137, descriptorIndex := 25, attributes := #[] }, { accessFlags := 25, nameIndex := 143, descriptorIndex := 25, attributes := #[] }, { accessFlags := 25, nameIndex := 53, descriptorIndex := 25, attributes := #[] }, { accessFlags := 25, nameIndex := 24, descriptorIndex := 25, attributes := #[] }, { accessFlags := 25, nameIndex := 162, descriptorIndex := 25, attributes := #[] }, { accessFlags := 25, nameIndex := 187, descriptorIndex := 25, attributes := #[] }, { accessFlags := 26, nameIndex := 48, descriptorIndex := 25, attributes := #[] }, { accessFlags := 25, nameIndex := 277, descriptorIndex := 25, attributes := #[] }, { accessFlags := 25, nameIndex := 280, descriptorIndex := 25, attributes := #[] }, { accessFlags := 25, nameIndex := 282, descriptorIndex := 25, attributes := #[] }, { accessFlags := 25, nameIndex := 284, descriptorIndex := 25, attributes := #[] }, { accessFlags := 25, nameIndex := 286, descriptorIndex := 25, attributes := #[] }, { accessFlags := 25, nameIndex := 288, descriptorIndex := 25, attributes := #[] }, { accessFlags := 25, nameIndex := 290, descriptorIndex := 25, attributes := #[] }, { accessFlags := 25, nameIndex := 292, descriptorIndex := 25, attributes := #[] }, { accessFlags := 26, nameIndex := 108, descriptorIndex := 109, attributes := #[] }, { accessFlags := 25, nameIndex := 294, descriptorIndex := 25, attributes := #[] }])
  fields := #[{ name := "U", type := (.object "jdk/internal/misc/Unsafe"), accessFlags := 24, slot := 0, constantValue := 0 }, { name := "BIG_ENDIAN", type := .boolean, accessFlags := 26, slot := 1, constantValue := 0 }, { name := "LOG2_ARRAY_BOOLEAN_INDEX_SCALE", type := .int, accessFlags := 25, slot := 2, constantValue := 0 }, { name := "LOG2_ARRAY_BYTE_INDEX_SCALE", type := .int, accessFlags := 25, slot := 3, constantValue := 0 }, { name := "LOG2_ARRAY_CHAR_INDEX_SCALE", type := .int, accessFlags := 25, slot := 4, constantValue := 0 }, { name := "LOG2_ARRAY_SHORT_INDEX_SCALE", type := .int, accessFlags := 25, slot := 5, constantValue := 0 }, { name := "LOG2_ARRAY_INT_INDEX_SCALE", type := .int, accessFlags := 25, slot := 6, constantValue := 0 }, { name := "LOG2_ARRAY_LONG_INDEX_SCALE", type := .int, accessFlags := 25, slot := 7, constantValue := 0 }, { name := "LOG2_ARRAY_FLOAT_INDEX_SCALE", type := .int, accessFlags := 25, slot := 8, constantValue := 0 }, { name := "LOG2_ARRAY_DOUBLE_INDEX_SCALE", type := .int, accessFlags := 25, slot := 9, constantValue := 0 }, { name := "LOG2_BYTE_BIT_SIZE", type := .int, accessFlags := 26, slot := 10, constantValue := 0 }, { name := "T_BOOLEAN", type := .int, accessFlags := 25, slot := 11, constantValue := 0 }, { name := "T_CHAR", type := .int, accessFlags := 25, slot := 12, constantValue := 0 }, { name := "T_FLOAT", type := .int, accessFlags := 25, slot := 13, constantValue := 0 }, { name := "T_DOUBLE", type := .int, accessFlags := 25, slot := 14, constantValue := 0 }, { name := "T_BYTE", type := .int, accessFlags := 25, slot := 15, constantValue := 0 }, { name := "T_SHORT", type := .int, accessFlags := 25, slot := 16, constantValue := 0 }, { name := "T_INT", type := .int, accessFlags := 25, slot := 17, constantValue := 0 }, { name := "T_LONG", type := .int, accessFlags := 25, slot := 18, constantValue := 0 }, { name := "JLA", type := (.object "jdk/internal/access/JavaLangAccess"), accessFlags := 26, slot := 19, constantValue := 0 }, { name := "SOFT_MAX_ARRAY_LENGTH", type := .int, accessFlags := 25, slot := 20, constantValue := 0 }]
  methods := #[k26m0]
  instanceTypes := #[]
  staticTypes := #[(.object "jdk/internal/misc/Unsafe"), .boolean, .int, .int, .int, .int, .int, .int, .int, .int, .int, .int, .int, .int, .int, .int, .int, .int, .int, (.object "jdk/internal/access/JavaLangAccess"), .int]
  resolved := Array.replicate 378 none
  statics := none }

def pool27 : Array CpInfo := pool [(1, u "java/lang/Cloneable"), (0, .class_ 1), (0, u "java/lang/Object"), (0, .class_ 3)] 3

/-- java/lang/Cloneable -/
def k27 : Class := { plain "java/lang/Cloneable" (some 0) with
  accessFlags := 1537
  interfaces := #[]
  cf := some (fileOf pool27 2 #[] #[] 1537 4 #[] #[])
  fields := #[]
  methods := #[]
  instanceTypes := #[]
  staticTypes := #[]
  resolved := Array.replicate 8 none
  statics := none }

/-- the primitive byte -/
def k28 : Class := { plain "byte" none with kind := .primitive 'B', accessFlags := 0x411 }
/-- [B -/
def k29 : Class := { plain "[B" (some 0) with kind := .array 28 .byte, interfaces := #[27, 2], accessFlags := 1041 }

/-- the primitive char -/
def k30 : Class := { plain "char" none with kind := .primitive 'C', accessFlags := 0x411 }
/-- [C -/
def k31 : Class := { plain "[C" (some 0) with kind := .array 30 .char, interfaces := #[27, 2], accessFlags := 1041 }

/-- the primitive int -/
def k32 : Class := { plain "int" none with kind := .primitive 'I', accessFlags := 0x411 }
/-- [I -/
def k33 : Class := { plain "[I" (some 0) with kind := .array 32 .int, interfaces := #[27, 2], accessFlags := 1041 }

/-- [Ljava/lang/Integer; -/
def k34 : Class := { plain "[Ljava/lang/Integer;" (some 0) with kind := .array 11 (.object "java/lang/Integer"), interfaces := #[27, 2], accessFlags := 1041 }

/-- [Ljava/lang/Object; -/
def k35 : Class := { plain "[Ljava/lang/Object;" (some 0) with kind := .array 0 (.object "java/lang/Object"), interfaces := #[27, 2], accessFlags := 1041 }

def heap : Heap := #[{ cls := 7, slots := #[.long 0, .int 1, .null, .int 0, .null, .int 0, .int 0], vm := .statics 7 },
  { cls := 12, slots := #[.int 0, .int 127, .ref 4, .null, .int 0], vm := .statics 12 },
  { cls := 14, slots := #[.long 0, .int 0, .null, .null, .null, .null, .null, .ref 262, .int 0, .int 0], vm := .statics 14 },
  { cls := 24, slots := #[.null, .null, .null], vm := .statics 24 },
  { cls := 34, slots := #[.ref 6, .ref 7, .ref 8, .ref 9, .ref 10, .ref 11, .ref 12, .ref 13, .ref 14, .ref 15, .ref 16, .ref 17, .ref 18, .ref 19, .ref 20, .ref 21, .ref 22, .ref 23, .ref 24, .ref 25, .ref 26, .ref 27, .ref 28, .ref 29, .ref 30, .ref 31, .ref 32, .ref 33, .ref 34, .ref 35, .ref 36, .ref 37, .ref 38, .ref 39, .ref 40, .ref 41, .ref 42, .ref 43, .ref 44, .ref 45, .ref 46, .ref 47, .ref 48, .ref 49, .ref 50, .ref 51, .ref 52, .ref 53, .ref 54, .ref 55, .ref 56, .ref 57, .ref 58, .ref 59, .ref 60, .ref 61, .ref 62, .ref 63, .ref 64, .ref 65, .ref 66, .ref 67, .ref 68, .ref 69, .ref 70, .ref 71, .ref 72, .ref 73, .ref 74, .ref 75, .ref 76, .ref 77, .ref 78, .ref 79, .ref 80, .ref 81, .ref 82, .ref 83, .ref 84, .ref 85, .ref 86, .ref 87, .ref 88, .ref 89, .ref 90, .ref 91, .ref 92, .ref 93, .ref 94, .ref 95, .ref 96, .ref 97, .ref 98, .ref 99, .ref 100, .ref 101, .ref 102, .ref 103, .ref 104, .ref 105, .ref 106, .ref 107, .ref 108, .ref 109, .ref 110, .ref 111, .ref 112, .ref 113, .ref 114, .ref 115, .ref 116, .ref 117, .ref 118, .ref 119, .ref 120, .ref 121, .ref 122, .ref 123, .ref 124, .ref 125, .ref 126, .ref 127, .ref 128, .ref 129, .ref 130, .ref 131, .ref 132, .ref 133, .ref 134, .ref 135, .ref 136, .ref 137, .ref 138, .ref 139, .ref 140, .ref 141, .ref 142, .ref 143, .ref 144, .ref 145, .ref 146, .ref 147, .ref 148, .ref 149, .ref 150, .ref 151, .ref 152, .ref 153, .ref 154, .ref 155, .ref 156, .ref 157, .ref 158, .ref 159, .ref 160, .ref 161, .ref 162, .ref 163, .ref 164, .ref 165, .ref 166, .ref 167, .ref 168, .ref 169, .ref 170, .ref 171, .ref 172, .ref 173, .ref 174, .ref 175, .ref 176, .ref 177, .ref 178, .ref 179, .ref 180, .ref 181, .ref 182, .ref 183, .ref 184, .ref 185, .ref 186, .ref 187, .ref 188, .ref 189, .ref 190, .ref 191, .ref 192, .ref 193, .ref 194, .ref 195, .ref 196, .ref 197, .ref 198, .ref 199, .ref 200, .ref 201, .ref 202, .ref 203, .ref 204, .ref 205, .ref 206, .ref 207, .ref 208, .ref 209, .ref 210, .ref 211, .ref 212, .ref 213, .ref 214, .ref 215, .ref 216, .ref 217, .ref 218, .ref 219, .ref 220, .ref 221, .ref 222, .ref 223, .ref 224, .ref 225, .ref 226, .ref 227, .ref 228, .ref 229, .ref 230, .ref 231, .ref 232, .ref 233, .ref 234, .ref 235, .ref 236, .ref 237, .ref 238, .ref 239, .ref 240, .ref 241, .ref 242, .ref 243, .ref 244, .ref 245, .ref 246, .ref 247, .ref 248, .ref 249, .ref 250, .ref 251, .ref 252, .ref 253, .ref 254, .ref 255, .ref 256, .ref 257, .ref 258, .ref 259, .ref 260, .ref 261], vm := .none },
  { cls := 35, slots := #[], vm := .none },
  { cls := 11, slots := #[.int (-128)], vm := .none },
  { cls := 11, slots := #[.int (-127)], vm := .none },
  { cls := 11, slots := #[.int (-126)], vm := .none },
  { cls := 11, slots := #[.int (-125)], vm := .none },
  { cls := 11, slots := #[.int (-124)], vm := .none },
  { cls := 11, slots := #[.int (-123)], vm := .none },
  { cls := 11, slots := #[.int (-122)], vm := .none },
  { cls := 11, slots := #[.int (-121)], vm := .none },
  { cls := 11, slots := #[.int (-120)], vm := .none },
  { cls := 11, slots := #[.int (-119)], vm := .none },
  { cls := 11, slots := #[.int (-118)], vm := .none },
  { cls := 11, slots := #[.int (-117)], vm := .none },
  { cls := 11, slots := #[.int (-116)], vm := .none },
  { cls := 11, slots := #[.int (-115)], vm := .none },
  { cls := 11, slots := #[.int (-114)], vm := .none },
  { cls := 11, slots := #[.int (-113)], vm := .none },
  { cls := 11, slots := #[.int (-112)], vm := .none },
  { cls := 11, slots := #[.int (-111)], vm := .none },
  { cls := 11, slots := #[.int (-110)], vm := .none },
  { cls := 11, slots := #[.int (-109)], vm := .none },
  { cls := 11, slots := #[.int (-108)], vm := .none },
  { cls := 11, slots := #[.int (-107)], vm := .none },
  { cls := 11, slots := #[.int (-106)], vm := .none },
  { cls := 11, slots := #[.int (-105)], vm := .none },
  { cls := 11, slots := #[.int (-104)], vm := .none },
  { cls := 11, slots := #[.int (-103)], vm := .none },
  { cls := 11, slots := #[.int (-102)], vm := .none },
  { cls := 11, slots := #[.int (-101)], vm := .none },
  { cls := 11, slots := #[.int (-100)], vm := .none },
  { cls := 11, slots := #[.int (-99)], vm := .none },
  { cls := 11, slots := #[.int (-98)], vm := .none },
  { cls := 11, slots := #[.int (-97)], vm := .none },
  { cls := 11, slots := #[.int (-96)], vm := .none },
  { cls := 11, slots := #[.int (-95)], vm := .none },
  { cls := 11, slots := #[.int (-94)], vm := .none },
  { cls := 11, slots := #[.int (-93)], vm := .none },
  { cls := 11, slots := #[.int (-92)], vm := .none },
  { cls := 11, slots := #[.int (-91)], vm := .none },
  { cls := 11, slots := #[.int (-90)], vm := .none },
  { cls := 11, slots := #[.int (-89)], vm := .none },
  { cls := 11, slots := #[.int (-88)], vm := .none },
  { cls := 11, slots := #[.int (-87)], vm := .none },
  { cls := 11, slots := #[.int (-86)], vm := .none },
  { cls := 11, slots := #[.int (-85)], vm := .none },
  { cls := 11, slots := #[.int (-84)], vm := .none },
  { cls := 11, slots := #[.int (-83)], vm := .none },
  { cls := 11, slots := #[.int (-82)], vm := .none },
  { cls := 11, slots := #[.int (-81)], vm := .none },
  { cls := 11, slots := #[.int (-80)], vm := .none },
  { cls := 11, slots := #[.int (-79)], vm := .none },
  { cls := 11, slots := #[.int (-78)], vm := .none },
  { cls := 11, slots := #[.int (-77)], vm := .none },
  { cls := 11, slots := #[.int (-76)], vm := .none },
  { cls := 11, slots := #[.int (-75)], vm := .none },
  { cls := 11, slots := #[.int (-74)], vm := .none },
  { cls := 11, slots := #[.int (-73)], vm := .none },
  { cls := 11, slots := #[.int (-72)], vm := .none },
  { cls := 11, slots := #[.int (-71)], vm := .none },
  { cls := 11, slots := #[.int (-70)], vm := .none },
  { cls := 11, slots := #[.int (-69)], vm := .none },
  { cls := 11, slots := #[.int (-68)], vm := .none },
  { cls := 11, slots := #[.int (-67)], vm := .none },
  { cls := 11, slots := #[.int (-66)], vm := .none },
  { cls := 11, slots := #[.int (-65)], vm := .none },
  { cls := 11, slots := #[.int (-64)], vm := .none },
  { cls := 11, slots := #[.int (-63)], vm := .none },
  { cls := 11, slots := #[.int (-62)], vm := .none },
  { cls := 11, slots := #[.int (-61)], vm := .none },
  { cls := 11, slots := #[.int (-60)], vm := .none },
  { cls := 11, slots := #[.int (-59)], vm := .none },
  { cls := 11, slots := #[.int (-58)], vm := .none },
  { cls := 11, slots := #[.int (-57)], vm := .none },
  { cls := 11, slots := #[.int (-56)], vm := .none },
  { cls := 11, slots := #[.int (-55)], vm := .none },
  { cls := 11, slots := #[.int (-54)], vm := .none },
  { cls := 11, slots := #[.int (-53)], vm := .none },
  { cls := 11, slots := #[.int (-52)], vm := .none },
  { cls := 11, slots := #[.int (-51)], vm := .none },
  { cls := 11, slots := #[.int (-50)], vm := .none },
  { cls := 11, slots := #[.int (-49)], vm := .none },
  { cls := 11, slots := #[.int (-48)], vm := .none },
  { cls := 11, slots := #[.int (-47)], vm := .none },
  { cls := 11, slots := #[.int (-46)], vm := .none },
  { cls := 11, slots := #[.int (-45)], vm := .none },
  { cls := 11, slots := #[.int (-44)], vm := .none },
  { cls := 11, slots := #[.int (-43)], vm := .none },
  { cls := 11, slots := #[.int (-42)], vm := .none },
  { cls := 11, slots := #[.int (-41)], vm := .none },
  { cls := 11, slots := #[.int (-40)], vm := .none },
  { cls := 11, slots := #[.int (-39)], vm := .none },
  { cls := 11, slots := #[.int (-38)], vm := .none },
  { cls := 11, slots := #[.int (-37)], vm := .none },
  { cls := 11, slots := #[.int (-36)], vm := .none },
  { cls := 11, slots := #[.int (-35)], vm := .none },
  { cls := 11, slots := #[.int (-34)], vm := .none },
  { cls := 11, slots := #[.int (-33)], vm := .none },
  { cls := 11, slots := #[.int (-32)], vm := .none },
  { cls := 11, slots := #[.int (-31)], vm := .none },
  { cls := 11, slots := #[.int (-30)], vm := .none },
  { cls := 11, slots := #[.int (-29)], vm := .none },
  { cls := 11, slots := #[.int (-28)], vm := .none },
  { cls := 11, slots := #[.int (-27)], vm := .none },
  { cls := 11, slots := #[.int (-26)], vm := .none },
  { cls := 11, slots := #[.int (-25)], vm := .none },
  { cls := 11, slots := #[.int (-24)], vm := .none },
  { cls := 11, slots := #[.int (-23)], vm := .none },
  { cls := 11, slots := #[.int (-22)], vm := .none },
  { cls := 11, slots := #[.int (-21)], vm := .none },
  { cls := 11, slots := #[.int (-20)], vm := .none },
  { cls := 11, slots := #[.int (-19)], vm := .none },
  { cls := 11, slots := #[.int (-18)], vm := .none },
  { cls := 11, slots := #[.int (-17)], vm := .none },
  { cls := 11, slots := #[.int (-16)], vm := .none },
  { cls := 11, slots := #[.int (-15)], vm := .none },
  { cls := 11, slots := #[.int (-14)], vm := .none },
  { cls := 11, slots := #[.int (-13)], vm := .none },
  { cls := 11, slots := #[.int (-12)], vm := .none },
  { cls := 11, slots := #[.int (-11)], vm := .none },
  { cls := 11, slots := #[.int (-10)], vm := .none },
  { cls := 11, slots := #[.int (-9)], vm := .none },
  { cls := 11, slots := #[.int (-8)], vm := .none },
  { cls := 11, slots := #[.int (-7)], vm := .none },
  { cls := 11, slots := #[.int (-6)], vm := .none },
  { cls := 11, slots := #[.int (-5)], vm := .none },
  { cls := 11, slots := #[.int (-4)], vm := .none },
  { cls := 11, slots := #[.int (-3)], vm := .none },
  { cls := 11, slots := #[.int (-2)], vm := .none },
  { cls := 11, slots := #[.int (-1)], vm := .none },
  { cls := 11, slots := #[.int (0)], vm := .none },
  { cls := 11, slots := #[.int (1)], vm := .none },
  { cls := 11, slots := #[.int (2)], vm := .none },
  { cls := 11, slots := #[.int (3)], vm := .none },
  { cls := 11, slots := #[.int (4)], vm := .none },
  { cls := 11, slots := #[.int (5)], vm := .none },
  { cls := 11, slots := #[.int (6)], vm := .none },
  { cls := 11, slots := #[.int (7)], vm := .none },
  { cls := 11, slots := #[.int (8)], vm := .none },
  { cls := 11, slots := #[.int (9)], vm := .none },
  { cls := 11, slots := #[.int (10)], vm := .none },
  { cls := 11, slots := #[.int (11)], vm := .none },
  { cls := 11, slots := #[.int (12)], vm := .none },
  { cls := 11, slots := #[.int (13)], vm := .none },
  { cls := 11, slots := #[.int (14)], vm := .none },
  { cls := 11, slots := #[.int (15)], vm := .none },
  { cls := 11, slots := #[.int (16)], vm := .none },
  { cls := 11, slots := #[.int (17)], vm := .none },
  { cls := 11, slots := #[.int (18)], vm := .none },
  { cls := 11, slots := #[.int (19)], vm := .none },
  { cls := 11, slots := #[.int (20)], vm := .none },
  { cls := 11, slots := #[.int (21)], vm := .none },
  { cls := 11, slots := #[.int (22)], vm := .none },
  { cls := 11, slots := #[.int (23)], vm := .none },
  { cls := 11, slots := #[.int (24)], vm := .none },
  { cls := 11, slots := #[.int (25)], vm := .none },
  { cls := 11, slots := #[.int (26)], vm := .none },
  { cls := 11, slots := #[.int (27)], vm := .none },
  { cls := 11, slots := #[.int (28)], vm := .none },
  { cls := 11, slots := #[.int (29)], vm := .none },
  { cls := 11, slots := #[.int (30)], vm := .none },
  { cls := 11, slots := #[.int (31)], vm := .none },
  { cls := 11, slots := #[.int (32)], vm := .none },
  { cls := 11, slots := #[.int (33)], vm := .none },
  { cls := 11, slots := #[.int (34)], vm := .none },
  { cls := 11, slots := #[.int (35)], vm := .none },
  { cls := 11, slots := #[.int (36)], vm := .none },
  { cls := 11, slots := #[.int (37)], vm := .none },
  { cls := 11, slots := #[.int (38)], vm := .none },
  { cls := 11, slots := #[.int (39)], vm := .none },
  { cls := 11, slots := #[.int (40)], vm := .none },
  { cls := 11, slots := #[.int (41)], vm := .none },
  { cls := 11, slots := #[.int (42)], vm := .none },
  { cls := 11, slots := #[.int (43)], vm := .none },
  { cls := 11, slots := #[.int (44)], vm := .none },
  { cls := 11, slots := #[.int (45)], vm := .none },
  { cls := 11, slots := #[.int (46)], vm := .none },
  { cls := 11, slots := #[.int (47)], vm := .none },
  { cls := 11, slots := #[.int (48)], vm := .none },
  { cls := 11, slots := #[.int (49)], vm := .none },
  { cls := 11, slots := #[.int (50)], vm := .none },
  { cls := 11, slots := #[.int (51)], vm := .none },
  { cls := 11, slots := #[.int (52)], vm := .none },
  { cls := 11, slots := #[.int (53)], vm := .none },
  { cls := 11, slots := #[.int (54)], vm := .none },
  { cls := 11, slots := #[.int (55)], vm := .none },
  { cls := 11, slots := #[.int (56)], vm := .none },
  { cls := 11, slots := #[.int (57)], vm := .none },
  { cls := 11, slots := #[.int (58)], vm := .none },
  { cls := 11, slots := #[.int (59)], vm := .none },
  { cls := 11, slots := #[.int (60)], vm := .none },
  { cls := 11, slots := #[.int (61)], vm := .none },
  { cls := 11, slots := #[.int (62)], vm := .none },
  { cls := 11, slots := #[.int (63)], vm := .none },
  { cls := 11, slots := #[.int (64)], vm := .none },
  { cls := 11, slots := #[.int (65)], vm := .none },
  { cls := 11, slots := #[.int (66)], vm := .none },
  { cls := 11, slots := #[.int (67)], vm := .none },
  { cls := 11, slots := #[.int (68)], vm := .none },
  { cls := 11, slots := #[.int (69)], vm := .none },
  { cls := 11, slots := #[.int (70)], vm := .none },
  { cls := 11, slots := #[.int (71)], vm := .none },
  { cls := 11, slots := #[.int (72)], vm := .none },
  { cls := 11, slots := #[.int (73)], vm := .none },
  { cls := 11, slots := #[.int (74)], vm := .none },
  { cls := 11, slots := #[.int (75)], vm := .none },
  { cls := 11, slots := #[.int (76)], vm := .none },
  { cls := 11, slots := #[.int (77)], vm := .none },
  { cls := 11, slots := #[.int (78)], vm := .none },
  { cls := 11, slots := #[.int (79)], vm := .none },
  { cls := 11, slots := #[.int (80)], vm := .none },
  { cls := 11, slots := #[.int (81)], vm := .none },
  { cls := 11, slots := #[.int (82)], vm := .none },
  { cls := 11, slots := #[.int (83)], vm := .none },
  { cls := 11, slots := #[.int (84)], vm := .none },
  { cls := 11, slots := #[.int (85)], vm := .none },
  { cls := 11, slots := #[.int (86)], vm := .none },
  { cls := 11, slots := #[.int (87)], vm := .none },
  { cls := 11, slots := #[.int (88)], vm := .none },
  { cls := 11, slots := #[.int (89)], vm := .none },
  { cls := 11, slots := #[.int (90)], vm := .none },
  { cls := 11, slots := #[.int (91)], vm := .none },
  { cls := 11, slots := #[.int (92)], vm := .none },
  { cls := 11, slots := #[.int (93)], vm := .none },
  { cls := 11, slots := #[.int (94)], vm := .none },
  { cls := 11, slots := #[.int (95)], vm := .none },
  { cls := 11, slots := #[.int (96)], vm := .none },
  { cls := 11, slots := #[.int (97)], vm := .none },
  { cls := 11, slots := #[.int (98)], vm := .none },
  { cls := 11, slots := #[.int (99)], vm := .none },
  { cls := 11, slots := #[.int (100)], vm := .none },
  { cls := 11, slots := #[.int (101)], vm := .none },
  { cls := 11, slots := #[.int (102)], vm := .none },
  { cls := 11, slots := #[.int (103)], vm := .none },
  { cls := 11, slots := #[.int (104)], vm := .none },
  { cls := 11, slots := #[.int (105)], vm := .none },
  { cls := 11, slots := #[.int (106)], vm := .none },
  { cls := 11, slots := #[.int (107)], vm := .none },
  { cls := 11, slots := #[.int (108)], vm := .none },
  { cls := 11, slots := #[.int (109)], vm := .none },
  { cls := 11, slots := #[.int (110)], vm := .none },
  { cls := 11, slots := #[.int (111)], vm := .none },
  { cls := 11, slots := #[.int (112)], vm := .none },
  { cls := 11, slots := #[.int (113)], vm := .none },
  { cls := 11, slots := #[.int (114)], vm := .none },
  { cls := 11, slots := #[.int (115)], vm := .none },
  { cls := 11, slots := #[.int (116)], vm := .none },
  { cls := 11, slots := #[.int (117)], vm := .none },
  { cls := 11, slots := #[.int (118)], vm := .none },
  { cls := 11, slots := #[.int (119)], vm := .none },
  { cls := 11, slots := #[.int (120)], vm := .none },
  { cls := 11, slots := #[.int (121)], vm := .none },
  { cls := 11, slots := #[.int (122)], vm := .none },
  { cls := 11, slots := #[.int (123)], vm := .none },
  { cls := 11, slots := #[.int (124)], vm := .none },
  { cls := 11, slots := #[.int (125)], vm := .none },
  { cls := 11, slots := #[.int (126)], vm := .none },
  { cls := 11, slots := #[.int (127)], vm := .none },
  { cls := 17, slots := #[.null, .null, .ref 5, .int 0], vm := .none }]
def classes : Array Class := #[k0, k1, k2, k3, k4, k5, k6, k7, k8, k9, k10, k11, k12, k13, k14, k15, k16, k17, k18, k19, k20, k21, k22, k23, k24, k25, k26, k27, k28, k29, k30, k31, k32, k33, k34, k35]
def interned : List (Array UInt16 × Addr) := []
def slotsUsed : Nat := 541
def theMethod : MethodId := ⟨1, 1⟩
def args0 : Array Value := #[.int 5, .int 3, .int 7, .int 27, .int 1, .int 2]
def aboutOver (below : List Frame) : State where
  vm := { classes := classes, interned := interned.toArray }
  heap := heap
  slotsUsed := slotsUsed
  threads := #[{ frames := .invoking theMethod args0 :: below }]
def below0 : List Frame := [.native { method := ⟨0, 0⟩, args := #[] }]
def about1 : State := aboutOver below0
def p0 : Program := .bare "" "" ""
def e0 : Env := launch0.env 0 0 0
theorem w_frames : about1.frames = Frame.invoking theMethod args0 :: below0 := rfl
set_option maxRecDepth 65536 in
theorem w_args : argsFit about1.vm theMethod args0 = true := by decide +kernel
set_option maxRecDepth 65536 in
theorem w_heap : heapFits about1 = true := by decide +kernel
set_option maxRecDepth 65536 in
theorem w_runnable : about1.curStatus? = some .runnable := by decide +kernel
set_option maxRecDepth 65536 in
theorem w_alone : about1.alone = true := by decide +kernel
set_option maxRecDepth 65536 in
theorem w_named : about1.methodNamed? x = some theMethod := by decide +kernel
set_option maxRecDepth 65536 in
theorem w_hears : about1.hears theMethod below0 = true := by decide +kernel
set_option maxRecDepth 65536 in
theorem w_ripe : about1.ripe theMethod args0 below0 = true := by decide +kernel
theorem w_running : about1.status = .running := rfl
set_option maxRecDepth 65536 in
theorem w_room : about1.hasRoom e0.platform room_1 = true :=
  launch0.hasRoom_least _ room_1 (by decide +kernel) (by decide +kernel) (by decide +kernel) (by decide +kernel) (by decide +kernel) (by decide +kernel)
theorem allAtoms_all (ts : List Jvm.Cond) (a : Array Jvm.Value) (st : Jvm.State) : (allAtoms ts).before a st = ts.all (fun c => c.before a st) := by
  induction ts with
  | nil => rfl
  | cons c t ih =>
    show (Jvm.Cond.and c (allAtoms t)).before a st = _
    rw [Jvm.Cond.before_and, ih, List.all_cons]
def words1 : List Jvm.Cond := Jvm.Cond.code x code maxLocals ret :: tables_1
/-- a 'code' word, met by the world's own term for the bytes: nothing is compared byte by byte -/
theorem code_word {y : MethodName} {bytes : ByteArray} {mx : Nat} {rt : Option FieldType} {a : Array Value} {s : State} {m : MethodId} {meth : Method} {c : Code} (h1 : s.methodNamed? y = some m) (h2 : s.vm.method? m = some meth) (h3 : meth.code = some c) (h4 : c.code = bytes)
    (h5 : (c.maxLocals == mx && c.exceptionTable.isEmpty && decide (c.maxStack ≤ mostOperands) && decide (meth.sig.returnType = rt) && !meth.locks && decide (parseMethodDescriptor y.desc = some meth.sig)) = true) : (Jvm.Cond.code y bytes mx rt).before a s = true := by
  simp only [Bool.and_eq_true, beq_iff_eq, Bool.not_eq_true', decide_eq_true_eq] at h5
  obtain ⟨⟨⟨⟨⟨g1, g2⟩, g3⟩, g4⟩, g5⟩, g6⟩ := h5
  simp [Cond.before, Cond.holds, Cond.value, h1, h2, h3, h4, g1, g2, g3, g4, g5, g6]
def isCode : Jvm.Cond → Bool
  | .code _ _ _ _ => true
  | _ => false
theorem all_split {L : List Jvm.Cond} {P : Jvm.Cond → Bool} (h1 : L.all (fun c => isCode c || P c) = true) (h2 : ∀ c ∈ L.filter isCode, P c = true) : L.all P = true := by
  refine List.all_eq_true.mpr fun c hc => ?_
  have h := List.all_eq_true.mp h1 c hc
  rcases Bool.eq_false_or_eq_true (isCode c) with hi | hi
  · exact h2 c (List.mem_filter.mpr ⟨hc, hi⟩)
  · simpa [hi] using h
set_option maxRecDepth 65536 in
theorem w_c0 : (Jvm.Cond.code x code maxLocals ret).before args0 about1 = true := code_word (m := ⟨1, 1⟩) (meth := k1m1) (c := k1c1) (by decide +kernel) rfl rfl rfl (by decide +kernel)
set_option maxRecDepth 65536 in
theorem w_c1 : (Jvm.Cond.code ({ cls := "com/example/scrutineer/scrutineer/ValidationFailureToStringPinLaw", name := "mk", desc := "(II)Ljava/lang/String;" } : Jvm.MethodName) method_3_code (5 : Nat) (Option.some (Jvm.ClassFile.FieldType.object "java/lang/String"))).before args0 about1 = true := code_word (m := ⟨1, 2⟩) (meth := k1m2) (c := k1c2) (by decide +kernel) rfl rfl rfl (by decide +kernel)
set_option maxRecDepth 65536 in
theorem w_c2 : (Jvm.Cond.code ({ cls := "java/lang/String", name := "valueOf", desc := "(C)Ljava/lang/String;" } : Jvm.MethodName) jdk_42_method_139_code (1 : Nat) (Option.some (Jvm.ClassFile.FieldType.object "java/lang/String"))).before args0 about1 = true := code_word (m := ⟨7, 5⟩) (meth := k7m5) (c := k7c5) (by decide +kernel) rfl rfl rfl (by decide +kernel)
set_option maxRecDepth 65536 in
theorem w_c3 : (Jvm.Cond.code ({ cls := "java/lang/StringLatin1", name := "canEncode", desc := "(C)Z" } : Jvm.MethodName) jdk_43_method_3_code (1 : Nat) (Option.some Jvm.ClassFile.FieldType.boolean)).before args0 about1 = true := code_word (m := ⟨8, 2⟩) (meth := k8m2) (c := k8c2) (by decide +kernel) rfl rfl rfl (by decide +kernel)
set_option maxRecDepth 65536 in
theorem w_c4 : (Jvm.Cond.code ({ cls := "java/lang/StringLatin1", name := "toBytes", desc := "(C)[B" } : Jvm.MethodName) jdk_43_method_46_code (1 : Nat) (Option.some (Jvm.ClassFile.FieldType.array Jvm.ClassFile.FieldType.byte))).before args0 about1 = true := code_word (m := ⟨8, 3⟩) (meth := k8m3) (c := k8c3) (by decide +kernel) rfl rfl rfl (by decide +kernel)
set_option maxRecDepth 65536 in
theorem w_c5 : (Jvm.Cond.code ({ cls := "java/lang/String", name := "<init>", desc := "([BB)V" } : Jvm.MethodName) jdk_42_method_151_code (3 : Nat) (Option.none : Option Jvm.ClassFile.FieldType)).before args0 about1 = true := code_word (m := ⟨7, 9⟩) (meth := k7m9) (c := k7c9) (by decide +kernel) rfl rfl rfl (by decide +kernel)
set_option maxRecDepth 65536 in
theorem w_c6 : (Jvm.Cond.code ({ cls := "java/lang/Object", name := "<init>", desc := "()V" } : Jvm.MethodName) object_method_1_code (1 : Nat) (Option.none : Option Jvm.ClassFile.FieldType)).before args0 about1 = true := code_word (m := ⟨0, 0⟩) (meth := k0m0) (c := k0c0) (by decide +kernel) rfl rfl rfl (by decide +kernel)
set_option maxRecDepth 65536 in
theorem w_c7 : (Jvm.Cond.code ({ cls := "java/lang/String", name := "<init>", desc := "([C)V" } : Jvm.MethodName) jdk_42_method_3_code (2 : Nat) (Option.none : Option Jvm.ClassFile.FieldType)).before args0 about1 = true := code_word (m := ⟨7, 1⟩) (meth := k7m1) (c := k7c1) (by decide +kernel) rfl rfl rfl (by decide +kernel)
set_option maxRecDepth 65536 in
theorem w_c8 : (Jvm.Cond.code ({ cls := "java/lang/String", name := "<init>", desc := "([CIILjava/lang/Void;)V" } : Jvm.MethodName) jdk_42_method_149_code (6 : Nat) (Option.none : Option Jvm.ClassFile.FieldType)).before args0 about1 = true := code_word (m := ⟨7, 7⟩) (meth := k7m7) (c := k7c7) (by decide +kernel) rfl rfl rfl (by decide +kernel)
set_option maxRecDepth 65536 in
theorem w_c9 : (Jvm.Cond.code ({ cls := "java/lang/Integer", name := "valueOf", desc := "(I)Ljava/lang/Integer;" } : Jvm.MethodName) jdk_33_method_22_code (1 : Nat) (Option.some (Jvm.ClassFile.FieldType.object "java/lang/Integer"))).before args0 about1 = true := code_word (m := ⟨11, 0⟩) (meth := k11m0) (c := k11c0) (by decide +kernel) rfl rfl rfl (by decide +kernel)
set_option maxRecDepth 65536 in
theorem w_c10 : (Jvm.Cond.code ({ cls := "java/util/Map", name := "of", desc := "()Ljava/util/Map;" } : Jvm.MethodName) jdk_72_method_26_code (0 : Nat) (Option.some (Jvm.ClassFile.FieldType.object "java/util/Map"))).before args0 about1 = true := code_word (m := ⟨13, 0⟩) (meth := k13m0) (c := k13c0) (by decide +kernel) rfl rfl rfl (by decide +kernel)
set_option maxRecDepth 65536 in
theorem w_c11 : (Jvm.Cond.code ({ cls := "com/example/scrutineer/scrutineer/ValidationFailure", name := "<init>", desc := "(Ljava/lang/String;Ljava/lang/String;Ljava/lang/String;Ljava/lang/String;Ljava/lang/String;ILjava/lang/Object;Ljava/util/Map;Ljava/lang/String;)V" } : Jvm.MethodName) prog_69_method_1_code (10 : Nat) (Option.none : Option Jvm.ClassFile.FieldType)).before args0 about1 = true := code_word (m := ⟨9, 0⟩) (meth := k9m0) (c := k9c0) (by decide +kernel) rfl rfl rfl (by decide +kernel)
set_option maxRecDepth 65536 in
theorem w_c12 : (Jvm.Cond.code ({ cls := "java/util/Map", name := "copyOf", desc := "(Ljava/util/Map;)Ljava/util/Map;" } : Jvm.MethodName) jdk_72_method_39_code (1 : Nat) (Option.some (Jvm.ClassFile.FieldType.object "java/util/Map"))).before args0 about1 = true := code_word (m := ⟨13, 1⟩) (meth := k13m1) (c := k13c1) (by decide +kernel) rfl rfl rfl (by decide +kernel)
set_option maxRecDepth 65536 in
theorem w_c13 : (Jvm.Cond.code ({ cls := "com/example/scrutineer/scrutineer/ValidationFailure", name := "toString", desc := "()Ljava/lang/String;" } : Jvm.MethodName) prog_69_method_13_code (1 : Nat) (Option.some (Jvm.ClassFile.FieldType.object "java/lang/String"))).before args0 about1 = true := code_word (m := ⟨9, 1⟩) (meth := k9m1) (c := k9c1) (by decide +kernel) rfl rfl rfl (by decide +kernel)
set_option maxRecDepth 65536 in
theorem w_c14 : (Jvm.Cond.code ({ cls := "java/lang/StringBuilder", name := "<init>", desc := "()V" } : Jvm.MethodName) jdk_67_method_1_code (1 : Nat) (Option.none : Option Jvm.ClassFile.FieldType)).before args0 about1 = true := code_word (m := ⟨20, 0⟩) (meth := k20m0) (c := k20c0) (by decide +kernel) rfl rfl rfl (by decide +kernel)
set_option maxRecDepth 65536 in
theorem w_c15 : (Jvm.Cond.code ({ cls := "java/lang/AbstractStringBuilder", name := "<init>", desc := "(I)V" } : Jvm.MethodName) jdk_68_method_2_code (2 : Nat) (Option.none : Option Jvm.ClassFile.FieldType)).before args0 about1 = true := code_word (m := ⟨19, 1⟩) (meth := k19m1) (c := k19c1) (by decide +kernel) rfl rfl rfl (by decide +kernel)
set_option maxRecDepth 65536 in
theorem w_c16 : (Jvm.Cond.code ({ cls := "java/lang/StringBuilder", name := "append", desc := "(Ljava/lang/String;)Ljava/lang/StringBuilder;" } : Jvm.MethodName) jdk_67_method_7_code (2 : Nat) (Option.some (Jvm.ClassFile.FieldType.object "java/lang/StringBuilder"))).before args0 about1 = true := code_word (m := ⟨20, 1⟩) (meth := k20m1) (c := k20c1) (by decide +kernel) rfl rfl rfl (by decide +kernel)
set_option maxRecDepth 65536 in
theorem w_c17 : (Jvm.Cond.code ({ cls := "java/lang/AbstractStringBuilder", name := "append", desc := "(Ljava/lang/String;)Ljava/lang/AbstractStringBuilder;" } : Jvm.MethodName) jdk_68_method_22_code (3 : Nat) (Option.some (Jvm.ClassFile.FieldType.object "java/lang/AbstractStringBuilder"))).before args0 about1 = true := code_word (m := ⟨19, 4⟩) (meth := k19m4) (c := k19c4) (by decide +kernel) rfl rfl rfl (by decide +kernel)
set_option maxRecDepth 65536 in
theorem w_c18 : (Jvm.Cond.code ({ cls := "java/lang/String", name := "length", desc := "()I" } : Jvm.MethodName) jdk_42_method_54_code (1 : Nat) (Option.some Jvm.ClassFile.FieldType.int)).before args0 about1 = true := code_word (m := ⟨7, 3⟩) (meth := k7m3) (c := k7c3) (by decide +kernel) rfl rfl rfl (by decide +kernel)
set_option maxRecDepth 65536 in
theorem w_c19 : (Jvm.Cond.code ({ cls := "java/lang/String", name := "coder", desc := "()B" } : Jvm.MethodName) jdk_42_method_152_code (1 : Nat) (Option.some Jvm.ClassFile.FieldType.byte)).before args0 about1 = true := code_word (m := ⟨7, 10⟩) (meth := k7m10) (c := k7c10) (by decide +kernel) rfl rfl rfl (by decide +kernel)
set_option maxRecDepth 65536 in
theorem w_c20 : (Jvm.Cond.code ({ cls := "java/lang/AbstractStringBuilder", name := "ensureCapacityInternal", desc := "(I)V" } : Jvm.MethodName) jdk_68_method_9_code (3 : Nat) (Option.none : Option Jvm.ClassFile.FieldType)).before args0 about1 = true := code_word (m := ⟨19, 3⟩) (meth := k19m3) (c := k19c3) (by decide +kernel) rfl rfl rfl (by decide +kernel)
set_option maxRecDepth 65536 in
theorem w_c21 : (Jvm.Cond.code ({ cls := "java/lang/AbstractStringBuilder", name := "putStringAt", desc := "(ILjava/lang/String;)V" } : Jvm.MethodName) jdk_68_method_73_code (3 : Nat) (Option.none : Option Jvm.ClassFile.FieldType)).before args0 about1 = true := code_word (m := ⟨19, 8⟩) (meth := k19m8) (c := k19c8) (by decide +kernel) rfl rfl rfl (by decide +kernel)
set_option maxRecDepth 65536 in
theorem w_c22 : (Jvm.Cond.code ({ cls := "java/lang/AbstractStringBuilder", name := "inflateIfNeededFor", desc := "(Ljava/lang/String;)V" } : Jvm.MethodName) jdk_68_method_71_code (2 : Nat) (Option.none : Option Jvm.ClassFile.FieldType)).before args0 about1 = true := code_word (m := ⟨19, 7⟩) (meth := k19m7) (c := k19c7) (by decide +kernel) rfl rfl rfl (by decide +kernel)
set_option maxRecDepth 65536 in
theorem w_c23 : (Jvm.Cond.code ({ cls := "java/lang/String", name := "getBytes", desc := "([BIB)V" } : Jvm.MethodName) jdk_42_method_147_code (4 : Nat) (Option.none : Option Jvm.ClassFile.FieldType)).before args0 about1 = true := code_word (m := ⟨7, 6⟩) (meth := k7m6) (c := k7c6) (by decide +kernel) rfl rfl rfl (by decide +kernel)
set_option maxRecDepth 65536 in
theorem w_c24 : (Jvm.Cond.code ({ cls := "java/lang/StringBuilder", name := "toString", desc := "()Ljava/lang/String;" } : Jvm.MethodName) jdk_67_method_42_code (1 : Nat) (Option.some (Jvm.ClassFile.FieldType.object "java/lang/String"))).before args0 about1 = true := code_word (m := ⟨20, 2⟩) (meth := k20m2) (c := k20c2) (by decide +kernel) rfl rfl rfl (by decide +kernel)
set_option maxRecDepth 65536 in
theorem w_c25 : (Jvm.Cond.code ({ cls := "java/lang/String", name := "<init>", desc := "(Ljava/lang/StringBuilder;)V" } : Jvm.MethodName) jdk_42_method_53_code (2 : Nat) (Option.none : Option Jvm.ClassFile.FieldType)).before args0 about1 = true := code_word (m := ⟨7, 2⟩) (meth := k7m2) (c := k7c2) (by decide +kernel) rfl rfl rfl (by decide +kernel)
set_option maxRecDepth 65536 in
theorem w_c26 : (Jvm.Cond.code ({ cls := "java/lang/String", name := "<init>", desc := "(Ljava/lang/AbstractStringBuilder;Ljava/lang/Void;)V" } : Jvm.MethodName) jdk_42_method_150_code (5 : Nat) (Option.none : Option Jvm.ClassFile.FieldType)).before args0 about1 = true := code_word (m := ⟨7, 8⟩) (meth := k7m8) (c := k7c8) (by decide +kernel) rfl rfl rfl (by decide +kernel)
set_option maxRecDepth 65536 in
theorem w_c27 : (Jvm.Cond.code ({ cls := "java/lang/AbstractStringBuilder", name := "getValue", desc := "()[B" } : Jvm.MethodName) jdk_68_method_64_code (1 : Nat) (Option.some (Jvm.ClassFile.FieldType.array Jvm.ClassFile.FieldType.byte))).before args0 about1 = true := code_word (m := ⟨19, 5⟩) (meth := k19m5) (c := k19c5) (by decide +kernel) rfl rfl rfl (by decide +kernel)
set_option maxRecDepth 65536 in
theorem w_c28 : (Jvm.Cond.code ({ cls := "java/lang/StringBuilder", name := "length", desc := "()I" } : Jvm.MethodName) jdk_67_method_93_code (1 : Nat) (Option.some Jvm.ClassFile.FieldType.int)).before args0 about1 = true := code_word (m := ⟨20, 3⟩) (meth := k20m3) (c := k20c3) (by decide +kernel) rfl rfl rfl (by decide +kernel)
set_option maxRecDepth 65536 in
theorem w_c29 : (Jvm.Cond.code ({ cls := "java/lang/AbstractStringBuilder", name := "length", desc := "()I" } : Jvm.MethodName) jdk_68_method_6_code (1 : Nat) (Option.some Jvm.ClassFile.FieldType.int)).before args0 about1 = true := code_word (m := ⟨19, 2⟩) (meth := k19m2) (c := k19c2) (by decide +kernel) rfl rfl rfl (by decide +kernel)
set_option maxRecDepth 65536 in
theorem w_c30 : (Jvm.Cond.code ({ cls := "java/lang/AbstractStringBuilder", name := "isLatin1", desc := "()Z" } : Jvm.MethodName) jdk_68_method_68_code (1 : Nat) (Option.some Jvm.ClassFile.FieldType.boolean)).before args0 about1 = true := code_word (m := ⟨19, 6⟩) (meth := k19m6) (c := k19c6) (by decide +kernel) rfl rfl rfl (by decide +kernel)
set_option maxRecDepth 65536 in
theorem w_c31 : (Jvm.Cond.code ({ cls := "java/util/Arrays", name := "copyOfRange", desc := "([BII)[B" } : Jvm.MethodName) jdk_65_method_132_code (3 : Nat) (Option.some (Jvm.ClassFile.FieldType.array Jvm.ClassFile.FieldType.byte))).before args0 about1 = true := code_word (m := ⟨22, 2⟩) (meth := k22m2) (c := k22c2) (by decide +kernel) rfl rfl rfl (by decide +kernel)
set_option maxRecDepth 65536 in
theorem w_c32 : (Jvm.Cond.code ({ cls := "java/util/Arrays", name := "copyOfRangeByte", desc := "([BII)[B" } : Jvm.MethodName) jdk_65_method_133_code (5 : Nat) (Option.some (Jvm.ClassFile.FieldType.array Jvm.ClassFile.FieldType.byte))).before args0 about1 = true := code_word (m := ⟨22, 3⟩) (meth := k22m3) (c := k22c3) (by decide +kernel) rfl rfl rfl (by decide +kernel)
set_option maxRecDepth 65536 in
theorem w_c33 : (Jvm.Cond.code ({ cls := "java/util/Arrays", name := "checkLength", desc := "(II)V" } : Jvm.MethodName) jdk_65_method_131_code (2 : Nat) (Option.none : Option Jvm.ClassFile.FieldType)).before args0 about1 = true := code_word (m := ⟨22, 1⟩) (meth := k22m1) (c := k22c1) (by decide +kernel) rfl rfl rfl (by decide +kernel)
set_option maxRecDepth 65536 in
theorem w_c34 : (Jvm.Cond.code ({ cls := "java/lang/Math", name := "min", desc := "(II)I" } : Jvm.MethodName) jdk_29_method_69_code (2 : Nat) (Option.some Jvm.ClassFile.FieldType.int)).before args0 about1 = true := code_word (m := ⟨23, 1⟩) (meth := k23m1) (c := k23c1) (by decide +kernel) rfl rfl rfl (by decide +kernel)
set_option maxRecDepth 65536 in
theorem w_c35 : (Jvm.Cond.code ({ cls := "com/example/scrutineer/scrutineer/ValidationFailureToStringPinLaw", name := "ok", desc := "(Ljava/lang/String;Ljava/lang/String;Ljava/lang/String;I)Z" } : Jvm.MethodName) method_4_code (6 : Nat) (Option.some Jvm.ClassFile.FieldType.boolean)).before args0 about1 = true := code_word (m := ⟨1, 3⟩) (meth := k1m3) (c := k1c3) (by decide +kernel) rfl rfl rfl (by decide +kernel)
set_option maxRecDepth 65536 in
theorem w_c36 : (Jvm.Cond.code ({ cls := "java/lang/String", name := "charAt", desc := "(I)C" } : Jvm.MethodName) jdk_42_method_56_code (2 : Nat) (Option.some Jvm.ClassFile.FieldType.char)).before args0 about1 = true := code_word (m := ⟨7, 4⟩) (meth := k7m4) (c := k7c4) (by decide +kernel) rfl rfl rfl (by decide +kernel)
set_option maxRecDepth 65536 in
theorem w_c37 : (Jvm.Cond.code ({ cls := "java/lang/String", name := "isLatin1", desc := "()Z" } : Jvm.MethodName) jdk_42_method_154_code (1 : Nat) (Option.some Jvm.ClassFile.FieldType.boolean)).before args0 about1 = true := code_word (m := ⟨7, 11⟩) (meth := k7m11) (c := k7c11) (by decide +kernel) rfl rfl rfl (by decide +kernel)
set_option maxRecDepth 65536 in
theorem w_c38 : (Jvm.Cond.code ({ cls := "java/lang/StringLatin1", name := "charAt", desc := "([BI)C" } : Jvm.MethodName) jdk_43_method_2_code (2 : Nat) (Option.some Jvm.ClassFile.FieldType.char)).before args0 about1 = true := code_word (m := ⟨8, 1⟩) (meth := k8m1) (c := k8c1) (by decide +kernel) rfl rfl rfl (by decide +kernel)
set_option maxRecDepth 65536 in
theorem w_c39 : (Jvm.Cond.code ({ cls := "java/lang/String", name := "checkIndex", desc := "(II)V" } : Jvm.MethodName) jdk_42_method_155_code (2 : Nat) (Option.none : Option Jvm.ClassFile.FieldType)).before args0 about1 = true := code_word (m := ⟨7, 12⟩) (meth := k7m12) (c := k7c12) (by decide +kernel) rfl rfl rfl (by decide +kernel)
set_option maxRecDepth 65536 in
theorem w_c40 : (Jvm.Cond.code ({ cls := "jdk/internal/util/Preconditions", name := "checkIndex", desc := "(IILjava/util/function/BiFunction;)I" } : Jvm.MethodName) jdk_41_method_11_code (3 : Nat) (Option.some Jvm.ClassFile.FieldType.int)).before args0 about1 = true := code_word (m := ⟨24, 1⟩) (meth := k24m1) (c := k24c1) (by decide +kernel) rfl rfl rfl (by decide +kernel)
set_option maxRecDepth 65536 in
theorem w_c41 : (Jvm.Cond.code ({ cls := "java/lang/StringUTF16", name := "compress", desc := "([CII)[B" } : Jvm.MethodName) jdk_52_method_16_code (6 : Nat) (Option.some (Jvm.ClassFile.FieldType.array Jvm.ClassFile.FieldType.byte))).before args0 about1 = true := code_word (m := ⟨25, 2⟩) (meth := k25m2) (c := k25c2) (by decide +kernel) rfl rfl rfl (by decide +kernel)
set_option maxRecDepth 65536 in
theorem w_c42 : (Jvm.Cond.code ({ cls := "java/lang/StringUTF16", name := "compress", desc := "([CI[BII)I" } : Jvm.MethodName) jdk_52_method_21_code (7 : Nat) (Option.some Jvm.ClassFile.FieldType.int)).before args0 about1 = true := code_word (m := ⟨25, 3⟩) (meth := k25m3) (c := k25c3) (by decide +kernel) rfl rfl rfl (by decide +kernel)
set_option maxRecDepth 65536 in
theorem w_c43 : (Jvm.Cond.code ({ cls := "java/lang/StringUTF16", name := "coderFromArrayLen", desc := "([BI)B" } : Jvm.MethodName) jdk_52_method_15_code (2 : Nat) (Option.some Jvm.ClassFile.FieldType.byte)).before args0 about1 = true := code_word (m := ⟨25, 1⟩) (meth := k25m1) (c := k25c1) (by decide +kernel) rfl rfl rfl (by decide +kernel)
set_option maxRecDepth 65536 in
theorem w_c44 : (Jvm.Cond.code ({ cls := "java/lang/Integer", name := "<init>", desc := "(I)V" } : Jvm.MethodName) jdk_33_method_23_code (2 : Nat) (Option.none : Option Jvm.ClassFile.FieldType)).before args0 about1 = true := code_word (m := ⟨11, 1⟩) (meth := k11m1) (c := k11c1) (by decide +kernel) rfl rfl rfl (by decide +kernel)
set_option maxRecDepth 65536 in
theorem w_c45 : (Jvm.Cond.code ({ cls := "java/lang/Number", name := "<init>", desc := "()V" } : Jvm.MethodName) jdk_18_method_1_code (1 : Nat) (Option.none : Option Jvm.ClassFile.FieldType)).before args0 about1 = true := code_word (m := ⟨10, 0⟩) (meth := k10m0) (c := k10c0) (by decide +kernel) rfl rfl rfl (by decide +kernel)
def codes1 : List Jvm.Cond := [Jvm.Cond.code x code maxLocals ret, Jvm.Cond.code ({ cls := "com/example/scrutineer/scrutineer/ValidationFailureToStringPinLaw", name := "mk", desc := "(II)Ljava/lang/String;" } : Jvm.MethodName) method_3_code (5 : Nat) (Option.some (Jvm.ClassFile.FieldType.object "java/lang/String")), Jvm.Cond.code ({ cls := "java/lang/String", name := "valueOf", desc := "(C)Ljava/lang/String;" } : Jvm.MethodName) jdk_42_method_139_code (1 : Nat) (Option.some (Jvm.ClassFile.FieldType.object "java/lang/String")), Jvm.Cond.code ({ cls := "java/lang/StringLatin1", name := "canEncode", desc := "(C)Z" } : Jvm.MethodName) jdk_43_method_3_code (1 : Nat) (Option.some Jvm.ClassFile.FieldType.boolean), Jvm.Cond.code ({ cls := "java/lang/StringLatin1", name := "toBytes", desc := "(C)[B" } : Jvm.MethodName) jdk_43_method_46_code (1 : Nat) (Option.some (Jvm.ClassFile.FieldType.array Jvm.ClassFile.FieldType.byte)), Jvm.Cond.code ({ cls := "java/lang/String", name := "<init>", desc := "([BB)V" } : Jvm.MethodName) jdk_42_method_151_code (3 : Nat) (Option.none : Option Jvm.ClassFile.FieldType), Jvm.Cond.code ({ cls := "java/lang/Object", name := "<init>", desc := "()V" } : Jvm.MethodName) object_method_1_code (1 : Nat) (Option.none : Option Jvm.ClassFile.FieldType), Jvm.Cond.code ({ cls := "java/lang/String", name := "<init>", desc := "([C)V" } : Jvm.MethodName) jdk_42_method_3_code (2 : Nat) (Option.none : Option Jvm.ClassFile.FieldType), Jvm.Cond.code ({ cls := "java/lang/String", name := "<init>", desc := "([CIILjava/lang/Void;)V" } : Jvm.MethodName) jdk_42_method_149_code (6 : Nat) (Option.none : Option Jvm.ClassFile.FieldType), Jvm.Cond.code ({ cls := "java/lang/Integer", name := "valueOf", desc := "(I)Ljava/lang/Integer;" } : Jvm.MethodName) jdk_33_method_22_code (1 : Nat) (Option.some (Jvm.ClassFile.FieldType.object "java/lang/Integer")), Jvm.Cond.code ({ cls := "java/util/Map", name := "of", desc := "()Ljava/util/Map;" } : Jvm.MethodName) jdk_72_method_26_code (0 : Nat) (Option.some (Jvm.ClassFile.FieldType.object "java/util/Map")), Jvm.Cond.code ({ cls := "com/example/scrutineer/scrutineer/ValidationFailure", name := "<init>", desc := "(Ljava/lang/String;Ljava/lang/String;Ljava/lang/String;Ljava/lang/String;Ljava/lang/String;ILjava/lang/Object;Ljava/util/Map;Ljava/lang/String;)V" } : Jvm.MethodName) prog_69_method_1_code (10 : Nat) (Option.none : Option Jvm.ClassFile.FieldType), Jvm.Cond.code ({ cls := "java/util/Map", name := "copyOf", desc := "(Ljava/util/Map;)Ljava/util/Map;" } : Jvm.MethodName) jdk_72_method_39_code (1 : Nat) (Option.some (Jvm.ClassFile.FieldType.object "java/util/Map")), Jvm.Cond.code ({ cls := "com/example/scrutineer/scrutineer/ValidationFailure", name := "toString", desc := "()Ljava/lang/String;" } : Jvm.MethodName) prog_69_method_13_code (1 : Nat) (Option.some (Jvm.ClassFile.FieldType.object "java/lang/String")), Jvm.Cond.code ({ cls := "java/lang/StringBuilder", name := "<init>", desc := "()V" } : Jvm.MethodName) jdk_67_method_1_code (1 : Nat) (Option.none : Option Jvm.ClassFile.FieldType), Jvm.Cond.code ({ cls := "java/lang/AbstractStringBuilder", name := "<init>", desc := "(I)V" } : Jvm.MethodName) jdk_68_method_2_code (2 : Nat) (Option.none : Option Jvm.ClassFile.FieldType), Jvm.Cond.code ({ cls := "java/lang/StringBuilder", name := "append", desc := "(Ljava/lang/String;)Ljava/lang/StringBuilder;" } : Jvm.MethodName) jdk_67_method_7_code (2 : Nat) (Option.some (Jvm.ClassFile.FieldType.object "java/lang/StringBuilder")), Jvm.Cond.code ({ cls := "java/lang/AbstractStringBuilder", name := "append", desc := "(Ljava/lang/String;)Ljava/lang/AbstractStringBuilder;" } : Jvm.MethodName) jdk_68_method_22_code (3 : Nat) (Option.some (Jvm.ClassFile.FieldType.object "java/lang/AbstractStringBuilder")), Jvm.Cond.code ({ cls := "java/lang/String", name := "length", desc := "()I" } : Jvm.MethodName) jdk_42_method_54_code (1 : Nat) (Option.some Jvm.ClassFile.FieldType.int), Jvm.Cond.code ({ cls := "java/lang/String", name := "coder", desc := "()B" } : Jvm.MethodName) jdk_42_method_152_code (1 : Nat) (Option.some Jvm.ClassFile.FieldType.byte), Jvm.Cond.code ({ cls := "java/lang/AbstractStringBuilder", name := "ensureCapacityInternal", desc := "(I)V" } : Jvm.MethodName) jdk_68_method_9_code (3 : Nat) (Option.none : Option Jvm.ClassFile.FieldType), Jvm.Cond.code ({ cls := "java/lang/AbstractStringBuilder", name := "putStringAt", desc := "(ILjava/lang/String;)V" } : Jvm.MethodName) jdk_68_method_73_code (3 : Nat) (Option.none : Option Jvm.ClassFile.FieldType), Jvm.Cond.code ({ cls := "java/lang/AbstractStringBuilder", name := "inflateIfNeededFor", desc := "(Ljava/lang/String;)V" } : Jvm.MethodName) jdk_68_method_71_code (2 : Nat) (Option.none : Option Jvm.ClassFile.FieldType), Jvm.Cond.code ({ cls := "java/lang/String", name := "getBytes", desc := "([BIB)V" } : Jvm.MethodName) jdk_42_method_147_code (4 : Nat) (Option.none : Option Jvm.ClassFile.FieldType), Jvm.Cond.code ({ cls := "java/lang/StringBuilder", name := "toString", desc := "()Ljava/lang/String;" } : Jvm.MethodName) jdk_67_method_42_code (1 : Nat) (Option.some (Jvm.ClassFile.FieldType.object "java/lang/String")), Jvm.Cond.code ({ cls := "java/lang/String", name := "<init>", desc := "(Ljava/lang/StringBuilder;)V" } : Jvm.MethodName) jdk_42_method_53_code (2 : Nat) (Option.none : Option Jvm.ClassFile.FieldType), Jvm.Cond.code ({ cls := "java/lang/String", name := "<init>", desc := "(Ljava/lang/AbstractStringBuilder;Ljava/lang/Void;)V" } : Jvm.MethodName) jdk_42_method_150_code (5 : Nat) (Option.none : Option Jvm.ClassFile.FieldType), Jvm.Cond.code ({ cls := "java/lang/AbstractStringBuilder", name := "getValue", desc := "()[B" } : Jvm.MethodName) jdk_68_method_64_code (1 : Nat) (Option.some (Jvm.ClassFile.FieldType.array Jvm.ClassFile.FieldType.byte)), Jvm.Cond.code ({ cls := "java/lang/StringBuilder", name := "length", desc := "()I" } : Jvm.MethodName) jdk_67_method_93_code (1 : Nat) (Option.some Jvm.ClassFile.FieldType.int), Jvm.Cond.code ({ cls := "java/lang/AbstractStringBuilder", name := "length", desc := "()I" } : Jvm.MethodName) jdk_68_method_6_code (1 : Nat) (Option.some Jvm.ClassFile.FieldType.int), Jvm.Cond.code ({ cls := "java/lang/AbstractStringBuilder", name := "isLatin1", desc := "()Z" } : Jvm.MethodName) jdk_68_method_68_code (1 : Nat) (Option.some Jvm.ClassFile.FieldType.boolean), Jvm.Cond.code ({ cls := "java/util/Arrays", name := "copyOfRange", desc := "([BII)[B" } : Jvm.MethodName) jdk_65_method_132_code (3 : Nat) (Option.some (Jvm.ClassFile.FieldType.array Jvm.ClassFile.FieldType.byte)), Jvm.Cond.code ({ cls := "java/util/Arrays", name := "copyOfRangeByte", desc := "([BII)[B" } : Jvm.MethodName) jdk_65_method_133_code (5 : Nat) (Option.some (Jvm.ClassFile.FieldType.array Jvm.ClassFile.FieldType.byte)), Jvm.Cond.code ({ cls := "java/util/Arrays", name := "checkLength", desc := "(II)V" } : Jvm.MethodName) jdk_65_method_131_code (2 : Nat) (Option.none : Option Jvm.ClassFile.FieldType), Jvm.Cond.code ({ cls := "java/lang/Math", name := "min", desc := "(II)I" } : Jvm.MethodName) jdk_29_method_69_code (2 : Nat) (Option.some Jvm.ClassFile.FieldType.int), Jvm.Cond.code ({ cls := "com/example/scrutineer/scrutineer/ValidationFailureToStringPinLaw", name := "ok", desc := "(Ljava/lang/String;Ljava/lang/String;Ljava/lang/String;I)Z" } : Jvm.MethodName) method_4_code (6 : Nat) (Option.some Jvm.ClassFile.FieldType.boolean), Jvm.Cond.code ({ cls := "java/lang/String", name := "charAt", desc := "(I)C" } : Jvm.MethodName) jdk_42_method_56_code (2 : Nat) (Option.some Jvm.ClassFile.FieldType.char), Jvm.Cond.code ({ cls := "java/lang/String", name := "isLatin1", desc := "()Z" } : Jvm.MethodName) jdk_42_method_154_code (1 : Nat) (Option.some Jvm.ClassFile.FieldType.boolean), Jvm.Cond.code ({ cls := "java/lang/StringLatin1", name := "charAt", desc := "([BI)C" } : Jvm.MethodName) jdk_43_method_2_code (2 : Nat) (Option.some Jvm.ClassFile.FieldType.char), Jvm.Cond.code ({ cls := "java/lang/String", name := "checkIndex", desc := "(II)V" } : Jvm.MethodName) jdk_42_method_155_code (2 : Nat) (Option.none : Option Jvm.ClassFile.FieldType), Jvm.Cond.code ({ cls := "jdk/internal/util/Preconditions", name := "checkIndex", desc := "(IILjava/util/function/BiFunction;)I" } : Jvm.MethodName) jdk_41_method_11_code (3 : Nat) (Option.some Jvm.ClassFile.FieldType.int), Jvm.Cond.code ({ cls := "java/lang/StringUTF16", name := "compress", desc := "([CII)[B" } : Jvm.MethodName) jdk_52_method_16_code (6 : Nat) (Option.some (Jvm.ClassFile.FieldType.array Jvm.ClassFile.FieldType.byte)), Jvm.Cond.code ({ cls := "java/lang/StringUTF16", name := "compress", desc := "([CI[BII)I" } : Jvm.MethodName) jdk_52_method_21_code (7 : Nat) (Option.some Jvm.ClassFile.FieldType.int), Jvm.Cond.code ({ cls := "java/lang/StringUTF16", name := "coderFromArrayLen", desc := "([BI)B" } : Jvm.MethodName) jdk_52_method_15_code (2 : Nat) (Option.some Jvm.ClassFile.FieldType.byte), Jvm.Cond.code ({ cls := "java/lang/Integer", name := "<init>", desc := "(I)V" } : Jvm.MethodName) jdk_33_method_23_code (2 : Nat) (Option.none : Option Jvm.ClassFile.FieldType), Jvm.Cond.code ({ cls := "java/lang/Number", name := "<init>", desc := "()V" } : Jvm.MethodName) jdk_18_method_1_code (1 : Nat) (Option.none : Option Jvm.ClassFile.FieldType)]
set_option maxRecDepth 65536 in
theorem codes_eq : words1.filter isCode = codes1 := rfl
theorem w_codes : ∀ c ∈ words1.filter isCode, c.before args0 about1 = true := by
  rw [codes_eq]
  intro c hc
  simp only [codes1, List.mem_cons, List.not_mem_nil, or_false] at hc
  rcases hc with rfl | rfl | rfl | rfl | rfl | rfl | rfl | rfl | rfl | rfl | rfl | rfl | rfl | rfl | rfl | rfl | rfl | rfl | rfl | rfl | rfl | rfl | rfl | rfl | rfl | rfl | rfl | rfl | rfl | rfl | rfl | rfl | rfl | rfl | rfl | rfl | rfl | rfl | rfl | rfl | rfl | rfl | rfl | rfl | rfl | rfl
  · exact w_c0
  · exact w_c1
  · exact w_c2
  · exact w_c3
  · exact w_c4
  · exact w_c5
  · exact w_c6
  · exact w_c7
  · exact w_c8
  · exact w_c9
  · exact w_c10
  · exact w_c11
  · exact w_c12
  · exact w_c13
  · exact w_c14
  · exact w_c15
  · exact w_c16
  · exact w_c17
  · exact w_c18
  · exact w_c19
  · exact w_c20
  · exact w_c21
  · exact w_c22
  · exact w_c23
  · exact w_c24
  · exact w_c25
  · exact w_c26
  · exact w_c27
  · exact w_c28
  · exact w_c29
  · exact w_c30
  · exact w_c31
  · exact w_c32
  · exact w_c33
  · exact w_c34
  · exact w_c35
  · exact w_c36
  · exact w_c37
  · exact w_c38
  · exact w_c39
  · exact w_c40
  · exact w_c41
  · exact w_c42
  · exact w_c43
  · exact w_c44
  · exact w_c45
set_option maxRecDepth 65536 in
theorem w_t1 : (words1.take 24).all (fun c => isCode c || c.before args0 about1) = true := by decide +kernel
set_option maxRecDepth 65536 in
theorem w_t2 : ((words1.drop 24).take 24).all (fun c => isCode c || c.before args0 about1) = true := by decide +kernel
set_option maxRecDepth 65536 in
theorem w_t3 : (((words1.drop 24).drop 24).take 24).all (fun c => isCode c || c.before args0 about1) = true := by decide +kernel
set_option maxRecDepth 65536 in
theorem w_t4 : ((((words1.drop 24).drop 24).drop 24).take 24).all (fun c => isCode c || c.before args0 about1) = true := by decide +kernel
set_option maxRecDepth 65536 in
theorem w_t5 : (((((words1.drop 24).drop 24).drop 24).drop 24).take 24).all (fun c => isCode c || c.before args0 about1) = true := by decide +kernel
set_option maxRecDepth 65536 in
theorem w_t6 : ((((((words1.drop 24).drop 24).drop 24).drop 24).drop 24).take 24).all (fun c => isCode c || c.before args0 about1) = true := by decide +kernel
set_option maxRecDepth 65536 in
theorem w_t7 : (((((((words1.drop 24).drop 24).drop 24).drop 24).drop 24).drop 24).take 24).all (fun c => isCode c || c.before args0 about1) = true := by decide +kernel
set_option maxRecDepth 65536 in
theorem w_t8 : ((((((((words1.drop 24).drop 24).drop 24).drop 24).drop 24).drop 24).drop 24).take 24).all (fun c => isCode c || c.before args0 about1) = true := by decide +kernel
set_option maxRecDepth 65536 in
theorem w_t9 : (((((((((words1.drop 24).drop 24).drop 24).drop 24).drop 24).drop 24).drop 24).drop 24).take 24).all (fun c => isCode c || c.before args0 about1) = true := by decide +kernel
set_option maxRecDepth 65536 in
theorem w_t10 : ((((((((((words1.drop 24).drop 24).drop 24).drop 24).drop 24).drop 24).drop 24).drop 24).drop 24).take 24).all (fun c => isCode c || c.before args0 about1) = true := by decide +kernel
set_option maxRecDepth 65536 in
theorem w_t11 : ((((((((((words1.drop 24).drop 24).drop 24).drop 24).drop 24).drop 24).drop 24).drop 24).drop 24).drop 24).all (fun c => isCode c || c.before args0 about1) = true := by decide +kernel
theorem w_tables : (allAtoms (Jvm.Cond.code x code maxLocals ret :: tables_1)).before args0 about1 = true := by
  rw [allAtoms_all]
  show words1.all (fun c => c.before args0 about1) = true
  refine all_split ?_ w_codes
  rw [← List.take_append_drop 24 words1, List.all_append, w_t1, ← List.take_append_drop 24 (words1.drop 24), List.all_append, w_t2, ← List.take_append_drop 24 ((words1.drop 24).drop 24), List.all_append, w_t3, ← List.take_append_drop 24 (((words1.drop 24).drop 24).drop 24), List.all_append, w_t4, ← List.take_append_drop 24 ((((words1.drop 24).drop 24).drop 24).drop 24), List.all_append, w_t5, ← List.take_append_drop 24 (((((words1.drop 24).drop 24).drop 24).drop 24).drop 24), List.all_append, w_t6, ← List.take_append_drop 24 ((((((words1.drop 24).drop 24).drop 24).drop 24).drop 24).drop 24), List.all_append, w_t7, ← List.take_append_drop 24 (((((((words1.drop 24).drop 24).drop 24).drop 24).drop 24).drop 24).drop 24), List.all_append, w_t8, ← List.take_append_drop 24 ((((((((words1.drop 24).drop 24).drop 24).drop 24).drop 24).drop 24).drop 24).drop 24), List.all_append, w_t9, ← List.take_append_drop 24 (((((((((words1.drop 24).drop 24).drop 24).drop 24).drop 24).drop 24).drop 24).drop 24).drop 24), List.all_append, w_t10, w_t11]
  rfl
set_option maxRecDepth 65536 in
theorem w_rest : rest_1_c.before args0 about1 = true := by decide +kernel
set_option maxRecDepth 65536 in
theorem w_case : (Jvm.Cond.and given_1 narrow_1).before args0 about1 = true := by decide +kernel
set_option maxRecDepth 65536 in
theorem w_consts : constsHeld consts_1 about1 := Jvm.Lit.constsHeldB_iff.mp (by decide +kernel)
theorem w_applies : (headSpec (Jvm.Cond.code x code maxLocals ret :: tables_1) room_1).applies x e0.platform about1 = true :=
  (Spec.applies_iff w_frames).mpr ⟨w_running, w_runnable, w_alone, w_named, w_hears, w_ripe, w_room, w_tables⟩
theorem atStart : AtStart classFile x code maxLocals ret World_1 tables_1 room_1 Calls_1 rest_1 Pre_1 launch0 p0 e0 about1 theMethod args0 below0 :=
  ⟨lists_1, trivial, launch0.admits_env _ _ _, launch0.least_env, fairChoices_fair.cas, fairChoices_fair.clock, w_frames, w_args, w_heap, w_applies, ⟨w_consts, trivial⟩, w_rest, w_case⟩
end start1
theorem witness_1 : WitnessClaimed_1 := ⟨start1.p0, start1.e0, start1.about1, start1.theMethod, start1.args0, start1.below0, start1.atStart⟩
end Jvm.Pilot.@@N@@
