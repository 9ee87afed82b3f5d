import JvmDerived
import JvmDerived.Pilot.@@N@@Statement
import JvmDerived.Pilot.@@N@@Code
set_option linter.unusedVariables false
set_option linter.unusedSimpArgs false
namespace Jvm.Pilot.@@N@@
open Jvm Jvm.ClassFile Sem Op Lib Jvm.Free Jvm.Stand Jvm.LawKit Jvm.RoadKit Bundle Jvm.Pilot.@@N@@.Jvm.D
section Own
variable {p : Program} {l : Launch} {e : Env} {R : Room} {s : State} {m : MethodId} {args : Array Value} {below : List Frame} {meth : Method} {c : Code} {T : State} {locs : List Loc} {cells slots : Nat} {Q : Option Value → Heap → List Loc → Prop} {rc rs : Nat} {G : Outcome → State → Prop} {Ls : Array Slot} {st : List Value} {Z : State} {a0 : Array Value} {h : Heap} {pc : Nat}
/-- what is left of a body's walk: from U it comes to its end, of which G holds -/
def OwnW (p : Program) (e : Env) (below : List Frame) (G : Outcome → State → Prop) (U : State) : Prop :=
  ∃ s₂ o, Steps p.tables e below U s₂ ∧ s₂.status = .running ∧ Ended s₂ below o ∧ G o s₂
/-- it returned, Q holds of what it returned, the heap and the written places; the frame -/
def OwnG (s : State) (Q : Option Value → Heap → List Loc → Prop) (rc rs : Nat) (o : Outcome) (t : State) : Prop := ∃ v L, o = .returned v ∧ Q v t.heap L ∧ FrameEnd s o t L rc rs
theorem OwnW.go {U V : State} (k : OwnW p e below G V) (st : ∀ t, Steps p.tables e below V t → Steps p.tables e below U t) : OwnW p e below G U := by
  obtain ⟨s₂, o, h1, h2⟩ := k
  exact ⟨s₂, o, st _ h1, h2⟩
theorem OwnW.tr {U V : State} (k : OwnW p e below G V) (st : Steps p.tables e below U V) : OwnW p e below G U := k.go fun _ h => st.trans h
theorem own_aload (X : Stand p l e R s m args below meth c T locs cells slots) (hx : p.tables.exec = Jvm.exec) {k : Nat} {v : Value} (hd : decode c.code pc = .ok (.aload k, 2)) (hl : Ls[k]? = some (.val v)) (hv : v.isRef = true) (pc' : Nat) (hp : pc + 2 = pc')
    (K : OwnW p e below G (T.setTop (mkF m pc' Ls (v :: st)))) : OwnW p e below G (T.setTop (mkF m pc Ls st)) := by
  subst hp; exact K.go fun _ k => XS.aload X.here hx rfl hd hl hv k
theorem own_aloadN (X : Stand p l e R s m args below meth c T locs cells slots) (hx : p.tables.exec = Jvm.exec) {k : Fin 4} {v : Value} (hd : decode c.code pc = .ok (.aload_n k, 1)) (hl : Ls[k.val]? = some (.val v)) (hv : v.isRef = true) (pc' : Nat) (hp : pc + 1 = pc')
    (K : OwnW p e below G (T.setTop (mkF m pc' Ls (v :: st)))) : OwnW p e below G (T.setTop (mkF m pc Ls st)) := by
  subst hp; exact K.go fun _ k => XS.aloadN X.here hx rfl hd hl hv k
theorem own_iload (X : Stand p l e R s m args below meth c T locs cells slots) (hx : p.tables.exec = Jvm.exec) {k : Nat} {v : Int32} (hd : decode c.code pc = .ok (.iload k, 2)) (hl : Ls[k]? = some (.val (.int v))) (pc' : Nat) (hp : pc + 2 = pc')
    (K : OwnW p e below G (T.setTop (mkF m pc' Ls (.int v :: st)))) : OwnW p e below G (T.setTop (mkF m pc Ls st)) := by
  subst hp; exact K.go fun _ k => XS.iload X.here hx rfl hd hl k
theorem own_iloadN (X : Stand p l e R s m args below meth c T locs cells slots) (hx : p.tables.exec = Jvm.exec) {k : Fin 4} {v : Int32} (hd : decode c.code pc = .ok (.iload_n k, 1)) (hl : Ls[k.val]? = some (.val (.int v))) (pc' : Nat) (hp : pc + 1 = pc')
    (K : OwnW p e below G (T.setTop (mkF m pc' Ls (.int v :: st)))) : OwnW p e below G (T.setTop (mkF m pc Ls st)) := by
  subst hp; exact K.go fun _ k => XS.iloadN X.here hx rfl hd hl k
theorem own_lload (X : Stand p l e R s m args below meth c T locs cells slots) (hx : p.tables.exec = Jvm.exec) {k : Nat} {v : Int64} (hd : decode c.code pc = .ok (.lload k, 2)) (hl : Ls[k]? = some (.val (.long v))) (pc' : Nat) (hp : pc + 2 = pc')
    (K : OwnW p e below G (T.setTop (mkF m pc' Ls (.long v :: st)))) : OwnW p e below G (T.setTop (mkF m pc Ls st)) := by
  subst hp; exact K.go fun _ k => XS.lload X.here hx rfl hd hl k
theorem own_lloadN (X : Stand p l e R s m args below meth c T locs cells slots) (hx : p.tables.exec = Jvm.exec) {k : Fin 4} {v : Int64} (hd : decode c.code pc = .ok (.lload_n k, 1)) (hl : Ls[k.val]? = some (.val (.long v))) (pc' : Nat) (hp : pc + 1 = pc')
    (K : OwnW p e below G (T.setTop (mkF m pc' Ls (.long v :: st)))) : OwnW p e below G (T.setTop (mkF m pc Ls st)) := by
  subst hp; exact K.go fun _ k => XS.lloadN X.here hx rfl hd hl k
theorem own_istore (X : Stand p l e R s m args below meth c T locs cells slots) (hx : p.tables.exec = Jvm.exec) {k : Nat} {x : Int32} (hd : decode c.code pc = .ok (.istore k, 2)) (Ls' : Array Slot) (hl : storeLocals Ls k (.int x) = some Ls') (pc' : Nat) (hp : pc + 2 = pc')
    (K : OwnW p e below G (T.setTop (mkF m pc' Ls' st))) : OwnW p e below G (T.setTop (mkF m pc Ls (.int x :: st))) := by
  subst hp; exact K.go fun _ k => XS.istore X.here hx rfl hd rfl hl k
theorem own_istoreN (X : Stand p l e R s m args below meth c T locs cells slots) (hx : p.tables.exec = Jvm.exec) {k : Fin 4} {x : Int32} (hd : decode c.code pc = .ok (.istore_n k, 1)) (Ls' : Array Slot) (hl : storeLocals Ls k.val (.int x) = some Ls') (pc' : Nat) (hp : pc + 1 = pc')
    (K : OwnW p e below G (T.setTop (mkF m pc' Ls' st))) : OwnW p e below G (T.setTop (mkF m pc Ls (.int x :: st))) := by
  subst hp; exact K.go fun _ k => XS.istoreN X.here hx rfl hd rfl hl k
theorem own_lstore (X : Stand p l e R s m args below meth c T locs cells slots) (hx : p.tables.exec = Jvm.exec) {k : Nat} {x : Int64} (hd : decode c.code pc = .ok (.lstore k, 2)) (Ls' : Array Slot) (hl : storeLocals Ls k (.long x) = some Ls') (pc' : Nat) (hp : pc + 2 = pc')
    (K : OwnW p e below G (T.setTop (mkF m pc' Ls' st))) : OwnW p e below G (T.setTop (mkF m pc Ls (.long x :: st))) := by
  subst hp; exact K.go fun _ k => XS.lstore X.here hx rfl hd rfl hl k
theorem own_lstoreN (X : Stand p l e R s m args below meth c T locs cells slots) (hx : p.tables.exec = Jvm.exec) {k : Fin 4} {x : Int64} (hd : decode c.code pc = .ok (.lstore_n k, 1)) (Ls' : Array Slot) (hl : storeLocals Ls k.val (.long x) = some Ls') (pc' : Nat) (hp : pc + 1 = pc')
    (K : OwnW p e below G (T.setTop (mkF m pc' Ls' st))) : OwnW p e below G (T.setTop (mkF m pc Ls (.long x :: st))) := by
  subst hp; exact K.go fun _ k => XS.lstoreN X.here hx rfl hd rfl hl k
theorem own_astore (X : Stand p l e R s m args below meth c T locs cells slots) (hx : p.tables.exec = Jvm.exec) {k : Nat} {x : Value} (hd : decode c.code pc = .ok (.astore k, 2)) (hv : x.isRef = true) (Ls' : Array Slot) (hl : storeLocals Ls k x = some Ls') (pc' : Nat) (hp : pc + 2 = pc')
    (K : OwnW p e below G (T.setTop (mkF m pc' Ls' st))) : OwnW p e below G (T.setTop (mkF m pc Ls (x :: st))) := by
  subst hp; exact K.go fun _ k => XS.astore X.here hx rfl hd rfl hv hl k
theorem own_astoreN (X : Stand p l e R s m args below meth c T locs cells slots) (hx : p.tables.exec = Jvm.exec) {k : Fin 4} {x : Value} (hd : decode c.code pc = .ok (.astore_n k, 1)) (hv : x.isRef = true) (Ls' : Array Slot) (hl : storeLocals Ls k.val x = some Ls') (pc' : Nat) (hp : pc + 1 = pc')
    (K : OwnW p e below G (T.setTop (mkF m pc' Ls' st))) : OwnW p e below G (T.setTop (mkF m pc Ls (x :: st))) := by
  subst hp; exact K.go fun _ k => XS.astoreN X.here hx rfl hd rfl hv hl k
theorem own_iinc (X : Stand p l e R s m args below meth c T locs cells slots) (hx : p.tables.exec = Jvm.exec) {k : Nat} {cst : Int} {x : Int32} (hd : decode c.code pc = .ok (.iinc k cst, 3)) (hl : Ls[k]? = some (.val (.int x))) (Ls' : Array Slot) (hl' : storeLocals Ls k (.int (x + Int32.ofInt cst)) = some Ls') (pc' : Nat) (hp : pc + 3 = pc')
    (K : OwnW p e below G (T.setTop (mkF m pc' Ls' st))) : OwnW p e below G (T.setTop (mkF m pc Ls st)) := by
  subst hp; exact K.go fun _ k => XS.iinc X.here hx rfl hd hl hl' k
theorem own_iconst (X : Stand p l e R s m args below meth c T locs cells slots) (hx : p.tables.exec = Jvm.exec) {i : Int} (hd : decode c.code pc = .ok (.iconst i, 1)) (v : Int32) (hv : Int32.ofInt i = v) (pc' : Nat) (hp : pc + 1 = pc')
    (K : OwnW p e below G (T.setTop (mkF m pc' Ls (.int v :: st)))) : OwnW p e below G (T.setTop (mkF m pc Ls st)) := by
  subst hp hv; exact K.go fun _ k => XS.iconst X.here hx rfl hd k
theorem own_bipush (X : Stand p l e R s m args below meth c T locs cells slots) (hx : p.tables.exec = Jvm.exec) {i : Int} (hd : decode c.code pc = .ok (.bipush i, 2)) (v : Int32) (hv : (Int8.ofInt i).toInt32 = v) (pc' : Nat) (hp : pc + 2 = pc')
    (K : OwnW p e below G (T.setTop (mkF m pc' Ls (.int v :: st)))) : OwnW p e below G (T.setTop (mkF m pc Ls st)) := by
  subst hp hv; exact K.go fun _ k => XS.bipush X.here hx rfl hd k
theorem own_sipush (X : Stand p l e R s m args below meth c T locs cells slots) (hx : p.tables.exec = Jvm.exec) {i : Int} (hd : decode c.code pc = .ok (.sipush i, 3)) (v : Int32) (hv : (Int16.ofInt i).toInt32 = v) (pc' : Nat) (hp : pc + 3 = pc')
    (K : OwnW p e below G (T.setTop (mkF m pc' Ls (.int v :: st)))) : OwnW p e below G (T.setTop (mkF m pc Ls st)) := by
  subst hp hv; exact K.go fun _ k => XS.sipush X.here hx rfl hd k
theorem own_lconst0 (X : Stand p l e R s m args below meth c T locs cells slots) (hx : p.tables.exec = Jvm.exec) (hd : decode c.code pc = .ok (.lconst 0, 1)) (pc' : Nat) (hp : pc + 1 = pc')
    (K : OwnW p e below G (T.setTop (mkF m pc' Ls (.long (0 : Int64) :: st)))) : OwnW p e below G (T.setTop (mkF m pc Ls st)) := by
  subst hp; exact K.go fun _ k => XS.lconst X.here hx rfl hd k
theorem own_lconst1 (X : Stand p l e R s m args below meth c T locs cells slots) (hx : p.tables.exec = Jvm.exec) (hd : decode c.code pc = .ok (.lconst 1, 1)) (pc' : Nat) (hp : pc + 1 = pc')
    (K : OwnW p e below G (T.setTop (mkF m pc' Ls (.long (1 : Int64) :: st)))) : OwnW p e below G (T.setTop (mkF m pc Ls st)) := by
  subst hp; exact K.go fun _ k => XS.lconst X.here hx rfl hd k
theorem own_null (X : Stand p l e R s m args below meth c T locs cells slots) (hx : p.tables.exec = Jvm.exec) (hd : decode c.code pc = .ok (.aconst_null, 1)) (pc' : Nat) (hp : pc + 1 = pc')
    (K : OwnW p e below G (T.setTop (mkF m pc' Ls (.null :: st)))) : OwnW p e below G (T.setTop (mkF m pc Ls st)) := by
  subst hp; exact K.go fun _ k => XS.aconstNull X.here hx rfl hd k
theorem own_ldcI (X : Stand p l e R s m args below meth c T locs cells slots) (hx : p.tables.exec = Jvm.exec) (hZ : Z.Warmed39 s.vm) {own : String} {index : Nat} {v : Int32} (hown : s.vm.findClass own = some m.cls) (w : (Cond.constant own index v).before a0 Z = true) (hd : decode c.code pc = .ok (.ldc index, 2)) (pc' : Nat) (hp : pc + 2 = pc')
    (K : OwnW p e below G (T.setTop (mkF m pc' Ls (.int v :: st)))) : OwnW p e below G (T.setTop (mkF m pc Ls st)) := by
  subst hp; exact K.go (X.ldcInt hx hown (mvT hZ w) (g := mkF m pc Ls st) rfl hd)
theorem own_ldcJ (X : Stand p l e R s m args below meth c T locs cells slots) (hx : p.tables.exec = Jvm.exec) (hZ : Z.Warmed39 s.vm) {own : String} {index : Nat} {v : Int64} (hown : s.vm.findClass own = some m.cls) (w : (Cond.constantLong own index v).before a0 Z = true) (hd : decode c.code pc = .ok (.ldc2_w index, 3)) (pc' : Nat) (hp : pc + 3 = pc')
    (K : OwnW p e below G (T.setTop (mkF m pc' Ls (.long v :: st)))) : OwnW p e below G (T.setTop (mkF m pc Ls st)) := by
  subst hp; exact K.go (X.ldc2Long hx hown (mvT hZ w) (g := mkF m pc Ls st) rfl hd)
theorem own_irem (X : Stand p l e R s m args below meth c T locs cells slots) (hx : p.tables.exec = Jvm.exec) {x y : Int32} (hd : decode c.code pc = .ok (.irem, 1)) (hy : y ≠ 0) (pc' : Nat) (hp : pc + 1 = pc')
    (K : OwnW p e below G (T.setTop (mkF m pc' Ls (.int (x % y) :: st)))) : OwnW p e below G (T.setTop (mkF m pc Ls (.int y :: .int x :: st))) := by
  subst hp; exact K.go fun _ k => iremM X hx rfl hd rfl hy k
theorem own_iadd (X : Stand p l e R s m args below meth c T locs cells slots) (hx : p.tables.exec = Jvm.exec) {x y : Int32} (hd : decode c.code pc = .ok (.iadd, 1)) (pc' : Nat) (hp : pc + 1 = pc')
    (K : OwnW p e below G (T.setTop (mkF m pc' Ls (.int (x + y) :: st)))) : OwnW p e below G (T.setTop (mkF m pc Ls (.int y :: .int x :: st))) := by
  subst hp; exact K.go fun _ k => XS.iadd X.here hx rfl hd rfl k
theorem own_isub (X : Stand p l e R s m args below meth c T locs cells slots) (hx : p.tables.exec = Jvm.exec) {x y : Int32} (hd : decode c.code pc = .ok (.isub, 1)) (pc' : Nat) (hp : pc + 1 = pc')
    (K : OwnW p e below G (T.setTop (mkF m pc' Ls (.int (x - y) :: st)))) : OwnW p e below G (T.setTop (mkF m pc Ls (.int y :: .int x :: st))) := by
  subst hp; exact K.go fun _ k => XS.isub X.here hx rfl hd rfl k
theorem own_imul (X : Stand p l e R s m args below meth c T locs cells slots) (hx : p.tables.exec = Jvm.exec) {x y : Int32} (hd : decode c.code pc = .ok (.imul, 1)) (pc' : Nat) (hp : pc + 1 = pc')
    (K : OwnW p e below G (T.setTop (mkF m pc' Ls (.int (x * y) :: st)))) : OwnW p e below G (T.setTop (mkF m pc Ls (.int y :: .int x :: st))) := by
  subst hp; exact K.go fun _ k => XS.imul X.here hx rfl hd rfl k
theorem own_iand (X : Stand p l e R s m args below meth c T locs cells slots) (hx : p.tables.exec = Jvm.exec) {x y : Int32} (hd : decode c.code pc = .ok (.iand, 1)) (pc' : Nat) (hp : pc + 1 = pc')
    (K : OwnW p e below G (T.setTop (mkF m pc' Ls (.int (x &&& y) :: st)))) : OwnW p e below G (T.setTop (mkF m pc Ls (.int y :: .int x :: st))) := by
  subst hp; exact K.go fun _ k => XS.iand X.here hx rfl hd rfl k
theorem own_ior (X : Stand p l e R s m args below meth c T locs cells slots) (hx : p.tables.exec = Jvm.exec) {x y : Int32} (hd : decode c.code pc = .ok (.ior, 1)) (pc' : Nat) (hp : pc + 1 = pc')
    (K : OwnW p e below G (T.setTop (mkF m pc' Ls (.int (x ||| y) :: st)))) : OwnW p e below G (T.setTop (mkF m pc Ls (.int y :: .int x :: st))) := by
  subst hp; exact K.go fun _ k => XS.ior X.here hx rfl hd rfl k
theorem own_ixor (X : Stand p l e R s m args below meth c T locs cells slots) (hx : p.tables.exec = Jvm.exec) {x y : Int32} (hd : decode c.code pc = .ok (.ixor, 1)) (pc' : Nat) (hp : pc + 1 = pc')
    (K : OwnW p e below G (T.setTop (mkF m pc' Ls (.int (x ^^^ y) :: st)))) : OwnW p e below G (T.setTop (mkF m pc Ls (.int y :: .int x :: st))) := by
  subst hp; exact K.go fun _ k => XS.ixor X.here hx rfl hd rfl k
theorem own_ladd (X : Stand p l e R s m args below meth c T locs cells slots) (hx : p.tables.exec = Jvm.exec) {x y : Int64} (hd : decode c.code pc = .ok (.ladd, 1)) (pc' : Nat) (hp : pc + 1 = pc')
    (K : OwnW p e below G (T.setTop (mkF m pc' Ls (.long (x + y) :: st)))) : OwnW p e below G (T.setTop (mkF m pc Ls (.long y :: .long x :: st))) := by
  subst hp; exact K.go fun _ k => XS.ladd X.here hx rfl hd rfl k
theorem own_lsub (X : Stand p l e R s m args below meth c T locs cells slots) (hx : p.tables.exec = Jvm.exec) {x y : Int64} (hd : decode c.code pc = .ok (.lsub, 1)) (pc' : Nat) (hp : pc + 1 = pc')
    (K : OwnW p e below G (T.setTop (mkF m pc' Ls (.long (x - y) :: st)))) : OwnW p e below G (T.setTop (mkF m pc Ls (.long y :: .long x :: st))) := by
  subst hp; exact K.go fun _ k => XS.lsub X.here hx rfl hd rfl k
theorem own_lmul (X : Stand p l e R s m args below meth c T locs cells slots) (hx : p.tables.exec = Jvm.exec) {x y : Int64} (hd : decode c.code pc = .ok (.lmul, 1)) (pc' : Nat) (hp : pc + 1 = pc')
    (K : OwnW p e below G (T.setTop (mkF m pc' Ls (.long (x * y) :: st)))) : OwnW p e below G (T.setTop (mkF m pc Ls (.long y :: .long x :: st))) := by
  subst hp; exact K.go fun _ k => XS.lmul X.here hx rfl hd rfl k
theorem own_iushr (X : Stand p l e R s m args below meth c T locs cells slots) (hx : p.tables.exec = Jvm.exec) {x y : Int32} (hd : decode c.code pc = .ok (.iushr, 1)) (pc' : Nat) (hp : pc + 1 = pc')
    (K : OwnW p e below G (T.setTop (mkF m pc' Ls (.int ((x.toUInt32 >>> (y &&& 31).toUInt32).toInt32) :: st)))) : OwnW p e below G (T.setTop (mkF m pc Ls (.int y :: .int x :: st))) := by
  subst hp; exact K.go fun _ k => XS.iushr X.here hx rfl hd rfl k
theorem own_i2l (X : Stand p l e R s m args below meth c T locs cells slots) (hx : p.tables.exec = Jvm.exec) {x : Int32} (hd : decode c.code pc = .ok (.i2l, 1)) (pc' : Nat) (hp : pc + 1 = pc')
    (K : OwnW p e below G (T.setTop (mkF m pc' Ls (.long x.toInt64 :: st)))) : OwnW p e below G (T.setTop (mkF m pc Ls (.int x :: st))) := by
  subst hp; exact K.go fun _ k => XS.i2l X.here hx rfl hd rfl k
theorem own_l2i (X : Stand p l e R s m args below meth c T locs cells slots) (hx : p.tables.exec = Jvm.exec) {x : Int64} (hd : decode c.code pc = .ok (.l2i, 1)) (pc' : Nat) (hp : pc + 1 = pc')
    (K : OwnW p e below G (T.setTop (mkF m pc' Ls (.int x.toInt32 :: st)))) : OwnW p e below G (T.setTop (mkF m pc Ls (.long x :: st))) := by
  subst hp; exact K.go fun _ k => XS.l2i X.here hx rfl hd rfl k
theorem own_lcmp (X : Stand p l e R s m args below meth c T locs cells slots) (hx : p.tables.exec = Jvm.exec) {x y : Int64} (hd : decode c.code pc = .ok (.lcmp, 1)) (pc' : Nat) (hp : pc + 1 = pc')
    (K : OwnW p e below G (T.setTop (mkF m pc' Ls (.int (lcmpW x y) :: st)))) : OwnW p e below G (T.setTop (mkF m pc Ls (.long y :: .long x :: st))) := by
  subst hp; exact K.go fun _ k => XS.lcmp X.here hx rfl hd rfl k
theorem own_dup (X : Stand p l e R s m args below meth c T locs cells slots) (hx : p.tables.exec = Jvm.exec) {x : Value} (hd : decode c.code pc = .ok (.dup, 1)) (hc : x.category = 1) (pc' : Nat) (hp : pc + 1 = pc')
    (K : OwnW p e below G (T.setTop (mkF m pc' Ls (x :: x :: st)))) : OwnW p e below G (T.setTop (mkF m pc Ls (x :: st))) := by
  subst hp; exact K.go fun _ k => XS.dup X.here hx rfl hd rfl hc k
theorem own_dup2 (X : Stand p l e R s m args below meth c T locs cells slots) (hx : p.tables.exec = Jvm.exec) {x y : Value} (hd : decode c.code pc = .ok (.dup2, 1)) (hc : x.category = 1) (hc' : y.category = 1) (pc' : Nat) (hp : pc + 1 = pc')
    (K : OwnW p e below G (T.setTop (mkF m pc' Ls (x :: y :: x :: y :: st)))) : OwnW p e below G (T.setTop (mkF m pc Ls (x :: y :: st))) := by
  subst hp; exact K.go fun _ k => XT.dup2 X.here hx rfl hd rfl hc hc' k
theorem own_pop (X : Stand p l e R s m args below meth c T locs cells slots) (hx : p.tables.exec = Jvm.exec) {x : Value} (hd : decode c.code pc = .ok (.pop, 1)) (hc : x.category = 1) (pc' : Nat) (hp : pc + 1 = pc')
    (K : OwnW p e below G (T.setTop (mkF m pc' Ls st))) : OwnW p e below G (T.setTop (mkF m pc Ls (x :: st))) := by
  subst hp; exact K.go fun _ k => XS.pop X.here hx rfl hd rfl hc k
theorem own_goto (X : Stand p l e R s m args below meth c T locs cells slots) (hx : p.tables.exec = Jvm.exec) {o : Int} (hd : decode c.code pc = .ok (.goto o, 3)) (pc' : Nat) (hp : (pc : Int) + o = (pc' : Nat))
    (K : OwnW p e below G (T.setTop (mkF m pc' Ls st))) : OwnW p e below G (T.setTop (mkF m pc Ls st)) := by
  exact K.go fun _ k => XS.goto X.here hx rfl (pc0 := pc) (pc' := pc') rfl hd (by omega) (by omega) k
theorem own_ifY (X : Stand p l e R s m args below meth c T locs cells slots) (hx : p.tables.exec = Jvm.exec) {cd : ClassFile.Cond} {x : Int32} {o : Int} (hd : decode c.code pc = .ok (.ifCond cd o, 3)) (hc : if_icmp.holds cd x 0 = true) (pc' : Nat) (hp : (pc : Int) + o = (pc' : Nat))
    (K : OwnW p e below G (T.setTop (mkF m pc' Ls st))) : OwnW p e below G (T.setTop (mkF m pc Ls (.int x :: st))) := by
  exact K.go fun _ k => XS.ifYes X.here hx rfl (pc0 := pc) (pc' := pc') rfl hd rfl ((if0 _ _).trans hc) (by omega) (by omega) k
theorem own_ifN (X : Stand p l e R s m args below meth c T locs cells slots) (hx : p.tables.exec = Jvm.exec) {cd : ClassFile.Cond} {x : Int32} {o : Int} (hd : decode c.code pc = .ok (.ifCond cd o, 3)) (hc : if_icmp.holds cd x 0 = false) (pc' : Nat) (hp : pc + 3 = pc')
    (K : OwnW p e below G (T.setTop (mkF m pc' Ls st))) : OwnW p e below G (T.setTop (mkF m pc Ls (.int x :: st))) := by
  subst hp; exact K.go fun _ k => XS.ifNo X.here hx rfl hd rfl ((if0 _ _).trans hc) k
theorem own_icmpY (X : Stand p l e R s m args below meth c T locs cells slots) (hx : p.tables.exec = Jvm.exec) {cd : ClassFile.Cond} {x y : Int32} {o : Int} (hd : decode c.code pc = .ok (.if_icmp cd o, 3)) (hc : if_icmp.holds cd x y = true) (pc' : Nat) (hp : (pc : Int) + o = (pc' : Nat))
    (K : OwnW p e below G (T.setTop (mkF m pc' Ls st))) : OwnW p e below G (T.setTop (mkF m pc Ls (.int y :: .int x :: st))) := by
  exact K.go fun _ k => XS.icmpYes X.here hx rfl (pc0 := pc) (pc' := pc') rfl hd rfl hc (by omega) (by omega) k
theorem own_icmpN (X : Stand p l e R s m args below meth c T locs cells slots) (hx : p.tables.exec = Jvm.exec) {cd : ClassFile.Cond} {x y : Int32} {o : Int} (hd : decode c.code pc = .ok (.if_icmp cd o, 3)) (hc : if_icmp.holds cd x y = false) (pc' : Nat) (hp : pc + 3 = pc')
    (K : OwnW p e below G (T.setTop (mkF m pc' Ls st))) : OwnW p e below G (T.setTop (mkF m pc Ls (.int y :: .int x :: st))) := by
  subst hp; exact K.go fun _ k => XS.icmpNo X.here hx rfl hd rfl hc k
theorem own_acmp (X : Stand p l e R s m args below meth c T locs cells slots) (hx : p.tables.exec = Jvm.exec) {cd : ACond} {x y : Value} (h1 : x.isRef = true) (h2 : y.isRef = true) {o : Int} (hd : decode c.code pc = .ok (.if_acmp cd o, 3)) (same : Bool) (hq : decide (x = y) = same) (ho : 0 ≤ (pc : Int) + o) (pc' : Nat) (hp : pc' = if acV cd same = true then ((pc : Int) + o).toNat else pc + 3)
    (K : OwnW p e below G (T.setTop (mkF m pc' Ls st))) : OwnW p e below G (T.setTop (mkF m pc Ls (y :: x :: st))) := by
  exact K.go fun _ k => Jvm.RoadKit.acmp (g := mkF m pc Ls (y :: x :: st)) X hx rfl h1 h2 (pc0 := pc) (pc' := pc') (same := same) rfl hd rfl hq ho hp k
theorem own_ifnullY (X : Stand p l e R s m args below meth c T locs cells slots) (hx : p.tables.exec = Jvm.exec) {o : Int} (hd : decode c.code pc = .ok (.ifnull o, 3)) (pc' : Nat) (hp : (pc : Int) + o = (pc' : Nat))
    (K : OwnW p e below G (T.setTop (mkF m pc' Ls st))) : OwnW p e below G (T.setTop (mkF m pc Ls (.null :: st))) := by
  exact K.go fun _ k => XS.ifnullYes X.here hx rfl (pc0 := pc) (pc' := pc') rfl hd rfl (by omega) (by omega) k
theorem own_ifnullN (X : Stand p l e R s m args below meth c T locs cells slots) (hx : p.tables.exec = Jvm.exec) {o : Int} {b : Addr} (hd : decode c.code pc = .ok (.ifnull o, 3)) (pc' : Nat) (hp : pc + 3 = pc')
    (K : OwnW p e below G (T.setTop (mkF m pc' Ls st))) : OwnW p e below G (T.setTop (mkF m pc Ls (.ref b :: st))) := by
  subst hp; exact K.go fun _ k => XS.ifnullNo X.here hx rfl hd rfl k
theorem own_getF (X : Stand p l e R s m args below meth c T locs cells slots) (hx : p.tables.exec = Jvm.exec) (hZ : Z.Warmed39 s.vm) {own R0 O n d : String} {index : Nat} (hown : s.vm.findClass own = some m.cls) (w : (Cond.fieldLink own index R0 n d).before a0 Z = true) (via : Via Z R0 O n d) (eT : T.heap = h) {a : Addr} {v : Value} (F : Fld Z h a O n d v) (hd : decode c.code pc = .ok (.getfield index, 3)) (pc' : Nat) (hp : pc + 3 = pc')
    (K : ∀ T', Stand p l e R s m args below meth c T' locs cells slots → T'.heap = h → OwnW p e below G (T'.setTop (mkF m pc' Ls (v :: st)))) : OwnW p e below G (T.setTop (mkF m pc Ls (.ref a :: st))) := by
  subst hp
  obtain ⟨T', X', e', st'⟩ := getF X hx hZ hown (host := "") (Or.inl w) via eT F (g := mkF m pc Ls (.ref a :: st)) rfl rfl hd
  exact (K T' X' e').go st'
theorem own_getS (X : Stand p l e R s m args below meth c T locs cells slots) (hx : p.tables.exec = Jvm.exec) (hZ : Z.Warmed39 s.vm) {own R0 O n d : String} {index : Nat} (hown : s.vm.findClass own = some m.cls) (w : (Cond.fieldLink own index R0 n d).before a0 Z = true) (via : Via Z R0 O n d) (eT : T.heap = h) {v : Value} (F : Sta Z h O n d v) (hd : decode c.code pc = .ok (.getstatic index, 3)) (pc' : Nat) (hp : pc + 3 = pc')
    (K : ∀ T', Stand p l e R s m args below meth c T' locs cells slots → T'.heap = h → OwnW p e below G (T'.setTop (mkF m pc' Ls (v :: st)))) : OwnW p e below G (T.setTop (mkF m pc Ls st)) := by
  subst hp
  obtain ⟨T', X', e', st'⟩ := getS (host := "") X hx hZ hown w via eT F (g := mkF m pc Ls st) rfl hd
  exact (K T' X' e').go st'
theorem own_castY (X : Stand p l e R s m args below meth c T locs cells slots) (hx : p.tables.exec = Jvm.exec) (hZ : Z.Warmed39 s.vm) {own C : String} {index : Nat} (hown : s.vm.findClass own = some m.cls) (w : (Cond.classLink own index C).before a0 Z = true) (eT : T.heap = h) {a : Addr} (F : Ins Z h a C true) (hd : decode c.code pc = .ok (.checkcast index, 3)) (pc' : Nat) (hp : pc + 3 = pc')
    (K : ∀ T', Stand p l e R s m args below meth c T' locs cells slots → T'.heap = h → OwnW p e below G (T'.setTop (mkF m pc' Ls (.ref a :: st)))) : OwnW p e below G (T.setTop (mkF m pc Ls (.ref a :: st))) := by
  subst hp
  obtain ⟨T', X', e', st'⟩ := castY X hx hZ hown w eT F (g := mkF m pc Ls (.ref a :: st)) rfl rfl hd
  exact (K T' X' e').go st'
theorem own_instY (X : Stand p l e R s m args below meth c T locs cells slots) (hx : p.tables.exec = Jvm.exec) (hZ : Z.Warmed39 s.vm) {own C : String} {index : Nat} (hown : s.vm.findClass own = some m.cls) (w : (Cond.classLink own index C).before a0 Z = true) (eT : T.heap = h) {a : Addr} (F : Ins Z h a C true) (hd : decode c.code pc = .ok (.instanceof index, 3)) (pc' : Nat) (hp : pc + 3 = pc')
    (K : ∀ T', Stand p l e R s m args below meth c T' locs cells slots → T'.heap = h → OwnW p e below G (T'.setTop (mkF m pc' Ls (.int (1 : Int32) :: st)))) : OwnW p e below G (T.setTop (mkF m pc Ls (.ref a :: st))) := by
  subst hp
  obtain ⟨T', X', e', st'⟩ := instY X hx hZ hown w eT F (g := mkF m pc Ls (.ref a :: st)) rfl rfl hd
  exact (K T' X' e').go st'
theorem own_putF (X : Stand p l e R s m args below meth c T locs cells slots) (hx : p.tables.exec = Jvm.exec) (hZ : Z.Warmed39 s.vm) {own R0 O n d C : String} {index kk : Nat} {ty : FieldType} (hown : s.vm.findClass own = some m.cls) (w : (Cond.fieldLink own index R0 n d).before a0 Z = true) (via : Via Z R0 O n d)
    (eT : T.heap = h) {a : Addr} {v old : Value} (F : Fld Z h a O n d old) (E : Exa Z h a C) (L : (Cond.lays C O n d).before a0 Z = true ∨ ((Cond.laysFinal C O n d).before a0 Z = true ∧ own = O ∧ meth.name = "<init>")) (wi : (Cond.instantiable C kk).before a0 Z = true)
    (hty : parseFieldDescriptor d = some ty) (hn : narrow ty v = v) (hf : fits ty v = true) (hd : decode c.code pc = .ok (.putfield index, 3)) (pc' : Nat) (hp : pc + 3 = pc')
    (K : ∀ T' h', Stand p l e R s m args below meth c T' (locs ++ [⟨a, Jvm.RoadKit.slotOf Z O n d⟩]) cells slots → T'.heap = h' → Wr h h' a (Jvm.RoadKit.slotOf Z O n d) v → OwnW p e below G (T'.setTop (mkF m pc' Ls st))) : OwnW p e below G (T.setTop (mkF m pc Ls (v :: .ref a :: st))) := by
  subst hp
  obtain ⟨T', h', X', e', W', st'⟩ := putF X hx hZ hown (host := "") (Or.inl w) via eT F E L wi hty hn hf (g := mkF m pc Ls (v :: .ref a :: st)) rfl rfl hd
  exact (K T' h' X' e' W').go st'
theorem own_new (X : Stand p l e R s m args below meth c T locs cells slots) (hx : p.tables.exec = Jvm.exec) (hZ : Z.Warmed39 s.vm) {own C : String} {index n : Nat} (hown : s.vm.findClass own = some m.cls) (w : (Cond.classLink own index C).before a0 Z = true) (wi : (Cond.instantiable C n).before a0 Z = true) (wz : (Cond.initialized C).before a0 Z = true) (eT : T.heap = h)
    (hd : decode c.code pc = .ok (.new index, 3)) (hc : cells + 1 ≤ R.cells) (hl : slots + n ≤ R.slots) (pc' : Nat) (hp : pc + 3 = pc')
    (K : ∀ T' h' b, b = h.size → Stand p l e R s m args below meth c T' locs (cells + 1) (slots + n) → T'.heap = h' → Ext h h' → Exa Z h' b C → (∀ {O nm d : String} {ty : FieldType}, Laid Z a0 C O nm d → parseFieldDescriptor d = some ty → Fld Z h' b O nm d (defaultValue ty)) → OwnW p e below G (T'.setTop (mkF m pc' Ls (.ref b :: st)))) : OwnW p e below G (T.setTop (mkF m pc Ls st)) := by
  subst hp
  obtain ⟨T', h', X', e', E', A', D', -, st'⟩ := newO X hx hZ hown w wi wz eT (g := mkF m pc Ls st) rfl hd hc hl
  exact (K T' h' _ rfl X' e' E' A' D').go st'
theorem own_initO (X : Stand p l e R s m args below meth c T locs cells slots) (hx : p.tables.exec = Jvm.exec) (hZ : Z.Warmed39 s.vm) {own : String} {idx : Nat} (hown : s.vm.findClass own = some m.cls) (w1 : (Cond.methodLink own idx Lib.objectInit).before a0 Z = true) (w2 : (Cond.instanceMethod Lib.objectInit).before a0 Z = true)
    (w3 : (Cond.code Lib.objectInit ⟨#[0xb1]⟩ 1 none).before a0 Z = true) (eT : T.heap = h) (hsize : Ls.size = c.maxLocals) {a : Addr} (hd : decode c.code pc = .ok (.invokespecial idx, 3))
    (hf : 1 ≤ R.frames) (W : Nat) (hW : (st.map fun v => v.category).sum ≤ W) (hl : W + 12 ≤ R.locals) (pc' : Nat) (hp : pc + 3 = pc')
    (K : ∀ T', Stand p l e R s m args below meth c T' locs cells slots → T'.heap = h → OwnW p e below G (T'.setTop (mkF m pc' Ls st))) : OwnW p e below G (T.setTop (mkF m pc Ls (.ref a :: st))) := by
  subst hp
  obtain ⟨T', X', e', st'⟩ := initO X hx hZ hown w1 w2 w3 eT (g := mkF m pc Ls (.ref a :: st)) rfl hsize rfl hd hf (W := W) (by show 2 * 0 + _ ≤ _; omega) hl
  exact (K T' X' e').go st'
theorem own_callI {y : MethodName} {bytes : ByteArray} {maxL : Nat} {rm : Room} {Qc : Option Value → Heap → List Loc → Prop} {own : String} {index : Nat} {a : Addr} {argsL : List Value} {ps : List FieldType} {r : Option FieldType}
    (X : Stand p l e R s m args below meth c T locs cells slots) (hx : p.tables.exec = Jvm.exec) (hZ : Z.Warmed39 s.vm) (hown : s.vm.findClass own = some m.cls) (hy1 : y.name = "<init>") (wl : (Cond.methodLink own index y).before a0 Z = true) (wi : (Cond.instanceMethod y).before a0 Z = true)
    (wc : (Cond.code y bytes maxL none).before a0 Z = true) (wz : (Cond.initialized y.cls).before a0 Z = true) (hy : y.cls ≠ "java/lang/invoke/MethodHandle" ∧ y.cls ≠ "java/lang/invoke/VarHandle")
    (hM : MetFree l y (head1 [Cond.code y bytes maxL none] rm) (fun a' U => a' = (.ref a :: argsL).toArray ∧ Z.Warmed39 U.vm ∧ U.heap = h) (fun _ _ _ _ _ => True) (fun _ U o U' => ∃ v L, o = .returned v ∧ Qc v U'.heap L ∧ FrameEnd U o U' L rm.cells rm.slots))
    (eT : T.heap = h) (hd : decode c.code pc = .ok (.invokespecial index, 3)) (hpd : parseMethodDescriptor y.desc = some ⟨ps, r⟩) (hlen : argsL.length = ps.length) (hsz : Ls.size = c.maxLocals)
    {stk : List Value} (hst : stk = argsL.reverse ++ .ref a :: st) (W : Nat) (hW : (st.map fun v => v.category).sum ≤ W) (hf : rm.frames + 1 ≤ R.frames) (hl : W + (maxL + 11) + rm.locals ≤ R.locals) (hc : cells + rm.cells ≤ R.cells) (hs : slots + rm.slots ≤ R.slots) (pc' : Nat) (hp : pc + 3 = pc')
    (K : ∀ T' v L, Stand p l e R s m args below meth c T' (locs ++ L) (cells + rm.cells) (slots + rm.slots) → Qc v T'.heap L → OwnW p e below G (T'.setTop (mkF m pc' Ls (v.toList ++ st)))) : OwnW p e below G (T.setTop (mkF m pc Ls stk)) := by
  subst hp
  obtain ⟨v, _, ⟨T', L', k', n'⟩, -, X', ⟨Lc, hQ, q1, q2, q3⟩, st'⟩ := X.specialBack hx (y := y) hy1 hown (mvT hZ wl) (mvT hZ wi) (mvT hZ wc) hy (backOf (W := W) hM hZ wc wz hf hl) (g := mkF m pc Ls stk) rfl hsz (Steps.refl _) (a := a) (argsL := argsL) (rest := st) (lenOf hpd hlen) hst (by show 2 * 0 + _ ≤ _; omega) hd (fun _ _ => ⟨rfl, eT, hc, hs⟩)
  dsimp only [Pt.U, Pt.locs, Pt.cells, Pt.slots] at X' q1 q2 q3 st' hQ
  subst q1 q2 q3
  exact (K T' v Lc X' hQ).tr st'
theorem own_callIN {y : MethodName} {bytes : ByteArray} {maxL : Nat} {rm : Room} {Qc : Option Value → Heap → List Loc → Prop} {own host : String} {index : Nat} {a : Addr} {argsL : List Value} {ps : List FieldType} {r : Option FieldType}
    (X : Stand p l e R s m args below meth c T locs cells slots) (hx : p.tables.exec = Jvm.exec) (hZ : Z.Warmed39 s.vm) (hown : s.vm.findClass own = some m.cls) (hy1 : y.name = "<init>") (wl : (Cond.methodLinkNest own index y host).before a0 Z = true) (wi : (Cond.instanceMethod y).before a0 Z = true)
    (wc : (Cond.code y bytes maxL none).before a0 Z = true) (wz : (Cond.initialized y.cls).before a0 Z = true) (hy : y.cls ≠ "java/lang/invoke/MethodHandle" ∧ y.cls ≠ "java/lang/invoke/VarHandle")
    (hM : MetFree l y (head1 [Cond.code y bytes maxL none] rm) (fun a' U => a' = (.ref a :: argsL).toArray ∧ Z.Warmed39 U.vm ∧ U.heap = h) (fun _ _ _ _ _ => True) (fun _ U o U' => ∃ v L, o = .returned v ∧ Qc v U'.heap L ∧ FrameEnd U o U' L rm.cells rm.slots))
    (eT : T.heap = h) (hd : decode c.code pc = .ok (.invokespecial index, 3)) (hpd : parseMethodDescriptor y.desc = some ⟨ps, r⟩) (hlen : argsL.length = ps.length) (hsz : Ls.size = c.maxLocals)
    {stk : List Value} (hst : stk = argsL.reverse ++ .ref a :: st) (W : Nat) (hW : (st.map fun v => v.category).sum ≤ W) (hf : rm.frames + 1 ≤ R.frames) (hl : W + (maxL + 11) + rm.locals ≤ R.locals) (hc : cells + rm.cells ≤ R.cells) (hs : slots + rm.slots ≤ R.slots) (pc' : Nat) (hp : pc + 3 = pc')
    (K : ∀ T' v L, Stand p l e R s m args below meth c T' (locs ++ L) (cells + rm.cells) (slots + rm.slots) → Qc v T'.heap L → OwnW p e below G (T'.setTop (mkF m pc' Ls (v.toList ++ st)))) : OwnW p e below G (T.setTop (mkF m pc Ls stk)) := by
  subst hp
  obtain ⟨v, _, ⟨T', L', k', n'⟩, -, X', ⟨Lc, hQ, q1, q2, q3⟩, st'⟩ := X.specialBackNest hx (y := y) hy1 hown (Cond.methodLinkNest_wide hZ wl) (mvT hZ wi) (mvT hZ wc) hy (backOf (W := W) hM hZ wc wz hf hl) (g := mkF m pc Ls stk) rfl hsz (Steps.refl _) (a := a) (argsL := argsL) (rest := st) (lenOf hpd hlen) hst (by show 2 * 0 + _ ≤ _; omega) hd (fun _ _ => ⟨rfl, eT, hc, hs⟩)
  dsimp only [Pt.U, Pt.locs, Pt.cells, Pt.slots] at X' q1 q2 q3 st' hQ
  subst q1 q2 q3
  exact (K T' v Lc X' hQ).tr st'
theorem own_callV {y : MethodName} {bytes : ByteArray} {maxL : Nat} {ret : Option FieldType} {rm : Room} {Qc : Option Value → Heap → List Loc → Prop} {own C : String} {index : Nat} {a : Addr} {argsL : List Value} {ps : List FieldType} {r : Option FieldType}
    (X : Stand p l e R s m args below meth c T locs cells slots) (hx : p.tables.exec = Jvm.exec) (hZ : Z.Warmed39 s.vm) (hown : s.vm.findClass own = some m.cls) (wl : (Cond.methodLink own index y).before a0 Z = true) (wd : (Cond.declares y).before a0 Z = true) (ws : (Cond.selects C y y).before a0 Z = true) (wi : (Cond.instanceMethod y).before a0 Z = true)
    (wc : (Cond.code y bytes maxL ret).before a0 Z = true) (wz : (Cond.initialized y.cls).before a0 Z = true) (hy : y.cls ≠ "java/lang/invoke/MethodHandle" ∧ y.cls ≠ "java/lang/invoke/VarHandle") (E : Exa Z h a C)
    (hM : MetFree l y (head1 [Cond.code y bytes maxL ret] rm) (fun a' U => a' = (.ref a :: argsL).toArray ∧ Z.Warmed39 U.vm ∧ U.heap = h) (fun _ _ _ _ _ => True) (fun _ U o U' => ∃ v L, o = .returned v ∧ Qc v U'.heap L ∧ FrameEnd U o U' L rm.cells rm.slots))
    (eT : T.heap = h) (hd : decode c.code pc = .ok (.invokevirtual index, 3)) (hpd : parseMethodDescriptor y.desc = some ⟨ps, r⟩) (hlen : argsL.length = ps.length) (hsz : Ls.size = c.maxLocals)
    {stk : List Value} (hst : stk = argsL.reverse ++ .ref a :: st) (W : Nat) (hW : (st.map fun v => v.category).sum ≤ W) (hf : rm.frames + 1 ≤ R.frames) (hl : W + (maxL + 11) + rm.locals ≤ R.locals) (hc : cells + rm.cells ≤ R.cells) (hs : slots + rm.slots ≤ R.slots) (pc' : Nat) (hp : pc + 3 = pc')
    (K : ∀ T' v L, Stand p l e R s m args below meth c T' (locs ++ L) (cells + rm.cells) (slots + rm.slots) → Qc v T'.heap L → OwnW p e below G (T'.setTop (mkF m pc' Ls (v.toList ++ st)))) : OwnW p e below G (T.setTop (mkF m pc Ls stk)) := by
  subst hp
  obtain ⟨cq, kq, qa, qb, qc⟩ := isOf hZ eT E
  obtain ⟨v, _, ⟨T', L', k', n'⟩, -, X', ⟨Lc, hQ, q1, q2, q3⟩, st'⟩ := X.virtualBack hx (y := y) (z := y) hown (mvT hZ wl) (mvT hZ wd) (notFace_of_selects (args := #[]) (mvT hZ ws)) (mvT hZ ws) (mvT hZ wi) hy (backOf (W := W) hM hZ wc wz hf hl) qa qc (g := mkF m pc Ls stk) rfl hsz (Steps.refl _) (argsL := argsL) (rest := st) (lenOf hpd hlen) hst (by show 2 * 0 + _ ≤ _; omega) hd (fun _ _ => ⟨rfl, eT, hc, hs⟩)
  dsimp only [Pt.U, Pt.locs, Pt.cells, Pt.slots] at X' q1 q2 q3 st' hQ
  subst q1 q2 q3
  exact (K T' v Lc X' hQ).tr st'
theorem own_callS {y : MethodName} {bytes : ByteArray} {maxL : Nat} {ret : Option FieldType} {rm : Room} {Qc : Option Value → Heap → List Loc → Prop} {own : String} {index : Nat} {argsL : List Value} {ps : List FieldType} {r : Option FieldType}
    (X : Stand p l e R s m args below meth c T locs cells slots) (hx : p.tables.exec = Jvm.exec) (hZ : Z.Warmed39 s.vm) (hown : s.vm.findClass own = some m.cls) (wl : (Cond.methodLink own index y).before a0 Z = true) (wst : (Cond.static y).before a0 Z = true)
    (wc : (Cond.code y bytes maxL ret).before a0 Z = true) (wz : (Cond.initialized y.cls).before a0 Z = true) (hy : y.cls ≠ "java/lang/invoke/MethodHandle" ∧ y.cls ≠ "java/lang/invoke/VarHandle")
    (hM : MetFree l y (head1 [Cond.code y bytes maxL ret] rm) (fun a' U => a' = argsL.toArray ∧ Z.Warmed39 U.vm ∧ U.heap = h) (fun _ _ _ _ _ => True) (fun _ U o U' => ∃ v L, o = .returned v ∧ Qc v U'.heap L ∧ FrameEnd U o U' L rm.cells rm.slots))
    (eT : T.heap = h) (hd : decode c.code pc = .ok (.invokestatic index, 3)) (hpd : parseMethodDescriptor y.desc = some ⟨ps, r⟩) (hlen : argsL.length = ps.length) (hsz : Ls.size = c.maxLocals)
    {stk : List Value} (hst : stk = argsL.reverse ++ st) (W : Nat) (hW : (st.map fun v => v.category).sum ≤ W) (hf : rm.frames + 1 ≤ R.frames) (hl : W + (maxL + 11) + rm.locals ≤ R.locals) (hc : cells + rm.cells ≤ R.cells) (hs : slots + rm.slots ≤ R.slots) (pc' : Nat) (hp : pc + 3 = pc')
    (K : ∀ T' v L, Stand p l e R s m args below meth c T' (locs ++ L) (cells + rm.cells) (slots + rm.slots) → Qc v T'.heap L → OwnW p e below G (T'.setTop (mkF m pc' Ls (v.toList ++ st)))) : OwnW p e below G (T.setTop (mkF m pc Ls stk)) := by
  subst hp
  obtain ⟨v, _, ⟨T', L', k', n'⟩, -, X', ⟨Lc, hQ, q1, q2, q3⟩, st'⟩ := Jvm.LawKit.callS X hx (y := y) hown (mvT hZ wl) (mvT hZ wst) (mvT hZ wz) (mvT hZ wc) hy (backOf (W := W) hM hZ wc wz hf hl) (g := mkF m pc Ls stk) rfl hsz (argsL := argsL) (rest := st) (lenOf hpd hlen) hst (by show 2 * 0 + _ ≤ _; omega) hd (fun _ _ => ⟨rfl, eT, hc, hs⟩)
  dsimp only [Pt.U, Pt.locs, Pt.cells, Pt.slots] at X' q1 q2 q3 st' hQ
  subst q1 q2 q3
  exact (K T' v Lc X' hQ).go st'
theorem own_ret (X : Stand p l e R s m args below meth c T locs cells slots) (hx : p.tables.exec = Jvm.exec) (hlk : meth.locks = false) {w : Value} {t : FieldType} {i : Instr} (hret : meth.sig.returnType = some t) (hn : narrow t w = w)
    (hi : (i = .ireturn ∧ (t = .int ∨ t = .boolean ∨ t = .byte ∨ t = .char ∨ t = .short) ∧ ∃ z, w = .int z) ∨ (i = .lreturn ∧ t = .long ∧ ∃ z, w = .long z) ∨ (i = .dreturn ∧ t = .double ∧ ∃ z, w = .double z) ∨ (i = .freturn ∧ t = .float ∧ ∃ z, w = .float z) ∨ (i = .areturn ∧ t.isReference = true ∧ w.isRef = true))
    (hd : decode c.code pc = .ok (i, 1)) (hc : cells ≤ rc) (hs : slots ≤ rs) (hQ : Q (some w) T.heap locs) : OwnW p e below (OwnG s Q rc rs) (T.setTop (mkF m pc Ls (w :: st))) := by
  obtain ⟨fs, hr, hrun, hended, hW, hsame⟩ := X.leave (v := some w) (fun h => by rw [hret] at h; cases h) hlk
  exact ⟨_, _, retOut X hx hret hn hi hd hr, hrun, hended, _, _, rfl, hQ, ⟨_, rfl⟩, hW, hsame.mono hc hs⟩
theorem own_retI (X : Stand p l e R s m args below meth c T locs cells slots) (hx : p.tables.exec = Jvm.exec) (hlk : meth.locks = false) {z : Int32} (hret : meth.sig.returnType = some .int) (hd : decode c.code pc = .ok (.ireturn, 1)) (hc : cells ≤ rc) (hs : slots ≤ rs) (hQ : Q (some (.int z)) T.heap locs) : OwnW p e below (OwnG s Q rc rs) (T.setTop (mkF m pc Ls (.int z :: st))) :=
  own_ret X hx hlk hret rfl (Or.inl ⟨rfl, Or.inl rfl, z, rfl⟩) hd hc hs hQ
theorem own_retZ (X : Stand p l e R s m args below meth c T locs cells slots) (hx : p.tables.exec = Jvm.exec) (hlk : meth.locks = false) {z : Int32} (hret : meth.sig.returnType = some .boolean) (hz : z = 0 ∨ z = 1) (hd : decode c.code pc = .ok (.ireturn, 1)) (hc : cells ≤ rc) (hs : slots ≤ rs) (hQ : Q (some (.int z)) T.heap locs) : OwnW p e below (OwnG s Q rc rs) (T.setTop (mkF m pc Ls (.int z :: st))) :=
  own_ret X hx hlk hret (by rcases hz with rfl | rfl <;> rfl) (Or.inl ⟨rfl, Or.inr (Or.inl rfl), z, rfl⟩) hd hc hs hQ
theorem own_retJ (X : Stand p l e R s m args below meth c T locs cells slots) (hx : p.tables.exec = Jvm.exec) (hlk : meth.locks = false) {z : Int64} (hret : meth.sig.returnType = some .long) (hd : decode c.code pc = .ok (.lreturn, 1)) (hc : cells ≤ rc) (hs : slots ≤ rs) (hQ : Q (some (.long z)) T.heap locs) : OwnW p e below (OwnG s Q rc rs) (T.setTop (mkF m pc Ls (.long z :: st))) :=
  own_ret X hx hlk hret rfl (Or.inr (Or.inl ⟨rfl, rfl, z, rfl⟩)) hd hc hs hQ
theorem own_retA (X : Stand p l e R s m args below meth c T locs cells slots) (hx : p.tables.exec = Jvm.exec) (hlk : meth.locks = false) {w : Value} {t : FieldType} (hret : meth.sig.returnType = some t) (ht : t.isReference = true) (hw : w.isRef = true) (hn : narrow t w = w) (hd : decode c.code pc = .ok (.areturn, 1)) (hc : cells ≤ rc) (hs : slots ≤ rs) (hQ : Q (some w) T.heap locs) : OwnW p e below (OwnG s Q rc rs) (T.setTop (mkF m pc Ls (w :: st))) :=
  own_ret X hx hlk hret hn (Or.inr (Or.inr (Or.inr (Or.inr ⟨rfl, ht, hw⟩)))) hd hc hs hQ
theorem own_retV (X : Stand p l e R s m args below meth c T locs cells slots) (hx : p.tables.exec = Jvm.exec) (hlk : meth.locks = false) (hret : meth.sig.returnType = none) (hd : decode c.code pc = .ok (.return_, 1)) (hc : cells ≤ rc) (hs : slots ≤ rs) (hQ : Q none T.heap locs) : OwnW p e below (OwnG s Q rc rs) (T.setTop (mkF m pc Ls [])) := by
  obtain ⟨fs, hr, hrun, hended, hW, hsame⟩ := X.leave (v := none) (fun _ => rfl) hlk
  exact ⟨_, _, X.returnOut hx hret hd hr, hrun, hended, _, _, rfl, hQ, ⟨_, rfl⟩, hW, hsame.mono hc hs⟩
/-- a cell that is no class's statics -/
def OwnP (h : Heap) (x : Addr) : Prop := ∃ cell : Cell, h[x]? = some cell ∧ cell.vm.isStatics = false
theorem own_pE {a : Addr} {C : String} (E : Exa Z h a C) : OwnP h a := by obtain ⟨cell, k, h1, -, -, h4, -⟩ := E; exact ⟨cell, h1, h4⟩
theorem own_pV {a : Addr} {k : ClassId} {ty : FieldType} {n : Int32} {vs : List Value} {dv : Value} (F : Arv Z h a k ty n vs dv) : OwnP h a := by obtain ⟨cl, A, -⟩ := F; exact ⟨cl, A.1, A.plain⟩
theorem own_sta_keep {h' : Heap} {C n d : String} {v : Value} {ws : List Addr} (F : Sta Z h C n d v) (K : Keep h h' ws) (q : ∀ x ∈ ws, OwnP h x) : Sta Z h' C n d v := by
  obtain ⟨cf, i, k, f, st, cell, h1, h2, h3, h4, h5, h6, h7⟩ := F
  refine ⟨cf, i, k, f, st, cell, h1, h2, h3, h4, K.2.1 st cell h5 (fun z => ?_), h6, h7⟩
  obtain ⟨cell', e1, e2⟩ := q st z
  cases h5.symm.trans e1
  rw [h6] at e2; cases e2
theorem own_feq {t : Term} {C n d : String} {k : Int32} {a : Addr} (ht : t.eval args s none [] s = some (.ref a)) (hc : (Jvm.Cond.eq (Jvm.Term.field t C n d) (Jvm.Term.int k)).value args s none s [] = some true) : Fld s s.heap a C n d (.int k) := by
  refine Fld.start ?_
  have e := fld_at (args := args) (first := s) (o := none) (idx := []) (C := C) (n := n) (dd := d) ht
  rw [← e]
  obtain ⟨x, y, hx, hy, -, -⟩ := cmp_v (Or.inl hc)
  have hy' : y = .int k := Option.some.inj (hy.symm.trans rfl)
  subst hy'
  have h2 := hc
  simp only [Cond.value, hx, hy] at h2
  cases x with
  | int z => simp only [Option.some.injEq, decide_eq_true_eq] at h2; rw [hx, h2]
  | _ => simp at h2
theorem own_newP (X : Stand p l e R s m args below meth c T locs cells slots) (hx : p.tables.exec = Jvm.exec) (hZ : Z.Warmed39 s.vm) {aty : ArrayType} (w : (Cond.arrayClass (newarray.typeOf aty)).before a0 Z = true) (eT : T.heap = h) (hd : decode c.code pc = .ok (.newarray aty, 2)) {n : Int32}
    (hn : ¬ n < 0) (cap : Nat) (hcap : n.toNatClampNeg ≤ cap) (hb : cap * 8 ≤ 536870912) (hc : cells + 1 ≤ R.cells) (hl : slots + cap ≤ R.slots) (pc' : Nat) (hp : pc + 2 = pc')
    (K : ∀ T' h' b cA, b = h.size → Stand p l e R s m args below meth c T' locs (cells + 1) (slots + cap) → T'.heap = h' → Ext h h' → Arr Z h' b (newA cA (newarray.typeOf aty) n) (newarray.typeOf aty) → OwnW p e below G (T'.setTop (mkF m pc' Ls (.ref b :: st)))) : OwnW p e below G (T.setTop (mkF m pc Ls (.int n :: st))) := by
  subst hp
  obtain ⟨T', h', cA, X', e', E', A', st'⟩ := newP X hx hZ w eT (g := mkF m pc Ls (.int n :: st)) rfl hd rfl hn hcap hb hc hl
  exact (K T' h' _ cA rfl X' e' E' A').go st'
theorem own_stZ (X : Stand p l e R s m args below meth c T locs cells slots) (hx : p.tables.exec = Jvm.exec) (hZ : Z.Warmed39 s.vm) (eT : T.heap = h) {a : Addr} {cl : Cell} (A : Arr Z h a cl .boolean) {j x : Int32} (hj : ¬ (j < 0 ∨ cl.slots.size ≤ j.toNatClampNeg)) (hd : decode c.code pc = .ok (.bastore, 1)) (pc' : Nat) (hp : pc + 1 = pc')
    (K : ∀ T' h', Stand p l e R s m args below meth c T' (locs ++ [⟨a, j.toNatClampNeg⟩]) cells slots → T'.heap = h' → Wr h h' a j.toNatClampNeg (.int (nar .boolean x)) → OwnW p e below G (T'.setTop (mkF m pc' Ls st))) : OwnW p e below G (T.setTop (mkF m pc Ls (.int x :: .int j :: .ref a :: st))) := by
  subst hp
  obtain ⟨T', h', X', e', W', st'⟩ := stZ X hx hZ eT A hj (g := mkF m pc Ls (.int x :: .int j :: .ref a :: st)) rfl rfl hd
  exact (K T' h' X' e' W').go st'
theorem own_stJ (X : Stand p l e R s m args below meth c T locs cells slots) (hx : p.tables.exec = Jvm.exec) (hZ : Z.Warmed39 s.vm) (eT : T.heap = h) {a : Addr} {cl : Cell} (A : Arr Z h a cl .long) {j : Int32} {x : Int64} (hj : ¬ (j < 0 ∨ cl.slots.size ≤ j.toNatClampNeg)) (hd : decode c.code pc = .ok (.lastore, 1)) (pc' : Nat) (hp : pc + 1 = pc')
    (K : ∀ T' h', Stand p l e R s m args below meth c T' (locs ++ [⟨a, j.toNatClampNeg⟩]) cells slots → T'.heap = h' → Wr h h' a j.toNatClampNeg (.long x) → OwnW p e below G (T'.setTop (mkF m pc' Ls st))) : OwnW p e below G (T.setTop (mkF m pc Ls (.long x :: .int j :: .ref a :: st))) := by
  subst hp
  obtain ⟨T', h', X', e', W', st'⟩ := stJ X hx hZ eT A hj (g := mkF m pc Ls (.long x :: .int j :: .ref a :: st)) rfl rfl hd
  exact (K T' h' X' e' W').go st'
theorem own_stI (X : Stand p l e R s m args below meth c T locs cells slots) (hx : p.tables.exec = Jvm.exec) (hZ : Z.Warmed39 s.vm) (eT : T.heap = h) {a : Addr} {cl : Cell} (A : Arr Z h a cl .int) {j x : Int32} (hj : ¬ (j < 0 ∨ cl.slots.size ≤ j.toNatClampNeg)) (hd : decode c.code pc = .ok (.iastore, 1)) (pc' : Nat) (hp : pc + 1 = pc')
    (K : ∀ T' h', Stand p l e R s m args below meth c T' (locs ++ [⟨a, j.toNatClampNeg⟩]) cells slots → T'.heap = h' → Wr h h' a j.toNatClampNeg (.int x) → OwnW p e below G (T'.setTop (mkF m pc' Ls st))) : OwnW p e below G (T.setTop (mkF m pc Ls (.int x :: .int j :: .ref a :: st))) := by
  subst hp
  obtain ⟨T', h', X', e', W', st'⟩ := stI X hx hZ eT A hj (g := mkF m pc Ls (.int x :: .int j :: .ref a :: st)) rfl rfl hd
  exact (K T' h' X' e' W').go st'
theorem own_ldZ (X : Stand p l e R s m args below meth c T locs cells slots) (hx : p.tables.exec = Jvm.exec) (hZ : Z.Warmed39 s.vm) (eT : T.heap = h) {a : Addr} {k : ClassId} {n : Int32} {vs : List Value} {dv : Value} (F : Arv Z h a k .boolean n vs dv) {j : Int32} (hj : ¬ j < 0 ∧ j < n) (v : Value) (hv : vs.getD j.toNatClampNeg dv = v) (hd : decode c.code pc = .ok (.baload, 1)) (pc' : Nat) (hp : pc + 1 = pc')
    (K : OwnW p e below G (T.setTop (mkF m pc' Ls (v :: st)))) : OwnW p e below G (T.setTop (mkF m pc Ls (.int j :: .ref a :: st))) := by
  subst hp
  obtain ⟨cl, A, -, S, -, H, -⟩ := F
  have hin := inb_of S hj
  exact K.go (X.baloadBooleans hx (j := j) (v := v) (by rw [eT]; exact A.1) (State.isArrayOf_alike hZ.alike A.2.1) A.2.2 hin (H.at hin hv) (g := mkF m pc Ls (.int j :: .ref a :: st)) rfl rfl hd)
theorem own_ldJ (X : Stand p l e R s m args below meth c T locs cells slots) (hx : p.tables.exec = Jvm.exec) (hZ : Z.Warmed39 s.vm) (eT : T.heap = h) {a : Addr} {k : ClassId} {n : Int32} {vs : List Value} {dv : Value} (F : Arv Z h a k .long n vs dv) {j : Int32} (hj : ¬ j < 0 ∧ j < n) (v : Value) (hv : vs.getD j.toNatClampNeg dv = v) (hd : decode c.code pc = .ok (.laload, 1)) (pc' : Nat) (hp : pc + 1 = pc')
    (K : OwnW p e below G (T.setTop (mkF m pc' Ls (v :: st)))) : OwnW p e below G (T.setTop (mkF m pc Ls (.int j :: .ref a :: st))) := by
  subst hp
  obtain ⟨cl, A, -, S, -, H, -⟩ := F
  have hin := inb_of S hj
  exact K.go (X.laload hx (j := j) (v := v) (by rw [eT]; exact A.1) (State.isArrayOf_alike hZ.alike A.2.1) A.2.2 hin (H.at hin hv) (g := mkF m pc Ls (.int j :: .ref a :: st)) rfl rfl hd)
theorem own_len (X : Stand p l e R s m args below meth c T locs cells slots) (hx : p.tables.exec = Jvm.exec) (hZ : Z.Warmed39 s.vm) (eT : T.heap = h) {a : Addr} {k : ClassId} {ty : FieldType} {n : Int32} {vs : List Value} {dv : Value} (F : Arv Z h a k ty n vs dv) (hd : decode c.code pc = .ok (.arraylength, 1)) (pc' : Nat) (hp : pc + 1 = pc')
    (K : OwnW p e below G (T.setTop (mkF m pc' Ls (.int n :: st)))) : OwnW p e below G (T.setTop (mkF m pc Ls (.ref a :: st))) := by
  subst hp
  obtain ⟨cl, A, -, S, N, -, -⟩ := F
  rw [← len_of S N] at K
  exact K.go (X.arraylength hx (by rw [eT]; exact A.1) (State.isArrayOf_alike hZ.alike A.2.1) (g := mkF m pc Ls (.ref a :: st)) rfl rfl hd)
theorem own_instNull (X : Stand p l e R s m args below meth c T locs cells slots) (hx : p.tables.exec = Jvm.exec) {index : Nat} (hd : decode c.code pc = .ok (.instanceof index, 3)) (pc' : Nat) (hp : pc + 3 = pc')
    (K : OwnW p e below G (T.setTop (mkF m pc' Ls (.int (0 : Int32) :: st)))) : OwnW p e below G (T.setTop (mkF m pc Ls (.null :: st))) := by
  subst hp; exact K.go (X.instanceofNull hx (g := mkF m pc Ls (.null :: st)) rfl rfl hd)
theorem own_instNo (X : Stand p l e R s m args below meth c T locs cells slots) (hx : p.tables.exec = Jvm.exec) (hZ : Z.Warmed39 s.vm) {own C D : String} {index : Nat} (hown : s.vm.findClass own = some m.cls) (w : (Cond.classLink own index C).before a0 Z = true) (eT : T.heap = h) {a : Addr} (E : Exa Z h a D) (F : ∃ c t, Z.vm.findClass D = some c ∧ Z.vm.findClass C = some t ∧ Z.vm.assignable c t = false) (hd : decode c.code pc = .ok (.instanceof index, 3)) (pc' : Nat) (hp : pc + 3 = pc')
    (K : ∀ T', Stand p l e R s m args below meth c T' locs cells slots → T'.heap = h → OwnW p e below G (T'.setTop (mkF m pc' Ls (.int (0 : Int32) :: st)))) : OwnW p e below G (T.setTop (mkF m pc Ls (.ref a :: st))) := by
  subst hp
  obtain ⟨T', X', e', st'⟩ := instNo X hx hZ hown w eT E F (g := mkF m pc Ls (.ref a :: st)) rfl rfl hd
  exact (K T' X' e').go st'
theorem own_ldA (X : Stand p l e R s m args below meth c T locs cells slots) (hx : p.tables.exec = Jvm.exec) (hZ : Z.Warmed39 s.vm) (eT : T.heap = h) {a : Addr} {cl : Cell} {ty : FieldType} (A : Arr Z h a cl ty) (hty : ty.isReference = true) {j : Int32} (hin : ¬ (j < 0 ∨ cl.slots.size ≤ j.toNatClampNeg)) {v : Value} (hv : cl.slots[j.toNatClampNeg]? = some v) (hd : decode c.code pc = .ok (.aaload, 1)) (pc' : Nat) (hp : pc + 1 = pc')
    (K : OwnW p e below G (T.setTop (mkF m pc' Ls (v :: st)))) : OwnW p e below G (T.setTop (mkF m pc Ls (.int j :: .ref a :: st))) := by
  subst hp
  exact K.go (X.aaload hx (j := j) (v := v) (by rw [eT]; exact A.1) (State.isArrayOf_alike hZ.alike A.2.1) hty A.2.2 hin hv (g := mkF m pc Ls (.int j :: .ref a :: st)) rfl rfl hd)
theorem own_cp (X : Stand p l e R s m args below meth c T locs cells slots) (hx : p.tables.exec = Jvm.exec) (hZ : Z.Warmed39 s.vm) {own : String} {index : Nat} (hown : s.vm.findClass own = some m.cls)
    (w1 : (Cond.methodLink own index Jvm.Stand.acN).before a0 Z = true) (w2 : (Cond.native Jvm.Stand.acN).before a0 Z = true) (w3 : (Cond.static Jvm.Stand.acN).before a0 Z = true) (w4 : (Cond.initialized "java/lang/System").before a0 Z = true) (eT : T.heap = h)
    {a b : Addr} {k k' : ClassId} {ty : FieldType} {z z' sp dp nn : Int32} {vs vd : List Value} {dv dd : Value} (A : Arv Z h a k ty z vs dv) (B : Arv Z h b k' ty z' vd dd) (hty : refKind ty = false)
    (h1 : ¬ sp < 0) (h2 : ¬ dp < 0) (h3 : ¬ nn < 0) (h4 : sp.toNatClampNeg + nn.toNatClampNeg ≤ z.toNatClampNeg) (h5 : dp.toNatClampNeg + nn.toNatClampNeg ≤ z'.toNatClampNeg)
    (us : List Value) (hus : us = (List.range nn.toNatClampNeg).map fun i => vs.getD (sp.toNatClampNeg + i) dv) (hl : dp.toNatClampNeg + nn.toNatClampNeg ≤ vd.length) {n0 : Nat} (N : Fr n0 locs) (ge : n0 ≤ b)
    (hsize : Ls.size = c.maxLocals) (hd : decode c.code pc = .ok (.invokestatic index, 3)) (hf : 1 ≤ R.frames) (W : Nat) (hW : (st.map fun v => v.category).sum ≤ W) (hlo : W + (nativeFrameWords "java/lang/System" "arraycopy" 5 + 11) ≤ R.locals) (pc' : Nat) (hp : pc + 3 = pc')
    (K : ∀ T' h' L, Stand p l e R s m args below meth c T' L cells slots → T'.heap = h' → Fr n0 L → Keep h h' [b] → Arv Z h' b k' ty z' (vd.take dp.toNatClampNeg ++ us ++ vd.drop (dp.toNatClampNeg + nn.toNatClampNeg)) dd → OwnW p e below G (T'.setTop (mkF m pc' Ls st))) :
    OwnW p e below G (T.setTop (mkF m pc Ls (.int nn :: .int dp :: .ref b :: .int sp :: .ref a :: st))) := by
  subst hp
  obtain ⟨T', h', L', X', e', N', K', V', st'⟩ := cpA X hx hZ hown w1 w2 w3 w4 eT A B (Or.inl ⟨rfl, hty⟩) h1 h2 h3 h4 h5 hus hl N ge (g := mkF m pc Ls (.int nn :: .int dp :: .ref b :: .int sp :: .ref a :: st)) rfl hsize rfl hd hf (W := W) (by show 2 * 0 + _ ≤ _; omega) hlo
  exact (K T' h' L' X' e' N' K' V').go st'
theorem own_nar01 (x : Int32) : nar .boolean x = 0 ∨ nar .boolean x = 1 := and_one x
theorem own_nar {x : Int32} (h : x = 0 ∨ x = 1) : nar .boolean x = x := by rcases h with rfl | rfl <;> rfl
theorem own_newR (X : Stand p l e R s m args below meth c T locs cells slots) (hx : p.tables.exec = Jvm.exec) (hZ : Z.Warmed39 s.vm) {own C : String} {index : Nat} (hown : s.vm.findClass own = some m.cls) (w1 : (Cond.classLink own index C).before a0 Z = true) (w2 : (Cond.arrayOver (.object C)).before a0 Z = true) (eT : T.heap = h) (hd : decode c.code pc = .ok (.anewarray index, 3)) {n : Int32}
    (hn : ¬ n < 0) (cap : Nat) (hcap : n.toNatClampNeg ≤ cap) (hb : cap * 8 ≤ 536870912) (hc : cells + 1 ≤ R.cells) (hl : slots + cap ≤ R.slots) (pc' : Nat) (hp : pc + 3 = pc')
    (K : ∀ T' h' b cA, b = h.size → Stand p l e R s m args below meth c T' locs (cells + 1) (slots + cap) → T'.heap = h' → Ext h h' → Arr Z h' b (newA cA (.object C) n) (.object C) → Ovr Z cA C → OwnW p e below G (T'.setTop (mkF m pc' Ls (.ref b :: st)))) : OwnW p e below G (T.setTop (mkF m pc Ls (.int n :: st))) := by
  subst hp
  obtain ⟨T', h', cA, X', e', E', A', O', st'⟩ := newR X hx hZ hown w1 w2 eT (g := mkF m pc Ls (.int n :: st)) rfl hd rfl hn hcap hb hc hl
  exact (K T' h' _ cA rfl X' e' E' A' O').go st'
theorem own_stR (X : Stand p l e R s m args below meth c T locs cells slots) (hx : p.tables.exec = Jvm.exec) (hZ : Z.Warmed39 s.vm) (eT : T.heap = h) {a : Addr} {cl : Cell} {ty : FieldType} (A : Arr Z h a cl ty) {j : Int32} {v : Value} (hj : ¬ (j < 0 ∨ cl.slots.size ≤ j.toNatClampNeg)) (hty : ty.isReference = true) (F : Sto Z h a v) (hd : decode c.code pc = .ok (.aastore, 1)) (pc' : Nat) (hp : pc + 1 = pc')
    (K : ∀ T' h', Stand p l e R s m args below meth c T' (locs ++ [⟨a, j.toNatClampNeg⟩]) cells slots → T'.heap = h' → Wr h h' a j.toNatClampNeg v → OwnW p e below G (T'.setTop (mkF m pc' Ls st))) : OwnW p e below G (T.setTop (mkF m pc Ls (v :: .int j :: .ref a :: st))) := by
  subst hp
  obtain ⟨T', h', X', e', W', st'⟩ := stR X hx hZ eT A hj hty F (g := mkF m pc Ls (v :: .int j :: .ref a :: st)) rfl rfl hd
  exact (K T' h' X' e' W').go st'
/-- the end of a walk that loaded a String constant -/
def OwnGW (s : State) (Q : Option Value → Heap → List Loc → Prop) (rc rs : Nat) (o : Outcome) (t : State) : Prop := ∃ v L, o = .returned v ∧ Q v t.heap L ∧ ReturnedEndW s o t L rc rs
theorem own_ldcS (X : Stand p l e R s m args below meth c T locs cells slots) (hx : p.tables.exec = Jvm.exec) (hZ : Z.Warmed39 s.vm) {own text : String} {index : Nat} (hown : s.vm.findClass own = some m.cls) (w : (Cond.stringLink own index text).before a0 Z = true) (wS : ∀ a ∈ Bundle.stringAtoms, a.before a0 Z = true) (eT : T.heap = h)
    (hd : decode c.code pc = .ok (.ldc index, 2)) (n : Nat) (hn : 4 * text.toList.length ≤ n) (hbig : n ≤ 536870912) (hc : cells + 2 ≤ R.cells) (hl : slots + (n + 4) ≤ R.slots) (pc' : Nat) (hp : pc + 2 = pc')
    (K : ∀ s' a T' h' k1, Stand p l e R s' m args below meth c T' locs (cells + 2) (slots + (n + 4)) → T'.heap = h' → Ext h h' → k1 ≤ h'.size → Z.Warmed39 s'.vm → s'.vm.findClass own = some m.cls → OwnW p e below (OwnG s' (fun v hh L => Q v hh L ∧ k1 ≤ hh.size) rc rs) (T'.setTop (mkF m pc' Ls (.ref a :: st)))) : OwnW p e below (OwnGW s Q rc rs) (T.setTop (mkF m pc Ls st)) := by
  subst hp
  obtain ⟨a, T', h', k1, X', e', E', hS, hk, hZ', hown', st'⟩ := ldcS (s := s) (vm0 := s.vm) X hx hZ hown w wS eT ((State.WarmedH.refl s).since h.size) (Nat.le_refl _) (g := mkF m pc Ls st) rfl hd hn hbig hc hl
  obtain ⟨s₂, o, h1, h2, h3, v, L, rfl, ⟨hq, hsz⟩, hF⟩ := K (s.setVm T'.vm) a T' h' k1 X' e' E' hk hZ' hown'
  obtain ⟨a1, b1, c1⟩ := hS.ended (U := s₂) hF.2.1 hsz hF.2.2
  exact ⟨s₂, _, st' _ h1, h2, h3, v, L, rfl, hq, ⟨v, rfl⟩, a1, b1, c1⟩
end Own
theorem pd__I_Lcom_example_rollcall_rollcall_Api_ : parseMethodDescriptor "(I)Lcom/example/rollcall/rollcall/Api;" = some ⟨[.int], some (.object "com/example/rollcall/rollcall/Api")⟩ := by decide +kernel
theorem pd__I_Z : parseMethodDescriptor "(I)Z" = some ⟨[.int], some .boolean⟩ := by decide +kernel
theorem pd__I_I : parseMethodDescriptor "(I)I" = some ⟨[.int], some .int⟩ := by decide +kernel
theorem d1_0 : decode method_3_code 0 = .ok (.iload_n 0, 1) := by decide +kernel
theorem d1_1 : decode method_3_code 1 = .ok (.ifCond .ne 7, 3) := by decide +kernel
theorem d1_4 : decode method_3_code 4 = .ok (.getstatic 24, 3) := by decide +kernel
theorem d1_7 : decode method_3_code 7 = .ok (.areturn, 1) := by decide +kernel
theorem d1_8 : decode method_3_code 8 = .ok (.iload_n 0, 1) := by decide +kernel
theorem d1_9 : decode method_3_code 9 = .ok (.iconst 1, 1) := by decide +kernel
theorem d1_10 : decode method_3_code 10 = .ok (.if_icmp .ne 7, 3) := by decide +kernel
theorem d1_13 : decode method_3_code 13 = .ok (.getstatic 28, 3) := by decide +kernel
theorem d1_16 : decode method_3_code 16 = .ok (.areturn, 1) := by decide +kernel
theorem d1_17 : decode method_3_code 17 = .ok (.iload_n 0, 1) := by decide +kernel
theorem d1_18 : decode method_3_code 18 = .ok (.iconst 2, 1) := by decide +kernel
theorem d1_19 : decode method_3_code 19 = .ok (.if_icmp .ne 7, 3) := by decide +kernel
theorem d1_22 : decode method_3_code 22 = .ok (.getstatic 31, 3) := by decide +kernel
theorem d1_25 : decode method_3_code 25 = .ok (.areturn, 1) := by decide +kernel
theorem d1_26 : decode method_3_code 26 = .ok (.iload_n 0, 1) := by decide +kernel
theorem d1_27 : decode method_3_code 27 = .ok (.iconst 3, 1) := by decide +kernel
theorem d1_28 : decode method_3_code 28 = .ok (.if_icmp .ne 7, 3) := by decide +kernel
theorem d1_31 : decode method_3_code 31 = .ok (.getstatic 34, 3) := by decide +kernel
theorem d1_34 : decode method_3_code 34 = .ok (.areturn, 1) := by decide +kernel
theorem d1_35 : decode method_3_code 35 = .ok (.iload_n 0, 1) := by decide +kernel
theorem d1_36 : decode method_3_code 36 = .ok (.iconst 4, 1) := by decide +kernel
theorem d1_37 : decode method_3_code 37 = .ok (.if_icmp .ne 7, 3) := by decide +kernel
theorem d1_40 : decode method_3_code 40 = .ok (.getstatic 37, 3) := by decide +kernel
theorem d1_43 : decode method_3_code 43 = .ok (.areturn, 1) := by decide +kernel
theorem d1_44 : decode method_3_code 44 = .ok (.iload_n 0, 1) := by decide +kernel
theorem d1_45 : decode method_3_code 45 = .ok (.iconst 5, 1) := by decide +kernel
theorem d1_46 : decode method_3_code 46 = .ok (.if_icmp .ne 7, 3) := by decide +kernel
theorem d1_49 : decode method_3_code 49 = .ok (.getstatic 40, 3) := by decide +kernel
theorem d1_52 : decode method_3_code 52 = .ok (.areturn, 1) := by decide +kernel
theorem d1_53 : decode method_3_code 53 = .ok (.iload_n 0, 1) := by decide +kernel
theorem d1_54 : decode method_3_code 54 = .ok (.bipush 6, 2) := by decide +kernel
theorem d1_56 : decode method_3_code 56 = .ok (.if_icmp .ne 7, 3) := by decide +kernel
theorem d1_59 : decode method_3_code 59 = .ok (.getstatic 43, 3) := by decide +kernel
theorem d1_62 : decode method_3_code 62 = .ok (.areturn, 1) := by decide +kernel
theorem d1_63 : decode method_3_code 63 = .ok (.iload_n 0, 1) := by decide +kernel
theorem d1_64 : decode method_3_code 64 = .ok (.bipush 7, 2) := by decide +kernel
theorem d1_66 : decode method_3_code 66 = .ok (.if_icmp .ne 7, 3) := by decide +kernel
theorem d1_69 : decode method_3_code 69 = .ok (.getstatic 46, 3) := by decide +kernel
theorem d1_72 : decode method_3_code 72 = .ok (.areturn, 1) := by decide +kernel
theorem d1_73 : decode method_3_code 73 = .ok (.iload_n 0, 1) := by decide +kernel
theorem d1_74 : decode method_3_code 74 = .ok (.bipush 8, 2) := by decide +kernel
theorem d1_76 : decode method_3_code 76 = .ok (.if_icmp .ne 7, 3) := by decide +kernel
theorem d1_79 : decode method_3_code 79 = .ok (.getstatic 49, 3) := by decide +kernel
theorem d1_82 : decode method_3_code 82 = .ok (.areturn, 1) := by decide +kernel
theorem d1_83 : decode method_3_code 83 = .ok (.iload_n 0, 1) := by decide +kernel
theorem d1_84 : decode method_3_code 84 = .ok (.bipush 9, 2) := by decide +kernel
theorem d1_86 : decode method_3_code 86 = .ok (.if_icmp .ne 7, 3) := by decide +kernel
theorem d1_89 : decode method_3_code 89 = .ok (.getstatic 52, 3) := by decide +kernel
theorem d1_92 : decode method_3_code 92 = .ok (.areturn, 1) := by decide +kernel
theorem d1_93 : decode method_3_code 93 = .ok (.iload_n 0, 1) := by decide +kernel
theorem d1_94 : decode method_3_code 94 = .ok (.bipush 10, 2) := by decide +kernel
theorem d1_96 : decode method_3_code 96 = .ok (.if_icmp .ne 7, 3) := by decide +kernel
theorem d1_99 : decode method_3_code 99 = .ok (.getstatic 55, 3) := by decide +kernel
theorem d1_102 : decode method_3_code 102 = .ok (.areturn, 1) := by decide +kernel
theorem d1_103 : decode method_3_code 103 = .ok (.iload_n 0, 1) := by decide +kernel
theorem d1_104 : decode method_3_code 104 = .ok (.bipush 11, 2) := by decide +kernel
theorem d1_106 : decode method_3_code 106 = .ok (.if_icmp .ne 7, 3) := by decide +kernel
theorem d1_109 : decode method_3_code 109 = .ok (.getstatic 58, 3) := by decide +kernel
theorem d1_112 : decode method_3_code 112 = .ok (.areturn, 1) := by decide +kernel
theorem d1_113 : decode method_3_code 113 = .ok (.iload_n 0, 1) := by decide +kernel
theorem d1_114 : decode method_3_code 114 = .ok (.bipush 12, 2) := by decide +kernel
theorem d1_116 : decode method_3_code 116 = .ok (.if_icmp .ne 7, 3) := by decide +kernel
theorem d1_119 : decode method_3_code 119 = .ok (.getstatic 61, 3) := by decide +kernel
theorem d1_122 : decode method_3_code 122 = .ok (.areturn, 1) := by decide +kernel
theorem d1_123 : decode method_3_code 123 = .ok (.iload_n 0, 1) := by decide +kernel
theorem d1_124 : decode method_3_code 124 = .ok (.bipush 13, 2) := by decide +kernel
theorem d1_126 : decode method_3_code 126 = .ok (.if_icmp .ne 7, 3) := by decide +kernel
theorem d1_129 : decode method_3_code 129 = .ok (.getstatic 64, 3) := by decide +kernel
theorem d1_132 : decode method_3_code 132 = .ok (.areturn, 1) := by decide +kernel
theorem d1_133 : decode method_3_code 133 = .ok (.iload_n 0, 1) := by decide +kernel
theorem d1_134 : decode method_3_code 134 = .ok (.bipush 14, 2) := by decide +kernel
theorem d1_136 : decode method_3_code 136 = .ok (.if_icmp .ne 7, 3) := by decide +kernel
theorem d1_139 : decode method_3_code 139 = .ok (.getstatic 67, 3) := by decide +kernel
theorem d1_142 : decode method_3_code 142 = .ok (.areturn, 1) := by decide +kernel
theorem d1_143 : decode method_3_code 143 = .ok (.getstatic 70, 3) := by decide +kernel
theorem d1_146 : decode method_3_code 146 = .ok (.areturn, 1) := by decide +kernel
theorem pn_rm1 : plainName "com/example/rollcall/rollcall/ApiServesPinLaw" = true := by first | (simp [plainName, overriddenIn]; done) | decide +kernel
theorem ef_rm1 (m : MethodId) (x0 : Int32) : entryFrame m #[(.int x0)] 1 = mkF m 0 #[.val (.int x0)] [] := by first | (simp [entryFrame, mkF, argsToLocals, Value.category]; done) | rfl
def own_pick (p1 : Int32) (k0 : Addr) (k1 : Addr) (k2 : Addr) (k3 : Addr) (k4 : Addr) (k5 : Addr) (k6 : Addr) (k7 : Addr) (k8 : Addr) (k9 : Addr) (k10 : Addr) (k11 : Addr) (k12 : Addr) (k13 : Addr) (k14 : Addr) (k15 : Addr) : Addr := (if p1 = (0 : Int32) then k0 else (if p1 = (1 : Int32) then k1 else (if p1 = (2 : Int32) then k2 else (if p1 = (3 : Int32) then k3 else (if p1 = (4 : Int32) then k4 else (if p1 = (5 : Int32) then k5 else (if p1 = (6 : Int32) then k6 else (if p1 = (7 : Int32) then k7 else (if p1 = (8 : Int32) then k8 else (if p1 = (9 : Int32) then k9 else (if p1 = (10 : Int32) then k10 else (if p1 = (11 : Int32) then k11 else (if p1 = (12 : Int32) then k12 else (if p1 = (13 : Int32) then k13 else (if p1 = (14 : Int32) then k14 else k15)))))))))))))))
def Q1 (Z : State) (p1 : Int32) (k0 : Addr) (k1 : Addr) (k2 : Addr) (k3 : Addr) (k4 : Addr) (k5 : Addr) (k6 : Addr) (k7 : Addr) (k8 : Addr) (k9 : Addr) (k10 : Addr) (k11 : Addr) (k12 : Addr) (k13 : Addr) (k14 : Addr) (k15 : Addr) (h0 : Heap) (n0 : Nat) (v : Option Value) (h : Heap) (L : List Loc) : Prop := v = some (.ref (own_pick p1 k0 k1 k2 k3 k4 k5 k6 k7 k8 k9 k10 k11 k12 k13 k14 k15)) ∧ Fr n0 L ∧ h = h0
set_option maxRecDepth 65536 in
set_option maxHeartbeats 40000000 in
theorem rm1 (l : Launch) (Z : State) (a0 : Array Value) (hw : ∀ d ∈ tables_1, d.before a0 Z = true) (ws : List Jvm.Cond) (p1 : Int32) (k0 : Addr) (k1 : Addr) (k2 : Addr) (k3 : Addr) (k4 : Addr) (k5 : Addr) (k6 : Addr) (k7 : Addr) (k8 : Addr) (k9 : Addr) (k10 : Addr) (k11 : Addr) (k12 : Addr) (k13 : Addr) (k14 : Addr) (k15 : Addr) (h0 : Heap) (n0 : Nat) (Z0 : n0 ≤ h0.size) (S_FETCH : Sta Z h0 "com/example/rollcall/rollcall/Api" "FETCH" "Lcom/example/rollcall/rollcall/Api;" (.ref k0)) (S_LIST_OFFSETS : Sta Z h0 "com/example/rollcall/rollcall/Api" "LIST_OFFSETS" "Lcom/example/rollcall/rollcall/Api;" (.ref k1)) (S_METADATA : Sta Z h0 "com/example/rollcall/rollcall/Api" "METADATA" "Lcom/example/rollcall/rollcall/Api;" (.ref k2)) (S_OFFSET_COMMIT : Sta Z h0 "com/example/rollcall/rollcall/Api" "OFFSET_COMMIT" "Lcom/example/rollcall/rollcall/Api;" (.ref k3)) (S_OFFSET_FETCH : Sta Z h0 "com/example/rollcall/rollcall/Api" "OFFSET_FETCH" "Lcom/example/rollcall/rollcall/Api;" (.ref k4)) (S_FIND_COORDINATOR : Sta Z h0 "com/example/rollcall/rollcall/Api" "FIND_COORDINATOR" "Lcom/example/rollcall/rollcall/Api;" (.ref k5)) (S_JOIN_GROUP : Sta Z h0 "com/example/rollcall/rollcall/Api" "JOIN_GROUP" "Lcom/example/rollcall/rollcall/Api;" (.ref k6)) (S_HEARTBEAT : Sta Z h0 "com/example/rollcall/rollcall/Api" "HEARTBEAT" "Lcom/example/rollcall/rollcall/Api;" (.ref k7)) (S_LEAVE_GROUP : Sta Z h0 "com/example/rollcall/rollcall/Api" "LEAVE_GROUP" "Lcom/example/rollcall/rollcall/Api;" (.ref k8)) (S_SYNC_GROUP : Sta Z h0 "com/example/rollcall/rollcall/Api" "SYNC_GROUP" "Lcom/example/rollcall/rollcall/Api;" (.ref k9)) (S_DESCRIBE_GROUPS : Sta Z h0 "com/example/rollcall/rollcall/Api" "DESCRIBE_GROUPS" "Lcom/example/rollcall/rollcall/Api;" (.ref k10)) (S_LIST_GROUPS : Sta Z h0 "com/example/rollcall/rollcall/Api" "LIST_GROUPS" "Lcom/example/rollcall/rollcall/Api;" (.ref k11)) (S_API_VERSIONS : Sta Z h0 "com/example/rollcall/rollcall/Api" "API_VERSIONS" "Lcom/example/rollcall/rollcall/Api;" (.ref k12)) (S_CREATE_PARTITIONS : Sta Z h0 "com/example/rollcall/rollcall/Api" "CREATE_PARTITIONS" "Lcom/example/rollcall/rollcall/Api;" (.ref k13)) (S_DELETE_GROUPS : Sta Z h0 "com/example/rollcall/rollcall/Api" "DELETE_GROUPS" "Lcom/example/rollcall/rollcall/Api;" (.ref k14)) (S_JOURNAL_COPY : Sta Z h0 "com/example/rollcall/rollcall/Api" "JOURNAL_COPY" "Lcom/example/rollcall/rollcall/Api;" (.ref k15)) :
    MetFree l (⟨"com/example/rollcall/rollcall/ApiServesPinLaw", "pick", "(I)Lcom/example/rollcall/rollcall/Api;"⟩ : MethodName) (head1 (Jvm.Cond.code (⟨"com/example/rollcall/rollcall/ApiServesPinLaw", "pick", "(I)Lcom/example/rollcall/rollcall/Api;"⟩ : MethodName) method_3_code 1 (some (.object "com/example/rollcall/rollcall/Api")) :: ws) ({ frames := 0, cells := 0, slots := 0, locals := 0 } : Room)) (fun a U => a = #[(.int p1)] ∧ Z.Warmed39 U.vm ∧ U.heap = h0) (fun _ _ _ _ _ => True) (fun _ U o U' => ∃ v L, o = .returned v ∧ Q1 Z p1 k0 k1 k2 k3 k4 k5 k6 k7 k8 k9 k10 k11 k12 k13 k14 k15 h0 n0 v U'.heap L ∧ FrameEnd U o U' L ({ frames := 0, cells := 0, slots := 0, locals := 0 } : Room).cells ({ frames := 0, cells := 0, slots := 0, locals := 0 } : Room).slots) := by
  refine MetFree.of_bodySF (plainFor_of_name pn_rm1) hisR ?_
  intro p e s m args below meth c s₁ Bd hml0 hP hK
  obtain ⟨rfl, hZ, hh⟩ := hP
  have hx := Bd.exec
  have hby := Bd.bytes
  have hlk : meth.locks = false := BodyLoose.notSynchronized Bd
  have hml : c.maxLocals = 1 := hml0
  have hown : s.vm.findClass "com/example/rollcall/rollcall/ApiServesPinLaw" = some m.cls := findClass_of_methodNamed Bd.named
  have hnm := (name_of_methodNamed Bd.named Bd.method).1
  have X0 : Stand p l e ({ frames := 0, cells := 0, slots := 0, locals := 0 } : Room) s m #[(.int p1)] below meth c s₁ [] 0 0 := Stand.of_body Bd
  have e0 : s₁.heap = h0 := by rw [← hh, Bd.state]; rfl
  have N0 := Fr.nil n0
  show OwnW p e below (OwnG s (Q1 Z p1 k0 k1 k2 k3 k4 k5 k6 k7 k8 k9 k10 k11 k12 k13 k14 k15 h0 n0) ({ frames := 0, cells := 0, slots := 0, locals := 0 } : Room).cells ({ frames := 0, cells := 0, slots := 0, locals := 0 } : Room).slots) (s₁.setTop (entryFrame m #[(.int p1)] 1))
  rw [ef_rm1]
  refine own_iloadN X0 hx (hb hby d1_0) rfl 1 rfl ?_
  by_cases hc1 : p1 = (0 : Int32)
  · -- hc1
    refine own_ifN X0 hx (hb hby d1_1) (teq hc1).2 4 (by decide) ?_
    refine own_getS X0 hx hZ hown (hw _ (List.mem_of_getElem? (i := 5) rfl)) Via.refl e0 S_FETCH (hb hby d1_4) 7 rfl ?_
    intro T1 X1 e1
    refine own_retA X1 hx hlk Bd.returns rfl rfl rfl (hb hby d1_7) (by decide) (by decide) ?_
    show Q1 Z p1 k0 k1 k2 k3 k4 k5 k6 k7 k8 k9 k10 k11 k12 k13 k14 k15 h0 n0 _ T1.heap _
    rw [e1]
    exact ⟨by rw [own_pick, if_pos hc1], N0, rfl⟩
  · -- not hc1
    refine own_ifY X0 hx (hb hby d1_1) (feq hc1).2 8 (by decide) ?_
    refine own_iloadN X0 hx (hb hby d1_8) rfl 9 rfl ?_
    refine own_iconst X0 hx (hb hby d1_9) (1 : Int32) rfl 10 rfl ?_
    by_cases hc10 : p1 = (1 : Int32)
    · -- hc10
      refine own_icmpN X0 hx (hb hby d1_10) (teq hc10).2 13 (by decide) ?_
      refine own_getS X0 hx hZ hown (hw _ (List.mem_of_getElem? (i := 36) rfl)) Via.refl e0 S_LIST_OFFSETS (hb hby d1_13) 16 rfl ?_
      intro T2 X2 e2
      refine own_retA X2 hx hlk Bd.returns rfl rfl rfl (hb hby d1_16) (by decide) (by decide) ?_
      show Q1 Z p1 k0 k1 k2 k3 k4 k5 k6 k7 k8 k9 k10 k11 k12 k13 k14 k15 h0 n0 _ T2.heap _
      rw [e2]
      exact ⟨by rw [own_pick, if_neg hc1, if_pos hc10], N0, rfl⟩
    · -- not hc10
      refine own_icmpY X0 hx (hb hby d1_10) (feq hc10).2 17 (by decide) ?_
      refine own_iloadN X0 hx (hb hby d1_17) rfl 18 rfl ?_
      refine own_iconst X0 hx (hb hby d1_18) (2 : Int32) rfl 19 rfl ?_
      by_cases hc19 : p1 = (2 : Int32)
      · -- hc19
        refine own_icmpN X0 hx (hb hby d1_19) (teq hc19).2 22 (by decide) ?_
        refine own_getS X0 hx hZ hown (hw _ (List.mem_of_getElem? (i := 40) rfl)) Via.refl e0 S_METADATA (hb hby d1_22) 25 rfl ?_
        intro T3 X3 e3
        refine own_retA X3 hx hlk Bd.returns rfl rfl rfl (hb hby d1_25) (by decide) (by decide) ?_
        show Q1 Z p1 k0 k1 k2 k3 k4 k5 k6 k7 k8 k9 k10 k11 k12 k13 k14 k15 h0 n0 _ T3.heap _
        rw [e3]
        exact ⟨by rw [own_pick, if_neg hc1, if_neg hc10, if_pos hc19], N0, rfl⟩
      · -- not hc19
        refine own_icmpY X0 hx (hb hby d1_19) (feq hc19).2 26 (by decide) ?_
        refine own_iloadN X0 hx (hb hby d1_26) rfl 27 rfl ?_
        refine own_iconst X0 hx (hb hby d1_27) (3 : Int32) rfl 28 rfl ?_
        by_cases hc28 : p1 = (3 : Int32)
        · -- hc28
          refine own_icmpN X0 hx (hb hby d1_28) (teq hc28).2 31 (by decide) ?_
          refine own_getS X0 hx hZ hown (hw _ (List.mem_of_getElem? (i := 32) rfl)) Via.refl e0 S_OFFSET_COMMIT (hb hby d1_31) 34 rfl ?_
          intro T4 X4 e4
          refine own_retA X4 hx hlk Bd.returns rfl rfl rfl (hb hby d1_34) (by decide) (by decide) ?_
          show Q1 Z p1 k0 k1 k2 k3 k4 k5 k6 k7 k8 k9 k10 k11 k12 k13 k14 k15 h0 n0 _ T4.heap _
          rw [e4]
          exact ⟨by rw [own_pick, if_neg hc1, if_neg hc10, if_neg hc19, if_pos hc28], N0, rfl⟩
        · -- not hc28
          refine own_icmpY X0 hx (hb hby d1_28) (feq hc28).2 35 (by decide) ?_
          refine own_iloadN X0 hx (hb hby d1_35) rfl 36 rfl ?_
          refine own_iconst X0 hx (hb hby d1_36) (4 : Int32) rfl 37 rfl ?_
          by_cases hc37 : p1 = (4 : Int32)
          · -- hc37
            refine own_icmpN X0 hx (hb hby d1_37) (teq hc37).2 40 (by decide) ?_
            refine own_getS X0 hx hZ hown (hw _ (List.mem_of_getElem? (i := 48) rfl)) Via.refl e0 S_OFFSET_FETCH (hb hby d1_40) 43 rfl ?_
            intro T5 X5 e5
            refine own_retA X5 hx hlk Bd.returns rfl rfl rfl (hb hby d1_43) (by decide) (by decide) ?_
            show Q1 Z p1 k0 k1 k2 k3 k4 k5 k6 k7 k8 k9 k10 k11 k12 k13 k14 k15 h0 n0 _ T5.heap _
            rw [e5]
            exact ⟨by rw [own_pick, if_neg hc1, if_neg hc10, if_neg hc19, if_neg hc28, if_pos hc37], N0, rfl⟩
          · -- not hc37
            refine own_icmpY X0 hx (hb hby d1_37) (feq hc37).2 44 (by decide) ?_
            refine own_iloadN X0 hx (hb hby d1_44) rfl 45 rfl ?_
            refine own_iconst X0 hx (hb hby d1_45) (5 : Int32) rfl 46 rfl ?_
            by_cases hc46 : p1 = (5 : Int32)
            · -- hc46
              refine own_icmpN X0 hx (hb hby d1_46) (teq hc46).2 49 (by decide) ?_
              refine own_getS X0 hx hZ hown (hw _ (List.mem_of_getElem? (i := 38) rfl)) Via.refl e0 S_FIND_COORDINATOR (hb hby d1_49) 52 rfl ?_
              intro T6 X6 e6
              refine own_retA X6 hx hlk Bd.returns rfl rfl rfl (hb hby d1_52) (by decide) (by decide) ?_
              show Q1 Z p1 k0 k1 k2 k3 k4 k5 k6 k7 k8 k9 k10 k11 k12 k13 k14 k15 h0 n0 _ T6.heap _
              rw [e6]
              exact ⟨by rw [own_pick, if_neg hc1, if_neg hc10, if_neg hc19, if_neg hc28, if_neg hc37, if_pos hc46], N0, rfl⟩
            · -- not hc46
              refine own_icmpY X0 hx (hb hby d1_46) (feq hc46).2 53 (by decide) ?_
              refine own_iloadN X0 hx (hb hby d1_53) rfl 54 rfl ?_
              refine own_bipush X0 hx (hb hby d1_54) (6 : Int32) rfl 56 rfl ?_
              by_cases hc56 : p1 = (6 : Int32)
              · -- hc56
                refine own_icmpN X0 hx (hb hby d1_56) (teq hc56).2 59 (by decide) ?_
                refine own_getS X0 hx hZ hown (hw _ (List.mem_of_getElem? (i := 28) rfl)) Via.refl e0 S_JOIN_GROUP (hb hby d1_59) 62 rfl ?_
                intro T7 X7 e7
                refine own_retA X7 hx hlk Bd.returns rfl rfl rfl (hb hby d1_62) (by decide) (by decide) ?_
                show Q1 Z p1 k0 k1 k2 k3 k4 k5 k6 k7 k8 k9 k10 k11 k12 k13 k14 k15 h0 n0 _ T7.heap _
                rw [e7]
                exact ⟨by rw [own_pick, if_neg hc1, if_neg hc10, if_neg hc19, if_neg hc28, if_neg hc37, if_neg hc46, if_pos hc56], N0, rfl⟩
              · -- not hc56
                refine own_icmpY X0 hx (hb hby d1_56) (feq hc56).2 63 (by decide) ?_
                refine own_iloadN X0 hx (hb hby d1_63) rfl 64 rfl ?_
                refine own_bipush X0 hx (hb hby d1_64) (7 : Int32) rfl 66 rfl ?_
                by_cases hc66 : p1 = (7 : Int32)
                · -- hc66
                  refine own_icmpN X0 hx (hb hby d1_66) (teq hc66).2 69 (by decide) ?_
                  refine own_getS X0 hx hZ hown (hw _ (List.mem_of_getElem? (i := 30) rfl)) Via.refl e0 S_HEARTBEAT (hb hby d1_69) 72 rfl ?_
                  intro T8 X8 e8
                  refine own_retA X8 hx hlk Bd.returns rfl rfl rfl (hb hby d1_72) (by decide) (by decide) ?_
                  show Q1 Z p1 k0 k1 k2 k3 k4 k5 k6 k7 k8 k9 k10 k11 k12 k13 k14 k15 h0 n0 _ T8.heap _
                  rw [e8]
                  exact ⟨by rw [own_pick, if_neg hc1, if_neg hc10, if_neg hc19, if_neg hc28, if_neg hc37, if_neg hc46, if_neg hc56, if_pos hc66], N0, rfl⟩
                · -- not hc66
                  refine own_icmpY X0 hx (hb hby d1_66) (feq hc66).2 73 (by decide) ?_
                  refine own_iloadN X0 hx (hb hby d1_73) rfl 74 rfl ?_
                  refine own_bipush X0 hx (hb hby d1_74) (8 : Int32) rfl 76 rfl ?_
                  by_cases hc76 : p1 = (8 : Int32)
                  · -- hc76
                    refine own_icmpN X0 hx (hb hby d1_76) (teq hc76).2 79 (by decide) ?_
                    refine own_getS X0 hx hZ hown (hw _ (List.mem_of_getElem? (i := 24) rfl)) Via.refl e0 S_LEAVE_GROUP (hb hby d1_79) 82 rfl ?_
                    intro T9 X9 e9
                    refine own_retA X9 hx hlk Bd.returns rfl rfl rfl (hb hby d1_82) (by decide) (by decide) ?_
                    show Q1 Z p1 k0 k1 k2 k3 k4 k5 k6 k7 k8 k9 k10 k11 k12 k13 k14 k15 h0 n0 _ T9.heap _
                    rw [e9]
                    exact ⟨by rw [own_pick, if_neg hc1, if_neg hc10, if_neg hc19, if_neg hc28, if_neg hc37, if_neg hc46, if_neg hc56, if_neg hc66, if_pos hc76], N0, rfl⟩
                  · -- not hc76
                    refine own_icmpY X0 hx (hb hby d1_76) (feq hc76).2 83 (by decide) ?_
                    refine own_iloadN X0 hx (hb hby d1_83) rfl 84 rfl ?_
                    refine own_bipush X0 hx (hb hby d1_84) (9 : Int32) rfl 86 rfl ?_
                    by_cases hc86 : p1 = (9 : Int32)
                    · -- hc86
                      refine own_icmpN X0 hx (hb hby d1_86) (teq hc86).2 89 (by decide) ?_
                      refine own_getS X0 hx hZ hown (hw _ (List.mem_of_getElem? (i := 46) rfl)) Via.refl e0 S_SYNC_GROUP (hb hby d1_89) 92 rfl ?_
                      intro T10 X10 e10
                      refine own_retA X10 hx hlk Bd.returns rfl rfl rfl (hb hby d1_92) (by decide) (by decide) ?_
                      show Q1 Z p1 k0 k1 k2 k3 k4 k5 k6 k7 k8 k9 k10 k11 k12 k13 k14 k15 h0 n0 _ T10.heap _
                      rw [e10]
                      exact ⟨by rw [own_pick, if_neg hc1, if_neg hc10, if_neg hc19, if_neg hc28, if_neg hc37, if_neg hc46, if_neg hc56, if_neg hc66, if_neg hc76, if_pos hc86], N0, rfl⟩
                    · -- not hc86
                      refine own_icmpY X0 hx (hb hby d1_86) (feq hc86).2 93 (by decide) ?_
                      refine own_iloadN X0 hx (hb hby d1_93) rfl 94 rfl ?_
                      refine own_bipush X0 hx (hb hby d1_94) (10 : Int32) rfl 96 rfl ?_
                      by_cases hc96 : p1 = (10 : Int32)
                      · -- hc96
                        refine own_icmpN X0 hx (hb hby d1_96) (teq hc96).2 99 (by decide) ?_
                        refine own_getS X0 hx hZ hown (hw _ (List.mem_of_getElem? (i := 42) rfl)) Via.refl e0 S_DESCRIBE_GROUPS (hb hby d1_99) 102 rfl ?_
                        intro T11 X11 e11
                        refine own_retA X11 hx hlk Bd.returns rfl rfl rfl (hb hby d1_102) (by decide) (by decide) ?_
                        show Q1 Z p1 k0 k1 k2 k3 k4 k5 k6 k7 k8 k9 k10 k11 k12 k13 k14 k15 h0 n0 _ T11.heap _
                        rw [e11]
                        exact ⟨by rw [own_pick, if_neg hc1, if_neg hc10, if_neg hc19, if_neg hc28, if_neg hc37, if_neg hc46, if_neg hc56, if_neg hc66, if_neg hc76, if_neg hc86, if_pos hc96], N0, rfl⟩
                      · -- not hc96
                        refine own_icmpY X0 hx (hb hby d1_96) (feq hc96).2 103 (by decide) ?_
                        refine own_iloadN X0 hx (hb hby d1_103) rfl 104 rfl ?_
                        refine own_bipush X0 hx (hb hby d1_104) (11 : Int32) rfl 106 rfl ?_
                        by_cases hc106 : p1 = (11 : Int32)
                        · -- hc106
                          refine own_icmpN X0 hx (hb hby d1_106) (teq hc106).2 109 (by decide) ?_
                          refine own_getS X0 hx hZ hown (hw _ (List.mem_of_getElem? (i := 44) rfl)) Via.refl e0 S_LIST_GROUPS (hb hby d1_109) 112 rfl ?_
                          intro T12 X12 e12
                          refine own_retA X12 hx hlk Bd.returns rfl rfl rfl (hb hby d1_112) (by decide) (by decide) ?_
                          show Q1 Z p1 k0 k1 k2 k3 k4 k5 k6 k7 k8 k9 k10 k11 k12 k13 k14 k15 h0 n0 _ T12.heap _
                          rw [e12]
                          exact ⟨by rw [own_pick, if_neg hc1, if_neg hc10, if_neg hc19, if_neg hc28, if_neg hc37, if_neg hc46, if_neg hc56, if_neg hc66, if_neg hc76, if_neg hc86, if_neg hc96, if_pos hc106], N0, rfl⟩
                        · -- not hc106
                          refine own_icmpY X0 hx (hb hby d1_106) (feq hc106).2 113 (by decide) ?_
                          refine own_iloadN X0 hx (hb hby d1_113) rfl 114 rfl ?_
                          refine own_bipush X0 hx (hb hby d1_114) (12 : Int32) rfl 116 rfl ?_
                          by_cases hc116 : p1 = (12 : Int32)
                          · -- hc116
                            refine own_icmpN X0 hx (hb hby d1_116) (teq hc116).2 119 (by decide) ?_
                            refine own_getS X0 hx hZ hown (hw _ (List.mem_of_getElem? (i := 22) rfl)) Via.refl e0 S_API_VERSIONS (hb hby d1_119) 122 rfl ?_
                            intro T13 X13 e13
                            refine own_retA X13 hx hlk Bd.returns rfl rfl rfl (hb hby d1_122) (by decide) (by decide) ?_
                            show Q1 Z p1 k0 k1 k2 k3 k4 k5 k6 k7 k8 k9 k10 k11 k12 k13 k14 k15 h0 n0 _ T13.heap _
                            rw [e13]
                            exact ⟨by rw [own_pick, if_neg hc1, if_neg hc10, if_neg hc19, if_neg hc28, if_neg hc37, if_neg hc46, if_neg hc56, if_neg hc66, if_neg hc76, if_neg hc86, if_neg hc96, if_neg hc106, if_pos hc116], N0, rfl⟩
                          · -- not hc116
                            refine own_icmpY X0 hx (hb hby d1_116) (feq hc116).2 123 (by decide) ?_
                            refine own_iloadN X0 hx (hb hby d1_123) rfl 124 rfl ?_
                            refine own_bipush X0 hx (hb hby d1_124) (13 : Int32) rfl 126 rfl ?_
                            by_cases hc126 : p1 = (13 : Int32)
                            · -- hc126
                              refine own_icmpN X0 hx (hb hby d1_126) (teq hc126).2 129 (by decide) ?_
                              refine own_getS X0 hx hZ hown (hw _ (List.mem_of_getElem? (i := 26) rfl)) Via.refl e0 S_CREATE_PARTITIONS (hb hby d1_129) 132 rfl ?_
                              intro T14 X14 e14
                              refine own_retA X14 hx hlk Bd.returns rfl rfl rfl (hb hby d1_132) (by decide) (by decide) ?_
                              show Q1 Z p1 k0 k1 k2 k3 k4 k5 k6 k7 k8 k9 k10 k11 k12 k13 k14 k15 h0 n0 _ T14.heap _
                              rw [e14]
                              exact ⟨by rw [own_pick, if_neg hc1, if_neg hc10, if_neg hc19, if_neg hc28, if_neg hc37, if_neg hc46, if_neg hc56, if_neg hc66, if_neg hc76, if_neg hc86, if_neg hc96, if_neg hc106, if_neg hc116, if_pos hc126], N0, rfl⟩
                            · -- not hc126
                              refine own_icmpY X0 hx (hb hby d1_126) (feq hc126).2 133 (by decide) ?_
                              refine own_iloadN X0 hx (hb hby d1_133) rfl 134 rfl ?_
                              refine own_bipush X0 hx (hb hby d1_134) (14 : Int32) rfl 136 rfl ?_
                              by_cases hc136 : p1 = (14 : Int32)
                              · -- hc136
                                refine own_icmpN X0 hx (hb hby d1_136) (teq hc136).2 139 (by decide) ?_
                                refine own_getS X0 hx hZ hown (hw _ (List.mem_of_getElem? (i := 20) rfl)) Via.refl e0 S_DELETE_GROUPS (hb hby d1_139) 142 rfl ?_
                                intro T15 X15 e15
                                refine own_retA X15 hx hlk Bd.returns rfl rfl rfl (hb hby d1_142) (by decide) (by decide) ?_
                                show Q1 Z p1 k0 k1 k2 k3 k4 k5 k6 k7 k8 k9 k10 k11 k12 k13 k14 k15 h0 n0 _ T15.heap _
                                rw [e15]
                                exact ⟨by rw [own_pick, if_neg hc1, if_neg hc10, if_neg hc19, if_neg hc28, if_neg hc37, if_neg hc46, if_neg hc56, if_neg hc66, if_neg hc76, if_neg hc86, if_neg hc96, if_neg hc106, if_neg hc116, if_neg hc126, if_pos hc136], N0, rfl⟩
                              · -- not hc136
                                refine own_icmpY X0 hx (hb hby d1_136) (feq hc136).2 143 (by decide) ?_
                                refine own_getS X0 hx hZ hown (hw _ (List.mem_of_getElem? (i := 34) rfl)) Via.refl e0 S_JOURNAL_COPY (hb hby d1_143) 146 rfl ?_
                                intro T16 X16 e16
                                refine own_retA X16 hx hlk Bd.returns rfl rfl rfl (hb hby d1_146) (by decide) (by decide) ?_
                                show Q1 Z p1 k0 k1 k2 k3 k4 k5 k6 k7 k8 k9 k10 k11 k12 k13 k14 k15 h0 n0 _ T16.heap _
                                rw [e16]
                                exact ⟨by rw [own_pick, if_neg hc1, if_neg hc10, if_neg hc19, if_neg hc28, if_neg hc37, if_neg hc46, if_neg hc56, if_neg hc66, if_neg hc76, if_neg hc86, if_neg hc96, if_neg hc106, if_neg hc116, if_neg hc126, if_neg hc136], N0, rfl⟩
theorem d2_0 : decode method_4_code 0 = .ok (.iload_n 0, 1) := by decide +kernel
theorem d2_1 : decode method_4_code 1 = .ok (.ifCond .ne 5, 3) := by decide +kernel
theorem d2_4 : decode method_4_code 4 = .ok (.iconst 4, 1) := by decide +kernel
theorem d2_5 : decode method_4_code 5 = .ok (.ireturn, 1) := by decide +kernel
theorem d2_6 : decode method_4_code 6 = .ok (.iload_n 0, 1) := by decide +kernel
theorem d2_7 : decode method_4_code 7 = .ok (.iconst 1, 1) := by decide +kernel
theorem d2_8 : decode method_4_code 8 = .ok (.if_icmp .ne 5, 3) := by decide +kernel
theorem d2_11 : decode method_4_code 11 = .ok (.iconst 1, 1) := by decide +kernel
theorem d2_12 : decode method_4_code 12 = .ok (.ireturn, 1) := by decide +kernel
theorem d2_13 : decode method_4_code 13 = .ok (.iload_n 0, 1) := by decide +kernel
theorem d2_14 : decode method_4_code 14 = .ok (.iconst 2, 1) := by decide +kernel
theorem d2_15 : decode method_4_code 15 = .ok (.if_icmp .ne 5, 3) := by decide +kernel
theorem d2_18 : decode method_4_code 18 = .ok (.iconst 5, 1) := by decide +kernel
theorem d2_19 : decode method_4_code 19 = .ok (.ireturn, 1) := by decide +kernel
theorem d2_20 : decode method_4_code 20 = .ok (.iload_n 0, 1) := by decide +kernel
theorem d2_21 : decode method_4_code 21 = .ok (.iconst 3, 1) := by decide +kernel
theorem d2_22 : decode method_4_code 22 = .ok (.if_icmp .ne 6, 3) := by decide +kernel
theorem d2_25 : decode method_4_code 25 = .ok (.bipush 7, 2) := by decide +kernel
theorem d2_27 : decode method_4_code 27 = .ok (.ireturn, 1) := by decide +kernel
theorem d2_28 : decode method_4_code 28 = .ok (.iload_n 0, 1) := by decide +kernel
theorem d2_29 : decode method_4_code 29 = .ok (.iconst 4, 1) := by decide +kernel
theorem d2_30 : decode method_4_code 30 = .ok (.if_icmp .ne 5, 3) := by decide +kernel
theorem d2_33 : decode method_4_code 33 = .ok (.iconst 5, 1) := by decide +kernel
theorem d2_34 : decode method_4_code 34 = .ok (.ireturn, 1) := by decide +kernel
theorem d2_35 : decode method_4_code 35 = .ok (.iload_n 0, 1) := by decide +kernel
theorem d2_36 : decode method_4_code 36 = .ok (.iconst 5, 1) := by decide +kernel
theorem d2_37 : decode method_4_code 37 = .ok (.if_icmp .ne 5, 3) := by decide +kernel
theorem d2_40 : decode method_4_code 40 = .ok (.iconst 2, 1) := by decide +kernel
theorem d2_41 : decode method_4_code 41 = .ok (.ireturn, 1) := by decide +kernel
theorem d2_42 : decode method_4_code 42 = .ok (.iload_n 0, 1) := by decide +kernel
theorem d2_43 : decode method_4_code 43 = .ok (.bipush 6, 2) := by decide +kernel
theorem d2_45 : decode method_4_code 45 = .ok (.if_icmp .ne 5, 3) := by decide +kernel
theorem d2_48 : decode method_4_code 48 = .ok (.iconst 5, 1) := by decide +kernel
theorem d2_49 : decode method_4_code 49 = .ok (.ireturn, 1) := by decide +kernel
theorem d2_50 : decode method_4_code 50 = .ok (.iload_n 0, 1) := by decide +kernel
theorem d2_51 : decode method_4_code 51 = .ok (.bipush 7, 2) := by decide +kernel
theorem d2_53 : decode method_4_code 53 = .ok (.if_icmp .ne 5, 3) := by decide +kernel
theorem d2_56 : decode method_4_code 56 = .ok (.iconst 3, 1) := by decide +kernel
theorem d2_57 : decode method_4_code 57 = .ok (.ireturn, 1) := by decide +kernel
theorem d2_58 : decode method_4_code 58 = .ok (.iload_n 0, 1) := by decide +kernel
theorem d2_59 : decode method_4_code 59 = .ok (.bipush 8, 2) := by decide +kernel
theorem d2_61 : decode method_4_code 61 = .ok (.if_icmp .ne 5, 3) := by decide +kernel
theorem d2_64 : decode method_4_code 64 = .ok (.iconst 3, 1) := by decide +kernel
theorem d2_65 : decode method_4_code 65 = .ok (.ireturn, 1) := by decide +kernel
theorem d2_66 : decode method_4_code 66 = .ok (.iload_n 0, 1) := by decide +kernel
theorem d2_67 : decode method_4_code 67 = .ok (.bipush 9, 2) := by decide +kernel
theorem d2_69 : decode method_4_code 69 = .ok (.if_icmp .ne 5, 3) := by decide +kernel
theorem d2_72 : decode method_4_code 72 = .ok (.iconst 3, 1) := by decide +kernel
theorem d2_73 : decode method_4_code 73 = .ok (.ireturn, 1) := by decide +kernel
theorem d2_74 : decode method_4_code 74 = .ok (.iload_n 0, 1) := by decide +kernel
theorem d2_75 : decode method_4_code 75 = .ok (.bipush 10, 2) := by decide +kernel
theorem d2_77 : decode method_4_code 77 = .ok (.if_icmp .ne 5, 3) := by decide +kernel
theorem d2_80 : decode method_4_code 80 = .ok (.iconst 1, 1) := by decide +kernel
theorem d2_81 : decode method_4_code 81 = .ok (.ireturn, 1) := by decide +kernel
theorem d2_82 : decode method_4_code 82 = .ok (.iload_n 0, 1) := by decide +kernel
theorem d2_83 : decode method_4_code 83 = .ok (.bipush 11, 2) := by decide +kernel
theorem d2_85 : decode method_4_code 85 = .ok (.if_icmp .ne 5, 3) := by decide +kernel
theorem d2_88 : decode method_4_code 88 = .ok (.iconst 1, 1) := by decide +kernel
theorem d2_89 : decode method_4_code 89 = .ok (.ireturn, 1) := by decide +kernel
theorem d2_90 : decode method_4_code 90 = .ok (.iload_n 0, 1) := by decide +kernel
theorem d2_91 : decode method_4_code 91 = .ok (.bipush 12, 2) := by decide +kernel
theorem d2_93 : decode method_4_code 93 = .ok (.if_icmp .ne 5, 3) := by decide +kernel
theorem d2_96 : decode method_4_code 96 = .ok (.iconst 2, 1) := by decide +kernel
theorem d2_97 : decode method_4_code 97 = .ok (.ireturn, 1) := by decide +kernel
theorem d2_98 : decode method_4_code 98 = .ok (.iload_n 0, 1) := by decide +kernel
theorem d2_99 : decode method_4_code 99 = .ok (.bipush 13, 2) := by decide +kernel
theorem d2_101 : decode method_4_code 101 = .ok (.if_icmp .ne 5, 3) := by decide +kernel
theorem d2_104 : decode method_4_code 104 = .ok (.iconst 1, 1) := by decide +kernel
theorem d2_105 : decode method_4_code 105 = .ok (.ireturn, 1) := by decide +kernel
theorem d2_106 : decode method_4_code 106 = .ok (.iload_n 0, 1) := by decide +kernel
theorem d2_107 : decode method_4_code 107 = .ok (.bipush 14, 2) := by decide +kernel
theorem d2_109 : decode method_4_code 109 = .ok (.if_icmp .ne 5, 3) := by decide +kernel
theorem d2_112 : decode method_4_code 112 = .ok (.iconst 1, 1) := by decide +kernel
theorem d2_113 : decode method_4_code 113 = .ok (.ireturn, 1) := by decide +kernel
theorem d2_114 : decode method_4_code 114 = .ok (.iconst 0, 1) := by decide +kernel
theorem d2_115 : decode method_4_code 115 = .ok (.ireturn, 1) := by decide +kernel
theorem pn_rm2 : plainName "com/example/rollcall/rollcall/ApiServesPinLaw" = true := by first | (simp [plainName, overriddenIn]; done) | decide +kernel
theorem ef_rm2 (m : MethodId) (x0 : Int32) : entryFrame m #[(.int x0)] 1 = mkF m 0 #[.val (.int x0)] [] := by first | (simp [entryFrame, mkF, argsToLocals, Value.category]; done) | rfl
def own_maxOf (p1 : Int32) : Int32 := (if p1 = (0 : Int32) then (4 : Int32) else (if p1 = (1 : Int32) then (1 : Int32) else (if p1 = (2 : Int32) then (5 : Int32) else (if p1 = (3 : Int32) then (7 : Int32) else (if p1 = (4 : Int32) then (5 : Int32) else (if p1 = (5 : Int32) then (2 : Int32) else (if p1 = (6 : Int32) then (5 : Int32) else (if p1 = (7 : Int32) then (3 : Int32) else (if p1 = (8 : Int32) then (3 : Int32) else (if p1 = (9 : Int32) then (3 : Int32) else (if p1 = (10 : Int32) then (1 : Int32) else (if p1 = (11 : Int32) then (1 : Int32) else (if p1 = (12 : Int32) then (2 : Int32) else (if p1 = (13 : Int32) then (1 : Int32) else (if p1 = (14 : Int32) then (1 : Int32) else (0 : Int32))))))))))))))))
def Q2 (Z : State) (p1 : Int32) (h0 : Heap) (n0 : Nat) (v : Option Value) (h : Heap) (L : List Loc) : Prop := v = some (.int (own_maxOf p1)) ∧ Fr n0 L ∧ h = h0
set_option maxRecDepth 65536 in
set_option maxHeartbeats 40000000 in
theorem rm2 (l : Launch) (Z : State) (a0 : Array Value) (hw : ∀ d ∈ tables_1, d.before a0 Z = true) (ws : List Jvm.Cond) (p1 : Int32) (h0 : Heap) (n0 : Nat) (Z0 : n0 ≤ h0.size) :
    MetFree l (⟨"com/example/rollcall/rollcall/ApiServesPinLaw", "maxOf", "(I)I"⟩ : MethodName) (head1 (Jvm.Cond.code (⟨"com/example/rollcall/rollcall/ApiServesPinLaw", "maxOf", "(I)I"⟩ : MethodName) method_4_code 1 (some .int) :: ws) ({ frames := 0, cells := 0, slots := 0, locals := 0 } : Room)) (fun a U => a = #[(.int p1)] ∧ Z.Warmed39 U.vm ∧ U.heap = h0) (fun _ _ _ _ _ => True) (fun _ U o U' => ∃ v L, o = .returned v ∧ Q2 Z p1 h0 n0 v U'.heap L ∧ FrameEnd U o U' L ({ frames := 0, cells := 0, slots := 0, locals := 0 } : Room).cells ({ frames := 0, cells := 0, slots := 0, locals := 0 } : Room).slots) := by
  refine MetFree.of_bodySF (plainFor_of_name pn_rm2) hisR ?_
  intro p e s m args below meth c s₁ Bd hml0 hP hK
  obtain ⟨rfl, hZ, hh⟩ := hP
  have hx := Bd.exec
  have hby := Bd.bytes
  have hlk : meth.locks = false := BodyLoose.notSynchronized Bd
  have hml : c.maxLocals = 1 := hml0
  have hown : s.vm.findClass "com/example/rollcall/rollcall/ApiServesPinLaw" = some m.cls := findClass_of_methodNamed Bd.named
  have hnm := (name_of_methodNamed Bd.named Bd.method).1
  have X0 : Stand p l e ({ frames := 0, cells := 0, slots := 0, locals := 0 } : Room) s m #[(.int p1)] below meth c s₁ [] 0 0 := Stand.of_body Bd
  have e0 : s₁.heap = h0 := by rw [← hh, Bd.state]; rfl
  have N0 := Fr.nil n0
  show OwnW p e below (OwnG s (Q2 Z p1 h0 n0) ({ frames := 0, cells := 0, slots := 0, locals := 0 } : Room).cells ({ frames := 0, cells := 0, slots := 0, locals := 0 } : Room).slots) (s₁.setTop (entryFrame m #[(.int p1)] 1))
  rw [ef_rm2]
  refine own_iloadN X0 hx (hb hby d2_0) rfl 1 rfl ?_
  by_cases hc1 : p1 = (0 : Int32)
  · -- hc1
    refine own_ifN X0 hx (hb hby d2_1) (teq hc1).2 4 (by decide) ?_
    refine own_iconst X0 hx (hb hby d2_4) (4 : Int32) rfl 5 rfl ?_
    refine own_retI X0 hx hlk Bd.returns (hb hby d2_5) (by decide) (by decide) ?_
    show Q2 Z p1 h0 n0 _ s₁.heap _
    rw [e0]
    exact ⟨by rw [own_maxOf, if_pos hc1], N0, rfl⟩
  · -- not hc1
    refine own_ifY X0 hx (hb hby d2_1) (feq hc1).2 6 (by decide) ?_
    refine own_iloadN X0 hx (hb hby d2_6) rfl 7 rfl ?_
    refine own_iconst X0 hx (hb hby d2_7) (1 : Int32) rfl 8 rfl ?_
    by_cases hc8 : p1 = (1 : Int32)
    · -- hc8
      refine own_icmpN X0 hx (hb hby d2_8) (teq hc8).2 11 (by decide) ?_
      refine own_iconst X0 hx (hb hby d2_11) (1 : Int32) rfl 12 rfl ?_
      refine own_retI X0 hx hlk Bd.returns (hb hby d2_12) (by decide) (by decide) ?_
      show Q2 Z p1 h0 n0 _ s₁.heap _
      rw [e0]
      exact ⟨by rw [own_maxOf, if_neg hc1, if_pos hc8], N0, rfl⟩
    · -- not hc8
      refine own_icmpY X0 hx (hb hby d2_8) (feq hc8).2 13 (by decide) ?_
      refine own_iloadN X0 hx (hb hby d2_13) rfl 14 rfl ?_
      refine own_iconst X0 hx (hb hby d2_14) (2 : Int32) rfl 15 rfl ?_
      by_cases hc15 : p1 = (2 : Int32)
      · -- hc15
        refine own_icmpN X0 hx (hb hby d2_15) (teq hc15).2 18 (by decide) ?_
        refine own_iconst X0 hx (hb hby d2_18) (5 : Int32) rfl 19 rfl ?_
        refine own_retI X0 hx hlk Bd.returns (hb hby d2_19) (by decide) (by decide) ?_
        show Q2 Z p1 h0 n0 _ s₁.heap _
        rw [e0]
        exact ⟨by rw [own_maxOf, if_neg hc1, if_neg hc8, if_pos hc15], N0, rfl⟩
      · -- not hc15
        refine own_icmpY X0 hx (hb hby d2_15) (feq hc15).2 20 (by decide) ?_
        refine own_iloadN X0 hx (hb hby d2_20) rfl 21 rfl ?_
        refine own_iconst X0 hx (hb hby d2_21) (3 : Int32) rfl 22 rfl ?_
        by_cases hc22 : p1 = (3 : Int32)
        · -- hc22
          refine own_icmpN X0 hx (hb hby d2_22) (teq hc22).2 25 (by decide) ?_
          refine own_bipush X0 hx (hb hby d2_25) (7 : Int32) rfl 27 rfl ?_
          refine own_retI X0 hx hlk Bd.returns (hb hby d2_27) (by decide) (by decide) ?_
          show Q2 Z p1 h0 n0 _ s₁.heap _
          rw [e0]
          exact ⟨by rw [own_maxOf, if_neg hc1, if_neg hc8, if_neg hc15, if_pos hc22], N0, rfl⟩
        · -- not hc22
          refine own_icmpY X0 hx (hb hby d2_22) (feq hc22).2 28 (by decide) ?_
          refine own_iloadN X0 hx (hb hby d2_28) rfl 29 rfl ?_
          refine own_iconst X0 hx (hb hby d2_29) (4 : Int32) rfl 30 rfl ?_
          by_cases hc30 : p1 = (4 : Int32)
          · -- hc30
            refine own_icmpN X0 hx (hb hby d2_30) (teq hc30).2 33 (by decide) ?_
            refine own_iconst X0 hx (hb hby d2_33) (5 : Int32) rfl 34 rfl ?_
            refine own_retI X0 hx hlk Bd.returns (hb hby d2_34) (by decide) (by decide) ?_
            show Q2 Z p1 h0 n0 _ s₁.heap _
            rw [e0]
            exact ⟨by rw [own_maxOf, if_neg hc1, if_neg hc8, if_neg hc15, if_neg hc22, if_pos hc30], N0, rfl⟩
          · -- not hc30
            refine own_icmpY X0 hx (hb hby d2_30) (feq hc30).2 35 (by decide) ?_
            refine own_iloadN X0 hx (hb hby d2_35) rfl 36 rfl ?_
            refine own_iconst X0 hx (hb hby d2_36) (5 : Int32) rfl 37 rfl ?_
            by_cases hc37 : p1 = (5 : Int32)
            · -- hc37
              refine own_icmpN X0 hx (hb hby d2_37) (teq hc37).2 40 (by decide) ?_
              refine own_iconst X0 hx (hb hby d2_40) (2 : Int32) rfl 41 rfl ?_
              refine own_retI X0 hx hlk Bd.returns (hb hby d2_41) (by decide) (by decide) ?_
              show Q2 Z p1 h0 n0 _ s₁.heap _
              rw [e0]
              exact ⟨by rw [own_maxOf, if_neg hc1, if_neg hc8, if_neg hc15, if_neg hc22, if_neg hc30, if_pos hc37], N0, rfl⟩
            · -- not hc37
              refine own_icmpY X0 hx (hb hby d2_37) (feq hc37).2 42 (by decide) ?_
              refine own_iloadN X0 hx (hb hby d2_42) rfl 43 rfl ?_
              refine own_bipush X0 hx (hb hby d2_43) (6 : Int32) rfl 45 rfl ?_
              by_cases hc45 : p1 = (6 : Int32)
              · -- hc45
                refine own_icmpN X0 hx (hb hby d2_45) (teq hc45).2 48 (by decide) ?_
                refine own_iconst X0 hx (hb hby d2_48) (5 : Int32) rfl 49 rfl ?_
                refine own_retI X0 hx hlk Bd.returns (hb hby d2_49) (by decide) (by decide) ?_
                show Q2 Z p1 h0 n0 _ s₁.heap _
                rw [e0]
                exact ⟨by rw [own_maxOf, if_neg hc1, if_neg hc8, if_neg hc15, if_neg hc22, if_neg hc30, if_neg hc37, if_pos hc45], N0, rfl⟩
              · -- not hc45
                refine own_icmpY X0 hx (hb hby d2_45) (feq hc45).2 50 (by decide) ?_
                refine own_iloadN X0 hx (hb hby d2_50) rfl 51 rfl ?_
                refine own_bipush X0 hx (hb hby d2_51) (7 : Int32) rfl 53 rfl ?_
                by_cases hc53 : p1 = (7 : Int32)
                · -- hc53
                  refine own_icmpN X0 hx (hb hby d2_53) (teq hc53).2 56 (by decide) ?_
                  refine own_iconst X0 hx (hb hby d2_56) (3 : Int32) rfl 57 rfl ?_
                  refine own_retI X0 hx hlk Bd.returns (hb hby d2_57) (by decide) (by decide) ?_
                  show Q2 Z p1 h0 n0 _ s₁.heap _
                  rw [e0]
                  exact ⟨by rw [own_maxOf, if_neg hc1, if_neg hc8, if_neg hc15, if_neg hc22, if_neg hc30, if_neg hc37, if_neg hc45, if_pos hc53], N0, rfl⟩
                · -- not hc53
                  refine own_icmpY X0 hx (hb hby d2_53) (feq hc53).2 58 (by decide) ?_
                  refine own_iloadN X0 hx (hb hby d2_58) rfl 59 rfl ?_
                  refine own_bipush X0 hx (hb hby d2_59) (8 : Int32) rfl 61 rfl ?_
                  by_cases hc61 : p1 = (8 : Int32)
                  · -- hc61
                    refine own_icmpN X0 hx (hb hby d2_61) (teq hc61).2 64 (by decide) ?_
                    refine own_iconst X0 hx (hb hby d2_64) (3 : Int32) rfl 65 rfl ?_
                    refine own_retI X0 hx hlk Bd.returns (hb hby d2_65) (by decide) (by decide) ?_
                    show Q2 Z p1 h0 n0 _ s₁.heap _
                    rw [e0]
                    exact ⟨by rw [own_maxOf, if_neg hc1, if_neg hc8, if_neg hc15, if_neg hc22, if_neg hc30, if_neg hc37, if_neg hc45, if_neg hc53, if_pos hc61], N0, rfl⟩
                  · -- not hc61
                    refine own_icmpY X0 hx (hb hby d2_61) (feq hc61).2 66 (by decide) ?_
                    refine own_iloadN X0 hx (hb hby d2_66) rfl 67 rfl ?_
                    refine own_bipush X0 hx (hb hby d2_67) (9 : Int32) rfl 69 rfl ?_
                    by_cases hc69 : p1 = (9 : Int32)
                    · -- hc69
                      refine own_icmpN X0 hx (hb hby d2_69) (teq hc69).2 72 (by decide) ?_
                      refine own_iconst X0 hx (hb hby d2_72) (3 : Int32) rfl 73 rfl ?_
                      refine own_retI X0 hx hlk Bd.returns (hb hby d2_73) (by decide) (by decide) ?_
                      show Q2 Z p1 h0 n0 _ s₁.heap _
                      rw [e0]
                      exact ⟨by rw [own_maxOf, if_neg hc1, if_neg hc8, if_neg hc15, if_neg hc22, if_neg hc30, if_neg hc37, if_neg hc45, if_neg hc53, if_neg hc61, if_pos hc69], N0, rfl⟩
                    · -- not hc69
                      refine own_icmpY X0 hx (hb hby d2_69) (feq hc69).2 74 (by decide) ?_
                      refine own_iloadN X0 hx (hb hby d2_74) rfl 75 rfl ?_
                      refine own_bipush X0 hx (hb hby d2_75) (10 : Int32) rfl 77 rfl ?_
                      by_cases hc77 : p1 = (10 : Int32)
                      · -- hc77
                        refine own_icmpN X0 hx (hb hby d2_77) (teq hc77).2 80 (by decide) ?_
                        refine own_iconst X0 hx (hb hby d2_80) (1 : Int32) rfl 81 rfl ?_
                        refine own_retI X0 hx hlk Bd.returns (hb hby d2_81) (by decide) (by decide) ?_
                        show Q2 Z p1 h0 n0 _ s₁.heap _
                        rw [e0]
                        exact ⟨by rw [own_maxOf, if_neg hc1, if_neg hc8, if_neg hc15, if_neg hc22, if_neg hc30, if_neg hc37, if_neg hc45, if_neg hc53, if_neg hc61, if_neg hc69, if_pos hc77], N0, rfl⟩
                      · -- not hc77
                        refine own_icmpY X0 hx (hb hby d2_77) (feq hc77).2 82 (by decide) ?_
                        refine own_iloadN X0 hx (hb hby d2_82) rfl 83 rfl ?_
                        refine own_bipush X0 hx (hb hby d2_83) (11 : Int32) rfl 85 rfl ?_
                        by_cases hc85 : p1 = (11 : Int32)
                        · -- hc85
                          refine own_icmpN X0 hx (hb hby d2_85) (teq hc85).2 88 (by decide) ?_
                          refine own_iconst X0 hx (hb hby d2_88) (1 : Int32) rfl 89 rfl ?_
                          refine own_retI X0 hx hlk Bd.returns (hb hby d2_89) (by decide) (by decide) ?_
                          show Q2 Z p1 h0 n0 _ s₁.heap _
                          rw [e0]
                          exact ⟨by rw [own_maxOf, if_neg hc1, if_neg hc8, if_neg hc15, if_neg hc22, if_neg hc30, if_neg hc37, if_neg hc45, if_neg hc53, if_neg hc61, if_neg hc69, if_neg hc77, if_pos hc85], N0, rfl⟩
                        · -- not hc85
                          refine own_icmpY X0 hx (hb hby d2_85) (feq hc85).2 90 (by decide) ?_
                          refine own_iloadN X0 hx (hb hby d2_90) rfl 91 rfl ?_
                          refine own_bipush X0 hx (hb hby d2_91) (12 : Int32) rfl 93 rfl ?_
                          by_cases hc93 : p1 = (12 : Int32)
                          · -- hc93
                            refine own_icmpN X0 hx (hb hby d2_93) (teq hc93).2 96 (by decide) ?_
                            refine own_iconst X0 hx (hb hby d2_96) (2 : Int32) rfl 97 rfl ?_
                            refine own_retI X0 hx hlk Bd.returns (hb hby d2_97) (by decide) (by decide) ?_
                            show Q2 Z p1 h0 n0 _ s₁.heap _
                            rw [e0]
                            exact ⟨by rw [own_maxOf, if_neg hc1, if_neg hc8, if_neg hc15, if_neg hc22, if_neg hc30, if_neg hc37, if_neg hc45, if_neg hc53, if_neg hc61, if_neg hc69, if_neg hc77, if_neg hc85, if_pos hc93], N0, rfl⟩
                          · -- not hc93
                            refine own_icmpY X0 hx (hb hby d2_93) (feq hc93).2 98 (by decide) ?_
                            refine own_iloadN X0 hx (hb hby d2_98) rfl 99 rfl ?_
                            refine own_bipush X0 hx (hb hby d2_99) (13 : Int32) rfl 101 rfl ?_
                            by_cases hc101 : p1 = (13 : Int32)
                            · -- hc101
                              refine own_icmpN X0 hx (hb hby d2_101) (teq hc101).2 104 (by decide) ?_
                              refine own_iconst X0 hx (hb hby d2_104) (1 : Int32) rfl 105 rfl ?_
                              refine own_retI X0 hx hlk Bd.returns (hb hby d2_105) (by decide) (by decide) ?_
                              show Q2 Z p1 h0 n0 _ s₁.heap _
                              rw [e0]
                              exact ⟨by rw [own_maxOf, if_neg hc1, if_neg hc8, if_neg hc15, if_neg hc22, if_neg hc30, if_neg hc37, if_neg hc45, if_neg hc53, if_neg hc61, if_neg hc69, if_neg hc77, if_neg hc85, if_neg hc93, if_pos hc101], N0, rfl⟩
                            · -- not hc101
                              refine own_icmpY X0 hx (hb hby d2_101) (feq hc101).2 106 (by decide) ?_
                              refine own_iloadN X0 hx (hb hby d2_106) rfl 107 rfl ?_
                              refine own_bipush X0 hx (hb hby d2_107) (14 : Int32) rfl 109 rfl ?_
                              by_cases hc109 : p1 = (14 : Int32)
                              · -- hc109
                                refine own_icmpN X0 hx (hb hby d2_109) (teq hc109).2 112 (by decide) ?_
                                refine own_iconst X0 hx (hb hby d2_112) (1 : Int32) rfl 113 rfl ?_
                                refine own_retI X0 hx hlk Bd.returns (hb hby d2_113) (by decide) (by decide) ?_
                                show Q2 Z p1 h0 n0 _ s₁.heap _
                                rw [e0]
                                exact ⟨by rw [own_maxOf, if_neg hc1, if_neg hc8, if_neg hc15, if_neg hc22, if_neg hc30, if_neg hc37, if_neg hc45, if_neg hc53, if_neg hc61, if_neg hc69, if_neg hc77, if_neg hc85, if_neg hc93, if_neg hc101, if_pos hc109], N0, rfl⟩
                              · -- not hc109
                                refine own_icmpY X0 hx (hb hby d2_109) (feq hc109).2 114 (by decide) ?_
                                refine own_iconst X0 hx (hb hby d2_114) (0 : Int32) rfl 115 rfl ?_
                                refine own_retI X0 hx hlk Bd.returns (hb hby d2_115) (by decide) (by decide) ?_
                                show Q2 Z p1 h0 n0 _ s₁.heap _
                                rw [e0]
                                exact ⟨by rw [own_maxOf, if_neg hc1, if_neg hc8, if_neg hc15, if_neg hc22, if_neg hc30, if_neg hc37, if_neg hc45, if_neg hc53, if_neg hc61, if_neg hc69, if_neg hc77, if_neg hc85, if_neg hc93, if_neg hc101, if_neg hc109], N0, rfl⟩
theorem d3_0 : decode prog_1_method_7_code 0 = .ok (.iload_n 1, 1) := by decide +kernel
theorem d3_1 : decode prog_1_method_7_code 1 = .ok (.aload_n 0, 1) := by decide +kernel
theorem d3_2 : decode prog_1_method_7_code 2 = .ok (.getfield 75, 3) := by decide +kernel
theorem d3_5 : decode prog_1_method_7_code 5 = .ok (.if_icmp .lt 15, 3) := by decide +kernel
theorem d3_8 : decode prog_1_method_7_code 8 = .ok (.iload_n 1, 1) := by decide +kernel
theorem d3_9 : decode prog_1_method_7_code 9 = .ok (.aload_n 0, 1) := by decide +kernel
theorem d3_10 : decode prog_1_method_7_code 10 = .ok (.getfield 78, 3) := by decide +kernel
theorem d3_13 : decode prog_1_method_7_code 13 = .ok (.if_icmp .gt 7, 3) := by decide +kernel
theorem d3_16 : decode prog_1_method_7_code 16 = .ok (.iconst 1, 1) := by decide +kernel
theorem d3_17 : decode prog_1_method_7_code 17 = .ok (.goto 4, 3) := by decide +kernel
theorem d3_20 : decode prog_1_method_7_code 20 = .ok (.iconst 0, 1) := by decide +kernel
theorem d3_21 : decode prog_1_method_7_code 21 = .ok (.ireturn, 1) := by decide +kernel
theorem pn_rm3 : plainName "com/example/rollcall/rollcall/Api" = true := by first | (simp [plainName, overriddenIn]; done) | decide +kernel
theorem ef_rm3 (m : MethodId) (x0 : Addr) (x1 : Int32) : entryFrame m #[(.ref x0), (.int x1)] 2 = mkF m 0 #[.val (.ref x0), .val (.int x1)] [] := by first | (simp [entryFrame, mkF, argsToLocals, Value.category]; done) | rfl
def own_serves (p2 : Int32) (w3 : Int32) (w5 : Int32) : Int32 := (if p2 < w3 then (0 : Int32) else (if w5 < p2 then (0 : Int32) else (1 : Int32)))
def Q3 (Z : State) (a1 : Addr) (p2 : Int32) (w3 : Int32) (w5 : Int32) (h0 : Heap) (n0 : Nat) (v : Option Value) (h : Heap) (L : List Loc) : Prop := v = some (.int (own_serves p2 w3 w5)) ∧ Fr n0 L ∧ h = h0
set_option maxRecDepth 65536 in
set_option maxHeartbeats 40000000 in
theorem rm3 (l : Launch) (Z : State) (a0 : Array Value) (hw : ∀ d ∈ tables_1, d.before a0 Z = true) (ws : List Jvm.Cond) (a1 : Addr) (p2 : Int32) (w3 : Int32) (w5 : Int32) (h0 : Heap) (n0 : Nat) (Z0 : n0 ≤ h0.size) (F_minVersion_a1 : Fld Z h0 a1 "com/example/rollcall/rollcall/Api" "minVersion" "I" (.int w3)) (F_maxVersion_a1 : Fld Z h0 a1 "com/example/rollcall/rollcall/Api" "maxVersion" "I" (.int w5)) :
    MetFree l (⟨"com/example/rollcall/rollcall/Api", "serves", "(I)Z"⟩ : MethodName) (head1 (Jvm.Cond.code (⟨"com/example/rollcall/rollcall/Api", "serves", "(I)Z"⟩ : MethodName) prog_1_method_7_code 2 (some .boolean) :: ws) ({ frames := 0, cells := 0, slots := 0, locals := 0 } : Room)) (fun a U => a = #[(.ref a1), (.int p2)] ∧ Z.Warmed39 U.vm ∧ U.heap = h0) (fun _ _ _ _ _ => True) (fun _ U o U' => ∃ v L, o = .returned v ∧ Q3 Z a1 p2 w3 w5 h0 n0 v U'.heap L ∧ FrameEnd U o U' L ({ frames := 0, cells := 0, slots := 0, locals := 0 } : Room).cells ({ frames := 0, cells := 0, slots := 0, locals := 0 } : Room).slots) := by
  refine MetFree.of_bodySF (plainFor_of_name pn_rm3) hisR ?_
  intro p e s m args below meth c s₁ Bd hml0 hP hK
  obtain ⟨rfl, hZ, hh⟩ := hP
  have hx := Bd.exec
  have hby := Bd.bytes
  have hlk : meth.locks = false := BodyLoose.notSynchronized Bd
  have hml : c.maxLocals = 2 := hml0
  have hown : s.vm.findClass "com/example/rollcall/rollcall/Api" = some m.cls := findClass_of_methodNamed Bd.named
  have hnm := (name_of_methodNamed Bd.named Bd.method).1
  have X0 : Stand p l e ({ frames := 0, cells := 0, slots := 0, locals := 0 } : Room) s m #[(.ref a1), (.int p2)] below meth c s₁ [] 0 0 := Stand.of_body Bd
  have e0 : s₁.heap = h0 := by rw [← hh, Bd.state]; rfl
  have N0 := Fr.nil n0
  show OwnW p e below (OwnG s (Q3 Z a1 p2 w3 w5 h0 n0) ({ frames := 0, cells := 0, slots := 0, locals := 0 } : Room).cells ({ frames := 0, cells := 0, slots := 0, locals := 0 } : Room).slots) (s₁.setTop (entryFrame m #[(.ref a1), (.int p2)] 2))
  rw [ef_rm3]
  refine own_iloadN X0 hx (hb hby d3_0) rfl 1 rfl ?_
  refine own_aloadN X0 hx (hb hby d3_1) rfl rfl 2 rfl ?_
  refine own_getF X0 hx hZ hown (hw _ (List.mem_of_getElem? (i := 16) rfl)) Via.refl e0 F_minVersion_a1 (hb hby d3_2) 5 rfl ?_
  intro T1 X1 e1
  by_cases hc5 : p2 < w3
  · -- hc5
    refine own_icmpY X1 hx (hb hby d3_5) (tlt hc5).1 20 (by decide) ?_
    refine own_iconst X1 hx (hb hby d3_20) (0 : Int32) rfl 21 rfl ?_
    refine own_retZ X1 hx hlk Bd.returns (by decide) (hb hby d3_21) (by decide) (by decide) ?_
    show Q3 Z a1 p2 w3 w5 h0 n0 _ T1.heap _
    rw [e1]
    exact ⟨by rw [own_serves, if_pos hc5], N0, rfl⟩
  · -- not hc5
    refine own_icmpN X1 hx (hb hby d3_5) (flt hc5).1 8 (by decide) ?_
    refine own_iloadN X1 hx (hb hby d3_8) rfl 9 rfl ?_
    refine own_aloadN X1 hx (hb hby d3_9) rfl rfl 10 rfl ?_
    refine own_getF X1 hx hZ hown (hw _ (List.mem_of_getElem? (i := 18) rfl)) Via.refl e1 F_maxVersion_a1 (hb hby d3_10) 13 rfl ?_
    intro T2 X2 e2
    by_cases hc13 : w5 < p2
    · -- hc13
      refine own_icmpY X2 hx (hb hby d3_13) (tlt hc13).2.2.1 20 (by decide) ?_
      refine own_iconst X2 hx (hb hby d3_20) (0 : Int32) rfl 21 rfl ?_
      refine own_retZ X2 hx hlk Bd.returns (by decide) (hb hby d3_21) (by decide) (by decide) ?_
      show Q3 Z a1 p2 w3 w5 h0 n0 _ T2.heap _
      rw [e2]
      exact ⟨by rw [own_serves, if_neg hc5, if_pos hc13], N0, rfl⟩
    · -- not hc13
      refine own_icmpN X2 hx (hb hby d3_13) (flt hc13).2.2.1 16 (by decide) ?_
      refine own_iconst X2 hx (hb hby d3_16) (1 : Int32) rfl 17 rfl ?_
      refine own_goto X2 hx (hb hby d3_17) 21 (by decide) ?_
      refine own_retZ X2 hx hlk Bd.returns (by decide) (hb hby d3_21) (by decide) (by decide) ?_
      show Q3 Z a1 p2 w3 w5 h0 n0 _ T2.heap _
      rw [e2]
      exact ⟨by rw [own_serves, if_neg hc5, if_neg hc13], N0, rfl⟩
theorem own_mod (x : Int32) : (x &&& (2147483647 : Int32)) % (16 : Int32) = (0 : Int32) ∨ (x &&& (2147483647 : Int32)) % (16 : Int32) = (1 : Int32) ∨ (x &&& (2147483647 : Int32)) % (16 : Int32) = (2 : Int32) ∨ (x &&& (2147483647 : Int32)) % (16 : Int32) = (3 : Int32) ∨ (x &&& (2147483647 : Int32)) % (16 : Int32) = (4 : Int32) ∨ (x &&& (2147483647 : Int32)) % (16 : Int32) = (5 : Int32) ∨ (x &&& (2147483647 : Int32)) % (16 : Int32) = (6 : Int32) ∨ (x &&& (2147483647 : Int32)) % (16 : Int32) = (7 : Int32) ∨ (x &&& (2147483647 : Int32)) % (16 : Int32) = (8 : Int32) ∨ (x &&& (2147483647 : Int32)) % (16 : Int32) = (9 : Int32) ∨ (x &&& (2147483647 : Int32)) % (16 : Int32) = (10 : Int32) ∨ (x &&& (2147483647 : Int32)) % (16 : Int32) = (11 : Int32) ∨ (x &&& (2147483647 : Int32)) % (16 : Int32) = (12 : Int32) ∨ (x &&& (2147483647 : Int32)) % (16 : Int32) = (13 : Int32) ∨ (x &&& (2147483647 : Int32)) % (16 : Int32) = (14 : Int32) ∨ (x &&& (2147483647 : Int32)) % (16 : Int32) = (15 : Int32) := by
  have h1 := c_mask x 2147483647 31 (by decide) (by decide)
  have h2 := (c_irem (x &&& 2147483647) 16 16 rfl).1 (by rw [h1]; omega)
  have h3 : ((x &&& 2147483647) % (16 : Int32)).toInt = x.toInt % (2 ^ 31 : Nat) % 16 := by rw [h2, h1]
  generalize (x &&& 2147483647) % (16 : Int32) = r at h3 ⊢
  have h4 : r.toInt = 0 ∨ r.toInt = 1 ∨ r.toInt = 2 ∨ r.toInt = 3 ∨ r.toInt = 4 ∨ r.toInt = 5 ∨ r.toInt = 6 ∨ r.toInt = 7 ∨ r.toInt = 8 ∨ r.toInt = 9 ∨ r.toInt = 10 ∨ r.toInt = 11 ∨ r.toInt = 12 ∨ r.toInt = 13 ∨ r.toInt = 14 ∨ r.toInt = 15 := by omega
  rcases h4 with h | h | h | h | h | h | h | h | h | h | h | h | h | h | h | h
  · exact (Or.inl (Int32.toInt_inj.mp h))
  · exact (Or.inr (Or.inl (Int32.toInt_inj.mp h)))
  · exact (Or.inr (Or.inr (Or.inl (Int32.toInt_inj.mp h))))
  · exact (Or.inr (Or.inr (Or.inr (Or.inl (Int32.toInt_inj.mp h)))))
  · exact (Or.inr (Or.inr (Or.inr (Or.inr (Or.inl (Int32.toInt_inj.mp h))))))
  · exact (Or.inr (Or.inr (Or.inr (Or.inr (Or.inr (Or.inl (Int32.toInt_inj.mp h)))))))
  · exact (Or.inr (Or.inr (Or.inr (Or.inr (Or.inr (Or.inr (Or.inl (Int32.toInt_inj.mp h))))))))
  · exact (Or.inr (Or.inr (Or.inr (Or.inr (Or.inr (Or.inr (Or.inr (Or.inl (Int32.toInt_inj.mp h)))))))))
  · exact (Or.inr (Or.inr (Or.inr (Or.inr (Or.inr (Or.inr (Or.inr (Or.inr (Or.inl (Int32.toInt_inj.mp h))))))))))
  · exact (Or.inr (Or.inr (Or.inr (Or.inr (Or.inr (Or.inr (Or.inr (Or.inr (Or.inr (Or.inl (Int32.toInt_inj.mp h)))))))))))
  · exact (Or.inr (Or.inr (Or.inr (Or.inr (Or.inr (Or.inr (Or.inr (Or.inr (Or.inr (Or.inr (Or.inl (Int32.toInt_inj.mp h))))))))))))
  · exact (Or.inr (Or.inr (Or.inr (Or.inr (Or.inr (Or.inr (Or.inr (Or.inr (Or.inr (Or.inr (Or.inr (Or.inl (Int32.toInt_inj.mp h)))))))))))))
  · exact (Or.inr (Or.inr (Or.inr (Or.inr (Or.inr (Or.inr (Or.inr (Or.inr (Or.inr (Or.inr (Or.inr (Or.inr (Or.inl (Int32.toInt_inj.mp h))))))))))))))
  · exact (Or.inr (Or.inr (Or.inr (Or.inr (Or.inr (Or.inr (Or.inr (Or.inr (Or.inr (Or.inr (Or.inr (Or.inr (Or.inr (Or.inl (Int32.toInt_inj.mp h)))))))))))))))
  · exact (Or.inr (Or.inr (Or.inr (Or.inr (Or.inr (Or.inr (Or.inr (Or.inr (Or.inr (Or.inr (Or.inr (Or.inr (Or.inr (Or.inr (Or.inl (Int32.toInt_inj.mp h))))))))))))))))
  · exact (Or.inr (Or.inr (Or.inr (Or.inr (Or.inr (Or.inr (Or.inr (Or.inr (Or.inr (Or.inr (Or.inr (Or.inr (Or.inr (Or.inr (Or.inr (Int32.toInt_inj.mp h))))))))))))))))
theorem pn_rm0 : plainName "com/example/rollcall/rollcall/ApiServesPinLaw" = true := by first | (simp [plainName, overriddenIn]; done) | decide +kernel
theorem ef_rm0 (m : MethodId) (x0 : Int32) (x1 : Int32) : entryFrame m #[(.int x0), (.int x1)] maxLocals = mkF m 0 #[.val (.int x0), .val (.int x1), .unset, .unset, .unset] [] := by first | (simp [entryFrame, mkF, argsToLocals, Value.category, maxLocals]; done) | rfl
def Q0 (Z : State) (i0 : Int32) (i1 : Int32) (k0 : Addr) (k1 : Addr) (k2 : Addr) (k3 : Addr) (k4 : Addr) (k5 : Addr) (k6 : Addr) (k7 : Addr) (k8 : Addr) (k9 : Addr) (k10 : Addr) (k11 : Addr) (k12 : Addr) (k13 : Addr) (k14 : Addr) (k15 : Addr) (h0 : Heap) (n0 : Nat) (v : Option Value) (h : Heap) (L : List Loc) : Prop := v = some (.int (1 : Int32)) ∧ Fr n0 L
set_option maxRecDepth 65536 in
set_option maxHeartbeats 40000000 in
theorem rm0 (l : Launch) (Z : State) (a0 : Array Value) (hw : ∀ d ∈ tables_1, d.before a0 Z = true) (ws : List Jvm.Cond) (i0 : Int32) (i1 : Int32) (k0 : Addr) (k1 : Addr) (k2 : Addr) (k3 : Addr) (k4 : Addr) (k5 : Addr) (k6 : Addr) (k7 : Addr) (k8 : Addr) (k9 : Addr) (k10 : Addr) (k11 : Addr) (k12 : Addr) (k13 : Addr) (k14 : Addr) (k15 : Addr) (h0 : Heap) (n0 : Nat) (Z0 : n0 ≤ h0.size) (S_FETCH : Sta Z h0 "com/example/rollcall/rollcall/Api" "FETCH" "Lcom/example/rollcall/rollcall/Api;" (.ref k0)) (S_LIST_OFFSETS : Sta Z h0 "com/example/rollcall/rollcall/Api" "LIST_OFFSETS" "Lcom/example/rollcall/rollcall/Api;" (.ref k1)) (S_METADATA : Sta Z h0 "com/example/rollcall/rollcall/Api" "METADATA" "Lcom/example/rollcall/rollcall/Api;" (.ref k2)) (S_OFFSET_COMMIT : Sta Z h0 "com/example/rollcall/rollcall/Api" "OFFSET_COMMIT" "Lcom/example/rollcall/rollcall/Api;" (.ref k3)) (S_OFFSET_FETCH : Sta Z h0 "com/example/rollcall/rollcall/Api" "OFFSET_FETCH" "Lcom/example/rollcall/rollcall/Api;" (.ref k4)) (S_FIND_COORDINATOR : Sta Z h0 "com/example/rollcall/rollcall/Api" "FIND_COORDINATOR" "Lcom/example/rollcall/rollcall/Api;" (.ref k5)) (S_JOIN_GROUP : Sta Z h0 "com/example/rollcall/rollcall/Api" "JOIN_GROUP" "Lcom/example/rollcall/rollcall/Api;" (.ref k6)) (S_HEARTBEAT : Sta Z h0 "com/example/rollcall/rollcall/Api" "HEARTBEAT" "Lcom/example/rollcall/rollcall/Api;" (.ref k7)) (S_LEAVE_GROUP : Sta Z h0 "com/example/rollcall/rollcall/Api" "LEAVE_GROUP" "Lcom/example/rollcall/rollcall/Api;" (.ref k8)) (S_SYNC_GROUP : Sta Z h0 "com/example/rollcall/rollcall/Api" "SYNC_GROUP" "Lcom/example/rollcall/rollcall/Api;" (.ref k9)) (S_DESCRIBE_GROUPS : Sta Z h0 "com/example/rollcall/rollcall/Api" "DESCRIBE_GROUPS" "Lcom/example/rollcall/rollcall/Api;" (.ref k10)) (S_LIST_GROUPS : Sta Z h0 "com/example/rollcall/rollcall/Api" "LIST_GROUPS" "Lcom/example/rollcall/rollcall/Api;" (.ref k11)) (S_API_VERSIONS : Sta Z h0 "com/example/rollcall/rollcall/Api" "API_VERSIONS" "Lcom/example/rollcall/rollcall/Api;" (.ref k12)) (S_CREATE_PARTITIONS : Sta Z h0 "com/example/rollcall/rollcall/Api" "CREATE_PARTITIONS" "Lcom/example/rollcall/rollcall/Api;" (.ref k13)) (S_DELETE_GROUPS : Sta Z h0 "com/example/rollcall/rollcall/Api" "DELETE_GROUPS" "Lcom/example/rollcall/rollcall/Api;" (.ref k14)) (S_JOURNAL_COPY : Sta Z h0 "com/example/rollcall/rollcall/Api" "JOURNAL_COPY" "Lcom/example/rollcall/rollcall/Api;" (.ref k15)) (E_k0 : Exa Z h0 k0 "com/example/rollcall/rollcall/Api") (E_k1 : Exa Z h0 k1 "com/example/rollcall/rollcall/Api") (E_k2 : Exa Z h0 k2 "com/example/rollcall/rollcall/Api") (E_k3 : Exa Z h0 k3 "com/example/rollcall/rollcall/Api") (E_k4 : Exa Z h0 k4 "com/example/rollcall/rollcall/Api") (E_k5 : Exa Z h0 k5 "com/example/rollcall/rollcall/Api") (E_k6 : Exa Z h0 k6 "com/example/rollcall/rollcall/Api") (E_k7 : Exa Z h0 k7 "com/example/rollcall/rollcall/Api") (E_k8 : Exa Z h0 k8 "com/example/rollcall/rollcall/Api") (E_k9 : Exa Z h0 k9 "com/example/rollcall/rollcall/Api") (E_k10 : Exa Z h0 k10 "com/example/rollcall/rollcall/Api") (E_k11 : Exa Z h0 k11 "com/example/rollcall/rollcall/Api") (E_k12 : Exa Z h0 k12 "com/example/rollcall/rollcall/Api") (E_k13 : Exa Z h0 k13 "com/example/rollcall/rollcall/Api") (E_k14 : Exa Z h0 k14 "com/example/rollcall/rollcall/Api") (E_k15 : Exa Z h0 k15 "com/example/rollcall/rollcall/Api") (F_minVersion_k0 : Fld Z h0 k0 "com/example/rollcall/rollcall/Api" "minVersion" "I" (.int (0 : Int32))) (F_minVersion_k1 : Fld Z h0 k1 "com/example/rollcall/rollcall/Api" "minVersion" "I" (.int (0 : Int32))) (F_minVersion_k2 : Fld Z h0 k2 "com/example/rollcall/rollcall/Api" "minVersion" "I" (.int (0 : Int32))) (F_minVersion_k3 : Fld Z h0 k3 "com/example/rollcall/rollcall/Api" "minVersion" "I" (.int (0 : Int32))) (F_minVersion_k4 : Fld Z h0 k4 "com/example/rollcall/rollcall/Api" "minVersion" "I" (.int (0 : Int32))) (F_minVersion_k5 : Fld Z h0 k5 "com/example/rollcall/rollcall/Api" "minVersion" "I" (.int (0 : Int32))) (F_minVersion_k6 : Fld Z h0 k6 "com/example/rollcall/rollcall/Api" "minVersion" "I" (.int (0 : Int32))) (F_minVersion_k7 : Fld Z h0 k7 "com/example/rollcall/rollcall/Api" "minVersion" "I" (.int (0 : Int32))) (F_minVersion_k8 : Fld Z h0 k8 "com/example/rollcall/rollcall/Api" "minVersion" "I" (.int (0 : Int32))) (F_minVersion_k9 : Fld Z h0 k9 "com/example/rollcall/rollcall/Api" "minVersion" "I" (.int (0 : Int32))) (F_minVersion_k10 : Fld Z h0 k10 "com/example/rollcall/rollcall/Api" "minVersion" "I" (.int (0 : Int32))) (F_minVersion_k11 : Fld Z h0 k11 "com/example/rollcall/rollcall/Api" "minVersion" "I" (.int (0 : Int32))) (F_minVersion_k12 : Fld Z h0 k12 "com/example/rollcall/rollcall/Api" "minVersion" "I" (.int (0 : Int32))) (F_minVersion_k13 : Fld Z h0 k13 "com/example/rollcall/rollcall/Api" "minVersion" "I" (.int (0 : Int32))) (F_minVersion_k14 : Fld Z h0 k14 "com/example/rollcall/rollcall/Api" "minVersion" "I" (.int (0 : Int32))) (F_minVersion_k15 : Fld Z h0 k15 "com/example/rollcall/rollcall/Api" "minVersion" "I" (.int (0 : Int32))) (F_maxVersion_k0 : Fld Z h0 k0 "com/example/rollcall/rollcall/Api" "maxVersion" "I" (.int (4 : Int32))) (F_maxVersion_k1 : Fld Z h0 k1 "com/example/rollcall/rollcall/Api" "maxVersion" "I" (.int (1 : Int32))) (F_maxVersion_k2 : Fld Z h0 k2 "com/example/rollcall/rollcall/Api" "maxVersion" "I" (.int (5 : Int32))) (F_maxVersion_k3 : Fld Z h0 k3 "com/example/rollcall/rollcall/Api" "maxVersion" "I" (.int (7 : Int32))) (F_maxVersion_k4 : Fld Z h0 k4 "com/example/rollcall/rollcall/Api" "maxVersion" "I" (.int (5 : Int32))) (F_maxVersion_k5 : Fld Z h0 k5 "com/example/rollcall/rollcall/Api" "maxVersion" "I" (.int (2 : Int32))) (F_maxVersion_k6 : Fld Z h0 k6 "com/example/rollcall/rollcall/Api" "maxVersion" "I" (.int (5 : Int32))) (F_maxVersion_k7 : Fld Z h0 k7 "com/example/rollcall/rollcall/Api" "maxVersion" "I" (.int (3 : Int32))) (F_maxVersion_k8 : Fld Z h0 k8 "com/example/rollcall/rollcall/Api" "maxVersion" "I" (.int (3 : Int32))) (F_maxVersion_k9 : Fld Z h0 k9 "com/example/rollcall/rollcall/Api" "maxVersion" "I" (.int (3 : Int32))) (F_maxVersion_k10 : Fld Z h0 k10 "com/example/rollcall/rollcall/Api" "maxVersion" "I" (.int (1 : Int32))) (F_maxVersion_k11 : Fld Z h0 k11 "com/example/rollcall/rollcall/Api" "maxVersion" "I" (.int (1 : Int32))) (F_maxVersion_k12 : Fld Z h0 k12 "com/example/rollcall/rollcall/Api" "maxVersion" "I" (.int (2 : Int32))) (F_maxVersion_k13 : Fld Z h0 k13 "com/example/rollcall/rollcall/Api" "maxVersion" "I" (.int (1 : Int32))) (F_maxVersion_k14 : Fld Z h0 k14 "com/example/rollcall/rollcall/Api" "maxVersion" "I" (.int (1 : Int32))) (F_maxVersion_k15 : Fld Z h0 k15 "com/example/rollcall/rollcall/Api" "maxVersion" "I" (.int (0 : Int32))) :
    MetFree l x (head1 (Jvm.Cond.code x code maxLocals ret :: ws) room_1) (fun a U => a = #[(.int i0), (.int i1)] ∧ Z.Warmed39 U.vm ∧ U.heap = h0) (fun _ _ _ _ _ => True) (fun _ U o U' => ∃ v L, o = .returned v ∧ Q0 Z i0 i1 k0 k1 k2 k3 k4 k5 k6 k7 k8 k9 k10 k11 k12 k13 k14 k15 h0 n0 v U'.heap L ∧ FrameEnd U o U' L room_1.cells room_1.slots) := by
  refine MetFree.of_bodySF (plainFor_of_name pn_rm0) hisR ?_
  intro p e s m args below meth c s₁ Bd hml0 hP hK
  obtain ⟨rfl, hZ, hh⟩ := hP
  have hx := Bd.exec
  have hby := Bd.bytes
  have hlk : meth.locks = false := BodyLoose.notSynchronized Bd
  have hml : c.maxLocals = 5 := hml0
  have hown : s.vm.findClass "com/example/rollcall/rollcall/ApiServesPinLaw" = some m.cls := findClass_of_methodNamed Bd.named
  have hnm := (name_of_methodNamed Bd.named Bd.method).1
  have X0 : Stand p l e room_1 s m #[(.int i0), (.int i1)] below meth c s₁ [] 0 0 := Stand.of_body Bd
  have e0 : s₁.heap = h0 := by rw [← hh, Bd.state]; rfl
  have N0 := Fr.nil n0
  show OwnW p e below (OwnG s (Q0 Z i0 i1 k0 k1 k2 k3 k4 k5 k6 k7 k8 k9 k10 k11 k12 k13 k14 k15 h0 n0) room_1.cells room_1.slots) (s₁.setTop (entryFrame m #[(.int i0), (.int i1)] maxLocals))
  rw [ef_rm0]
  refine own_iloadN X0 hx (hb hby at_0) rfl 1 rfl ?_
  refine own_ldcI X0 hx hZ hown (hw _ (List.mem_of_getElem? (i := 0) rfl)) (hb hby at_1) 3 rfl ?_
  refine own_iand X0 hx (hb hby at_3) 4 rfl ?_
  refine own_bipush X0 hx (hb hby at_4) (16 : Int32) rfl 6 rfl ?_
  refine own_irem X0 hx (hb hby at_6) (by decide) 7 rfl ?_
  refine own_istoreN X0 hx (hb hby at_7) #[.val (.int i0), .val (.int i1), .val (.int ((i0 &&& (2147483647 : Int32)) % (16 : Int32))), .unset, .unset] rfl 8 rfl ?_
  rcases own_mod i0 with hk | hk | hk | hk | hk | hk | hk | hk | hk | hk | hk | hk | hk | hk | hk | hk
  · -- case 0
    rw [hk]
    show OwnW p e below (OwnG s (Q0 Z i0 i1 k0 k1 k2 k3 k4 k5 k6 k7 k8 k9 k10 k11 k12 k13 k14 k15 h0 n0) room_1.cells room_1.slots) (s₁.setTop (mkF m 8 #[.val (.int i0), .val (.int i1), .val (.int (0 : Int32)), .unset, .unset] []))
    refine own_iloadN X0 hx (hb hby at_8) rfl 9 rfl ?_
    refine own_callS X0 hx hZ hown (hw _ (List.mem_of_getElem? (i := 1) rfl)) (hw _ (List.mem_of_getElem? (i := 2) rfl)) (hw _ (List.mem_of_getElem? (i := 4) rfl)) (hw _ (List.mem_of_getElem? (i := 3) rfl)) (by decide) (rm1 l Z a0 hw [] (0 : Int32) k0 k1 k2 k3 k4 k5 k6 k7 k8 k9 k10 k11 k12 k13 k14 k15 h0 n0 Z0 S_FETCH S_LIST_OFFSETS S_METADATA S_OFFSET_COMMIT S_OFFSET_FETCH S_FIND_COORDINATOR S_JOIN_GROUP S_HEARTBEAT S_LEAVE_GROUP S_SYNC_GROUP S_DESCRIBE_GROUPS S_LIST_GROUPS S_API_VERSIONS S_CREATE_PARTITIONS S_DELETE_GROUPS S_JOURNAL_COPY) e0 (hb hby at_9) pd__I_Lcom_example_rollcall_rollcall_Api_ rfl (by rw [hml]; rfl) (st := []) rfl 0 (Nat.le_of_eq rfl) (by decide) (by decide) (by decide) (by decide) 12 rfl ?_
    intro T1 v1 L1 X1 hQ1
    obtain ⟨rfl, N1q, e1⟩ := hQ1
    have N1 := Fr.app N0 N1q
    show OwnW p e below (OwnG s (Q0 Z i0 i1 k0 k1 k2 k3 k4 k5 k6 k7 k8 k9 k10 k11 k12 k13 k14 k15 h0 n0) room_1.cells room_1.slots) (T1.setTop (mkF m 12 #[.val (.int i0), .val (.int i1), .val (.int (0 : Int32)), .unset, .unset] [(.ref (own_pick (0 : Int32) k0 k1 k2 k3 k4 k5 k6 k7 k8 k9 k10 k11 k12 k13 k14 k15))]))
    rw [show own_pick (0 : Int32) k0 k1 k2 k3 k4 k5 k6 k7 k8 k9 k10 k11 k12 k13 k14 k15 = k0 from by rw [own_pick, if_pos rfl]]
    refine own_astoreN X1 hx (hb hby at_12) rfl #[.val (.int i0), .val (.int i1), .val (.int (0 : Int32)), .val (.ref k0), .unset] rfl 13 rfl ?_
    refine own_iloadN X1 hx (hb hby at_13) rfl 14 rfl ?_
    by_cases hc14 : i1 < (0 : Int32)
    · -- hc14
      refine own_ifY X1 hx (hb hby at_14) (tlt hc14).1 29 (by decide) ?_
      refine own_iconst X1 hx (hb hby at_29) (0 : Int32) rfl 30 rfl ?_
      refine own_istore X1 hx (hb hby at_30) #[.val (.int i0), .val (.int i1), .val (.int (0 : Int32)), .val (.ref k0), .val (.int (0 : Int32))] rfl 32 rfl ?_
      refine own_aloadN X1 hx (hb hby at_32) rfl rfl 33 rfl ?_
      refine own_iloadN X1 hx (hb hby at_33) rfl 34 rfl ?_
      refine own_callV X1 hx hZ hown (hw _ (List.mem_of_getElem? (i := 11) rfl)) (hw _ (List.mem_of_getElem? (i := 12) rfl)) (hw _ (List.mem_of_getElem? (i := 14) rfl)) (hw _ (List.mem_of_getElem? (i := 13) rfl)) (hw _ (List.mem_of_getElem? (i := 15) rfl)) (hw _ (List.mem_of_getElem? (i := 6) rfl)) (by decide) E_k0 (rm3 l Z a0 hw [] k0 i1 (0 : Int32) (4 : Int32) h0 n0 Z0 F_minVersion_k0 F_maxVersion_k0) e1 (hb hby at_34) pd__I_Z rfl (by rw [hml]; rfl) (st := []) rfl 0 (Nat.le_of_eq rfl) (by decide) (by decide) (by decide) (by decide) 37 rfl ?_
      intro T2 v2 L2 X2 hQ2
      obtain ⟨rfl, N2q, e2⟩ := hQ2
      have N2 := Fr.app N1 N2q
      show OwnW p e below (OwnG s (Q0 Z i0 i1 k0 k1 k2 k3 k4 k5 k6 k7 k8 k9 k10 k11 k12 k13 k14 k15 h0 n0) room_1.cells room_1.slots) (T2.setTop (mkF m 37 #[.val (.int i0), .val (.int i1), .val (.int (0 : Int32)), .val (.ref k0), .val (.int (0 : Int32))] [(.int (own_serves i1 (0 : Int32) (4 : Int32)))]))
      refine own_iload X2 hx (hb hby at_37) rfl 39 rfl ?_
      have hc39 : (own_serves i1 (0 : Int32) (4 : Int32)) = (0 : Int32) := by rw [own_serves, if_pos hc14]
      refine own_icmpN X2 hx (hb hby at_39) (teq hc39).2 42 (by decide) ?_
      refine own_iconst X2 hx (hb hby at_42) (1 : Int32) rfl 43 rfl ?_
      refine own_goto X2 hx (hb hby at_43) 47 (by decide) ?_
      refine own_retZ X2 hx hlk Bd.returns (by decide) (hb hby at_47) (by decide) (by decide) ?_
      show Q0 Z i0 i1 k0 k1 k2 k3 k4 k5 k6 k7 k8 k9 k10 k11 k12 k13 k14 k15 h0 n0 _ T2.heap _
      rw [e2]
      exact ⟨rfl, N2⟩
    · -- not hc14
      refine own_ifN X1 hx (hb hby at_14) (flt hc14).1 17 (by decide) ?_
      refine own_iloadN X1 hx (hb hby at_17) rfl 18 rfl ?_
      refine own_iloadN X1 hx (hb hby at_18) rfl 19 rfl ?_
      refine own_callS X1 hx hZ hown (hw _ (List.mem_of_getElem? (i := 8) rfl)) (hw _ (List.mem_of_getElem? (i := 9) rfl)) (hw _ (List.mem_of_getElem? (i := 10) rfl)) (hw _ (List.mem_of_getElem? (i := 3) rfl)) (by decide) (rm2 l Z a0 hw [] (0 : Int32) h0 n0 Z0) e1 (hb hby at_19) pd__I_I rfl (by rw [hml]; rfl) (st := [(.int i1)]) rfl 1 (Nat.le_of_eq rfl) (by decide) (by decide) (by decide) (by decide) 22 rfl ?_
      intro T3 v3 L3 X3 hQ3
      obtain ⟨rfl, N3q, e3⟩ := hQ3
      have N3 := Fr.app N1 N3q
      show OwnW p e below (OwnG s (Q0 Z i0 i1 k0 k1 k2 k3 k4 k5 k6 k7 k8 k9 k10 k11 k12 k13 k14 k15 h0 n0) room_1.cells room_1.slots) (T3.setTop (mkF m 22 #[.val (.int i0), .val (.int i1), .val (.int (0 : Int32)), .val (.ref k0), .unset] [(.int (own_maxOf (0 : Int32))), (.int i1)]))
      rw [show own_maxOf (0 : Int32) = (4 : Int32) from by rw [own_maxOf, if_pos rfl]]
      suffices J30 : ∀ v30 : Int32, v30 = (if (4 : Int32) < i1 then (0 : Int32) else (1 : Int32)) → OwnW p e below (OwnG s (Q0 Z i0 i1 k0 k1 k2 k3 k4 k5 k6 k7 k8 k9 k10 k11 k12 k13 k14 k15 h0 n0) room_1.cells room_1.slots) (T3.setTop (mkF m 30 #[.val (.int i0), .val (.int i1), .val (.int (0 : Int32)), .val (.ref k0), .unset] [(.int v30)])) by
        by_cases hc22 : (4 : Int32) < i1
        · -- hc22
          refine own_icmpY X3 hx (hb hby at_22) (tlt hc22).2.2.1 29 (by decide) ?_
          refine own_iconst X3 hx (hb hby at_29) (0 : Int32) rfl 30 rfl ?_
          exact J30 _ (by rw [if_pos hc22])
        · -- not hc22
          refine own_icmpN X3 hx (hb hby at_22) (flt hc22).2.2.1 25 (by decide) ?_
          refine own_iconst X3 hx (hb hby at_25) (1 : Int32) rfl 26 rfl ?_
          refine own_goto X3 hx (hb hby at_26) 30 (by decide) ?_
          exact J30 _ (by rw [if_neg hc22])
      intro v30 hv30
      refine own_istore X3 hx (hb hby at_30) #[.val (.int i0), .val (.int i1), .val (.int (0 : Int32)), .val (.ref k0), .val (.int v30)] rfl 32 rfl ?_
      refine own_aloadN X3 hx (hb hby at_32) rfl rfl 33 rfl ?_
      refine own_iloadN X3 hx (hb hby at_33) rfl 34 rfl ?_
      refine own_callV X3 hx hZ hown (hw _ (List.mem_of_getElem? (i := 11) rfl)) (hw _ (List.mem_of_getElem? (i := 12) rfl)) (hw _ (List.mem_of_getElem? (i := 14) rfl)) (hw _ (List.mem_of_getElem? (i := 13) rfl)) (hw _ (List.mem_of_getElem? (i := 15) rfl)) (hw _ (List.mem_of_getElem? (i := 6) rfl)) (by decide) E_k0 (rm3 l Z a0 hw [] k0 i1 (0 : Int32) (4 : Int32) h0 n0 Z0 F_minVersion_k0 F_maxVersion_k0) e3 (hb hby at_34) pd__I_Z rfl (by rw [hml]; rfl) (st := []) rfl 0 (Nat.le_of_eq rfl) (by decide) (by decide) (by decide) (by decide) 37 rfl ?_
      intro T4 v4 L4 X4 hQ4
      obtain ⟨rfl, N4q, e4⟩ := hQ4
      have N4 := Fr.app N3 N4q
      show OwnW p e below (OwnG s (Q0 Z i0 i1 k0 k1 k2 k3 k4 k5 k6 k7 k8 k9 k10 k11 k12 k13 k14 k15 h0 n0) room_1.cells room_1.slots) (T4.setTop (mkF m 37 #[.val (.int i0), .val (.int i1), .val (.int (0 : Int32)), .val (.ref k0), .val (.int v30)] [(.int (own_serves i1 (0 : Int32) (4 : Int32)))]))
      refine own_iload X4 hx (hb hby at_37) rfl 39 rfl ?_
      have hc39 : (own_serves i1 (0 : Int32) (4 : Int32)) = v30 := by rw [hv30, own_serves, if_neg hc14]
      refine own_icmpN X4 hx (hb hby at_39) (teq hc39).2 42 (by decide) ?_
      refine own_iconst X4 hx (hb hby at_42) (1 : Int32) rfl 43 rfl ?_
      refine own_goto X4 hx (hb hby at_43) 47 (by decide) ?_
      refine own_retZ X4 hx hlk Bd.returns (by decide) (hb hby at_47) (by decide) (by decide) ?_
      show Q0 Z i0 i1 k0 k1 k2 k3 k4 k5 k6 k7 k8 k9 k10 k11 k12 k13 k14 k15 h0 n0 _ T4.heap _
      rw [e4]
      exact ⟨rfl, N4⟩
  · -- case 1
    rw [hk]
    show OwnW p e below (OwnG s (Q0 Z i0 i1 k0 k1 k2 k3 k4 k5 k6 k7 k8 k9 k10 k11 k12 k13 k14 k15 h0 n0) room_1.cells room_1.slots) (s₁.setTop (mkF m 8 #[.val (.int i0), .val (.int i1), .val (.int (1 : Int32)), .unset, .unset] []))
    refine own_iloadN X0 hx (hb hby at_8) rfl 9 rfl ?_
    refine own_callS X0 hx hZ hown (hw _ (List.mem_of_getElem? (i := 1) rfl)) (hw _ (List.mem_of_getElem? (i := 2) rfl)) (hw _ (List.mem_of_getElem? (i := 4) rfl)) (hw _ (List.mem_of_getElem? (i := 3) rfl)) (by decide) (rm1 l Z a0 hw [] (1 : Int32) k0 k1 k2 k3 k4 k5 k6 k7 k8 k9 k10 k11 k12 k13 k14 k15 h0 n0 Z0 S_FETCH S_LIST_OFFSETS S_METADATA S_OFFSET_COMMIT S_OFFSET_FETCH S_FIND_COORDINATOR S_JOIN_GROUP S_HEARTBEAT S_LEAVE_GROUP S_SYNC_GROUP S_DESCRIBE_GROUPS S_LIST_GROUPS S_API_VERSIONS S_CREATE_PARTITIONS S_DELETE_GROUPS S_JOURNAL_COPY) e0 (hb hby at_9) pd__I_Lcom_example_rollcall_rollcall_Api_ rfl (by rw [hml]; rfl) (st := []) rfl 0 (Nat.le_of_eq rfl) (by decide) (by decide) (by decide) (by decide) 12 rfl ?_
    intro T5 v5 L5 X5 hQ5
    obtain ⟨rfl, N5q, e5⟩ := hQ5
    have N5 := Fr.app N0 N5q
    show OwnW p e below (OwnG s (Q0 Z i0 i1 k0 k1 k2 k3 k4 k5 k6 k7 k8 k9 k10 k11 k12 k13 k14 k15 h0 n0) room_1.cells room_1.slots) (T5.setTop (mkF m 12 #[.val (.int i0), .val (.int i1), .val (.int (1 : Int32)), .unset, .unset] [(.ref (own_pick (1 : Int32) k0 k1 k2 k3 k4 k5 k6 k7 k8 k9 k10 k11 k12 k13 k14 k15))]))
    rw [show own_pick (1 : Int32) k0 k1 k2 k3 k4 k5 k6 k7 k8 k9 k10 k11 k12 k13 k14 k15 = k1 from by rw [own_pick, if_neg (by decide), if_pos rfl]]
    refine own_astoreN X5 hx (hb hby at_12) rfl #[.val (.int i0), .val (.int i1), .val (.int (1 : Int32)), .val (.ref k1), .unset] rfl 13 rfl ?_
    refine own_iloadN X5 hx (hb hby at_13) rfl 14 rfl ?_
    by_cases hc14 : i1 < (0 : Int32)
    · -- hc14
      refine own_ifY X5 hx (hb hby at_14) (tlt hc14).1 29 (by decide) ?_
      refine own_iconst X5 hx (hb hby at_29) (0 : Int32) rfl 30 rfl ?_
      refine own_istore X5 hx (hb hby at_30) #[.val (.int i0), .val (.int i1), .val (.int (1 : Int32)), .val (.ref k1), .val (.int (0 : Int32))] rfl 32 rfl ?_
      refine own_aloadN X5 hx (hb hby at_32) rfl rfl 33 rfl ?_
      refine own_iloadN X5 hx (hb hby at_33) rfl 34 rfl ?_
      refine own_callV X5 hx hZ hown (hw _ (List.mem_of_getElem? (i := 11) rfl)) (hw _ (List.mem_of_getElem? (i := 12) rfl)) (hw _ (List.mem_of_getElem? (i := 14) rfl)) (hw _ (List.mem_of_getElem? (i := 13) rfl)) (hw _ (List.mem_of_getElem? (i := 15) rfl)) (hw _ (List.mem_of_getElem? (i := 6) rfl)) (by decide) E_k1 (rm3 l Z a0 hw [] k1 i1 (0 : Int32) (1 : Int32) h0 n0 Z0 F_minVersion_k1 F_maxVersion_k1) e5 (hb hby at_34) pd__I_Z rfl (by rw [hml]; rfl) (st := []) rfl 0 (Nat.le_of_eq rfl) (by decide) (by decide) (by decide) (by decide) 37 rfl ?_
      intro T6 v6 L6 X6 hQ6
      obtain ⟨rfl, N6q, e6⟩ := hQ6
      have N6 := Fr.app N5 N6q
      show OwnW p e below (OwnG s (Q0 Z i0 i1 k0 k1 k2 k3 k4 k5 k6 k7 k8 k9 k10 k11 k12 k13 k14 k15 h0 n0) room_1.cells room_1.slots) (T6.setTop (mkF m 37 #[.val (.int i0), .val (.int i1), .val (.int (1 : Int32)), .val (.ref k1), .val (.int (0 : Int32))] [(.int (own_serves i1 (0 : Int32) (1 : Int32)))]))
      refine own_iload X6 hx (hb hby at_37) rfl 39 rfl ?_
      have hc39 : (own_serves i1 (0 : Int32) (1 : Int32)) = (0 : Int32) := by rw [own_serves, if_pos hc14]
      refine own_icmpN X6 hx (hb hby at_39) (teq hc39).2 42 (by decide) ?_
      refine own_iconst X6 hx (hb hby at_42) (1 : Int32) rfl 43 rfl ?_
      refine own_goto X6 hx (hb hby at_43) 47 (by decide) ?_
      refine own_retZ X6 hx hlk Bd.returns (by decide) (hb hby at_47) (by decide) (by decide) ?_
      show Q0 Z i0 i1 k0 k1 k2 k3 k4 k5 k6 k7 k8 k9 k10 k11 k12 k13 k14 k15 h0 n0 _ T6.heap _
      rw [e6]
      exact ⟨rfl, N6⟩
    · -- not hc14
      refine own_ifN X5 hx (hb hby at_14) (flt hc14).1 17 (by decide) ?_
      refine own_iloadN X5 hx (hb hby at_17) rfl 18 rfl ?_
      refine own_iloadN X5 hx (hb hby at_18) rfl 19 rfl ?_
      refine own_callS X5 hx hZ hown (hw _ (List.mem_of_getElem? (i := 8) rfl)) (hw _ (List.mem_of_getElem? (i := 9) rfl)) (hw _ (List.mem_of_getElem? (i := 10) rfl)) (hw _ (List.mem_of_getElem? (i := 3) rfl)) (by decide) (rm2 l Z a0 hw [] (1 : Int32) h0 n0 Z0) e5 (hb hby at_19) pd__I_I rfl (by rw [hml]; rfl) (st := [(.int i1)]) rfl 1 (Nat.le_of_eq rfl) (by decide) (by decide) (by decide) (by decide) 22 rfl ?_
      intro T7 v7 L7 X7 hQ7
      obtain ⟨rfl, N7q, e7⟩ := hQ7
      have N7 := Fr.app N5 N7q
      show OwnW p e below (OwnG s (Q0 Z i0 i1 k0 k1 k2 k3 k4 k5 k6 k7 k8 k9 k10 k11 k12 k13 k14 k15 h0 n0) room_1.cells room_1.slots) (T7.setTop (mkF m 22 #[.val (.int i0), .val (.int i1), .val (.int (1 : Int32)), .val (.ref k1), .unset] [(.int (own_maxOf (1 : Int32))), (.int i1)]))
      rw [show own_maxOf (1 : Int32) = (1 : Int32) from by rw [own_maxOf, if_neg (by decide), if_pos rfl]]
      suffices J30 : ∀ v30 : Int32, v30 = (if (1 : Int32) < i1 then (0 : Int32) else (1 : Int32)) → OwnW p e below (OwnG s (Q0 Z i0 i1 k0 k1 k2 k3 k4 k5 k6 k7 k8 k9 k10 k11 k12 k13 k14 k15 h0 n0) room_1.cells room_1.slots) (T7.setTop (mkF m 30 #[.val (.int i0), .val (.int i1), .val (.int (1 : Int32)), .val (.ref k1), .unset] [(.int v30)])) by
        by_cases hc22 : (1 : Int32) < i1
        · -- hc22
          refine own_icmpY X7 hx (hb hby at_22) (tlt hc22).2.2.1 29 (by decide) ?_
          refine own_iconst X7 hx (hb hby at_29) (0 : Int32) rfl 30 rfl ?_
          exact J30 _ (by rw [if_pos hc22])
        · -- not hc22
          refine own_icmpN X7 hx (hb hby at_22) (flt hc22).2.2.1 25 (by decide) ?_
          refine own_iconst X7 hx (hb hby at_25) (1 : Int32) rfl 26 rfl ?_
          refine own_goto X7 hx (hb hby at_26) 30 (by decide) ?_
          exact J30 _ (by rw [if_neg hc22])
      intro v30 hv30
      refine own_istore X7 hx (hb hby at_30) #[.val (.int i0), .val (.int i1), .val (.int (1 : Int32)), .val (.ref k1), .val (.int v30)] rfl 32 rfl ?_
      refine own_aloadN X7 hx (hb hby at_32) rfl rfl 33 rfl ?_
      refine own_iloadN X7 hx (hb hby at_33) rfl 34 rfl ?_
      refine own_callV X7 hx hZ hown (hw _ (List.mem_of_getElem? (i := 11) rfl)) (hw _ (List.mem_of_getElem? (i := 12) rfl)) (hw _ (List.mem_of_getElem? (i := 14) rfl)) (hw _ (List.mem_of_getElem? (i := 13) rfl)) (hw _ (List.mem_of_getElem? (i := 15) rfl)) (hw _ (List.mem_of_getElem? (i := 6) rfl)) (by decide) E_k1 (rm3 l Z a0 hw [] k1 i1 (0 : Int32) (1 : Int32) h0 n0 Z0 F_minVersion_k1 F_maxVersion_k1) e7 (hb hby at_34) pd__I_Z rfl (by rw [hml]; rfl) (st := []) rfl 0 (Nat.le_of_eq rfl) (by decide) (by decide) (by decide) (by decide) 37 rfl ?_
      intro T8 v8 L8 X8 hQ8
      obtain ⟨rfl, N8q, e8⟩ := hQ8
      have N8 := Fr.app N7 N8q
      show OwnW p e below (OwnG s (Q0 Z i0 i1 k0 k1 k2 k3 k4 k5 k6 k7 k8 k9 k10 k11 k12 k13 k14 k15 h0 n0) room_1.cells room_1.slots) (T8.setTop (mkF m 37 #[.val (.int i0), .val (.int i1), .val (.int (1 : Int32)), .val (.ref k1), .val (.int v30)] [(.int (own_serves i1 (0 : Int32) (1 : Int32)))]))
      refine own_iload X8 hx (hb hby at_37) rfl 39 rfl ?_
      have hc39 : (own_serves i1 (0 : Int32) (1 : Int32)) = v30 := by rw [hv30, own_serves, if_neg hc14]
      refine own_icmpN X8 hx (hb hby at_39) (teq hc39).2 42 (by decide) ?_
      refine own_iconst X8 hx (hb hby at_42) (1 : Int32) rfl 43 rfl ?_
      refine own_goto X8 hx (hb hby at_43) 47 (by decide) ?_
      refine own_retZ X8 hx hlk Bd.returns (by decide) (hb hby at_47) (by decide) (by decide) ?_
      show Q0 Z i0 i1 k0 k1 k2 k3 k4 k5 k6 k7 k8 k9 k10 k11 k12 k13 k14 k15 h0 n0 _ T8.heap _
      rw [e8]
      exact ⟨rfl, N8⟩
  · -- case 2
    rw [hk]
    show OwnW p e below (OwnG s (Q0 Z i0 i1 k0 k1 k2 k3 k4 k5 k6 k7 k8 k9 k10 k11 k12 k13 k14 k15 h0 n0) room_1.cells room_1.slots) (s₁.setTop (mkF m 8 #[.val (.int i0), .val (.int i1), .val (.int (2 : Int32)), .unset, .unset] []))
    refine own_iloadN X0 hx (hb hby at_8) rfl 9 rfl ?_
    refine own_callS X0 hx hZ hown (hw _ (List.mem_of_getElem? (i := 1) rfl)) (hw _ (List.mem_of_getElem? (i := 2) rfl)) (hw _ (List.mem_of_getElem? (i := 4) rfl)) (hw _ (List.mem_of_getElem? (i := 3) rfl)) (by decide) (rm1 l Z a0 hw [] (2 : Int32) k0 k1 k2 k3 k4 k5 k6 k7 k8 k9 k10 k11 k12 k13 k14 k15 h0 n0 Z0 S_FETCH S_LIST_OFFSETS S_METADATA S_OFFSET_COMMIT S_OFFSET_FETCH S_FIND_COORDINATOR S_JOIN_GROUP S_HEARTBEAT S_LEAVE_GROUP S_SYNC_GROUP S_DESCRIBE_GROUPS S_LIST_GROUPS S_API_VERSIONS S_CREATE_PARTITIONS S_DELETE_GROUPS S_JOURNAL_COPY) e0 (hb hby at_9) pd__I_Lcom_example_rollcall_rollcall_Api_ rfl (by rw [hml]; rfl) (st := []) rfl 0 (Nat.le_of_eq rfl) (by decide) (by decide) (by decide) (by decide) 12 rfl ?_
    intro T9 v9 L9 X9 hQ9
    obtain ⟨rfl, N9q, e9⟩ := hQ9
    have N9 := Fr.app N0 N9q
    show OwnW p e below (OwnG s (Q0 Z i0 i1 k0 k1 k2 k3 k4 k5 k6 k7 k8 k9 k10 k11 k12 k13 k14 k15 h0 n0) room_1.cells room_1.slots) (T9.setTop (mkF m 12 #[.val (.int i0), .val (.int i1), .val (.int (2 : Int32)), .unset, .unset] [(.ref (own_pick (2 : Int32) k0 k1 k2 k3 k4 k5 k6 k7 k8 k9 k10 k11 k12 k13 k14 k15))]))
    rw [show own_pick (2 : Int32) k0 k1 k2 k3 k4 k5 k6 k7 k8 k9 k10 k11 k12 k13 k14 k15 = k2 from by rw [own_pick, if_neg (by decide), if_neg (by decide), if_pos rfl]]
    refine own_astoreN X9 hx (hb hby at_12) rfl #[.val (.int i0), .val (.int i1), .val (.int (2 : Int32)), .val (.ref k2), .unset] rfl 13 rfl ?_
    refine own_iloadN X9 hx (hb hby at_13) rfl 14 rfl ?_
    by_cases hc14 : i1 < (0 : Int32)
    · -- hc14
      refine own_ifY X9 hx (hb hby at_14) (tlt hc14).1 29 (by decide) ?_
      refine own_iconst X9 hx (hb hby at_29) (0 : Int32) rfl 30 rfl ?_
      refine own_istore X9 hx (hb hby at_30) #[.val (.int i0), .val (.int i1), .val (.int (2 : Int32)), .val (.ref k2), .val (.int (0 : Int32))] rfl 32 rfl ?_
      refine own_aloadN X9 hx (hb hby at_32) rfl rfl 33 rfl ?_
      refine own_iloadN X9 hx (hb hby at_33) rfl 34 rfl ?_
      refine own_callV X9 hx hZ hown (hw _ (List.mem_of_getElem? (i := 11) rfl)) (hw _ (List.mem_of_getElem? (i := 12) rfl)) (hw _ (List.mem_of_getElem? (i := 14) rfl)) (hw _ (List.mem_of_getElem? (i := 13) rfl)) (hw _ (List.mem_of_getElem? (i := 15) rfl)) (hw _ (List.mem_of_getElem? (i := 6) rfl)) (by decide) E_k2 (rm3 l Z a0 hw [] k2 i1 (0 : Int32) (5 : Int32) h0 n0 Z0 F_minVersion_k2 F_maxVersion_k2) e9 (hb hby at_34) pd__I_Z rfl (by rw [hml]; rfl) (st := []) rfl 0 (Nat.le_of_eq rfl) (by decide) (by decide) (by decide) (by decide) 37 rfl ?_
      intro T10 v10 L10 X10 hQ10
      obtain ⟨rfl, N10q, e10⟩ := hQ10
      have N10 := Fr.app N9 N10q
      show OwnW p e below (OwnG s (Q0 Z i0 i1 k0 k1 k2 k3 k4 k5 k6 k7 k8 k9 k10 k11 k12 k13 k14 k15 h0 n0) room_1.cells room_1.slots) (T10.setTop (mkF m 37 #[.val (.int i0), .val (.int i1), .val (.int (2 : Int32)), .val (.ref k2), .val (.int (0 : Int32))] [(.int (own_serves i1 (0 : Int32) (5 : Int32)))]))
      refine own_iload X10 hx (hb hby at_37) rfl 39 rfl ?_
      have hc39 : (own_serves i1 (0 : Int32) (5 : Int32)) = (0 : Int32) := by rw [own_serves, if_pos hc14]
      refine own_icmpN X10 hx (hb hby at_39) (teq hc39).2 42 (by decide) ?_
      refine own_iconst X10 hx (hb hby at_42) (1 : Int32) rfl 43 rfl ?_
      refine own_goto X10 hx (hb hby at_43) 47 (by decide) ?_
      refine own_retZ X10 hx hlk Bd.returns (by decide) (hb hby at_47) (by decide) (by decide) ?_
      show Q0 Z i0 i1 k0 k1 k2 k3 k4 k5 k6 k7 k8 k9 k10 k11 k12 k13 k14 k15 h0 n0 _ T10.heap _
      rw [e10]
      exact ⟨rfl, N10⟩
    · -- not hc14
      refine own_ifN X9 hx (hb hby at_14) (flt hc14).1 17 (by decide) ?_
      refine own_iloadN X9 hx (hb hby at_17) rfl 18 rfl ?_
      refine own_iloadN X9 hx (hb hby at_18) rfl 19 rfl ?_
      refine own_callS X9 hx hZ hown (hw _ (List.mem_of_getElem? (i := 8) rfl)) (hw _ (List.mem_of_getElem? (i := 9) rfl)) (hw _ (List.mem_of_getElem? (i := 10) rfl)) (hw _ (List.mem_of_getElem? (i := 3) rfl)) (by decide) (rm2 l Z a0 hw [] (2 : Int32) h0 n0 Z0) e9 (hb hby at_19) pd__I_I rfl (by rw [hml]; rfl) (st := [(.int i1)]) rfl 1 (Nat.le_of_eq rfl) (by decide) (by decide) (by decide) (by decide) 22 rfl ?_
      intro T11 v11 L11 X11 hQ11
      obtain ⟨rfl, N11q, e11⟩ := hQ11
      have N11 := Fr.app N9 N11q
      show OwnW p e below (OwnG s (Q0 Z i0 i1 k0 k1 k2 k3 k4 k5 k6 k7 k8 k9 k10 k11 k12 k13 k14 k15 h0 n0) room_1.cells room_1.slots) (T11.setTop (mkF m 22 #[.val (.int i0), .val (.int i1), .val (.int (2 : Int32)), .val (.ref k2), .unset] [(.int (own_maxOf (2 : Int32))), (.int i1)]))
      rw [show own_maxOf (2 : Int32) = (5 : Int32) from by rw [own_maxOf, if_neg (by decide), if_neg (by decide), if_pos rfl]]
      suffices J30 : ∀ v30 : Int32, v30 = (if (5 : Int32) < i1 then (0 : Int32) else (1 : Int32)) → OwnW p e below (OwnG s (Q0 Z i0 i1 k0 k1 k2 k3 k4 k5 k6 k7 k8 k9 k10 k11 k12 k13 k14 k15 h0 n0) room_1.cells room_1.slots) (T11.setTop (mkF m 30 #[.val (.int i0), .val (.int i1), .val (.int (2 : Int32)), .val (.ref k2), .unset] [(.int v30)])) by
        by_cases hc22 : (5 : Int32) < i1
        · -- hc22
          refine own_icmpY X11 hx (hb hby at_22) (tlt hc22).2.2.1 29 (by decide) ?_
          refine own_iconst X11 hx (hb hby at_29) (0 : Int32) rfl 30 rfl ?_
          exact J30 _ (by rw [if_pos hc22])
        · -- not hc22
          refine own_icmpN X11 hx (hb hby at_22) (flt hc22).2.2.1 25 (by decide) ?_
          refine own_iconst X11 hx (hb hby at_25) (1 : Int32) rfl 26 rfl ?_
          refine own_goto X11 hx (hb hby at_26) 30 (by decide) ?_
          exact J30 _ (by rw [if_neg hc22])
      intro v30 hv30
      refine own_istore X11 hx (hb hby at_30) #[.val (.int i0), .val (.int i1), .val (.int (2 : Int32)), .val (.ref k2), .val (.int v30)] rfl 32 rfl ?_
      refine own_aloadN X11 hx (hb hby at_32) rfl rfl 33 rfl ?_
      refine own_iloadN X11 hx (hb hby at_33) rfl 34 rfl ?_
      refine own_callV X11 hx hZ hown (hw _ (List.mem_of_getElem? (i := 11) rfl)) (hw _ (List.mem_of_getElem? (i := 12) rfl)) (hw _ (List.mem_of_getElem? (i := 14) rfl)) (hw _ (List.mem_of_getElem? (i := 13) rfl)) (hw _ (List.mem_of_getElem? (i := 15) rfl)) (hw _ (List.mem_of_getElem? (i := 6) rfl)) (by decide) E_k2 (rm3 l Z a0 hw [] k2 i1 (0 : Int32) (5 : Int32) h0 n0 Z0 F_minVersion_k2 F_maxVersion_k2) e11 (hb hby at_34) pd__I_Z rfl (by rw [hml]; rfl) (st := []) rfl 0 (Nat.le_of_eq rfl) (by decide) (by decide) (by decide) (by decide) 37 rfl ?_
      intro T12 v12 L12 X12 hQ12
      obtain ⟨rfl, N12q, e12⟩ := hQ12
      have N12 := Fr.app N11 N12q
      show OwnW p e below (OwnG s (Q0 Z i0 i1 k0 k1 k2 k3 k4 k5 k6 k7 k8 k9 k10 k11 k12 k13 k14 k15 h0 n0) room_1.cells room_1.slots) (T12.setTop (mkF m 37 #[.val (.int i0), .val (.int i1), .val (.int (2 : Int32)), .val (.ref k2), .val (.int v30)] [(.int (own_serves i1 (0 : Int32) (5 : Int32)))]))
      refine own_iload X12 hx (hb hby at_37) rfl 39 rfl ?_
      have hc39 : (own_serves i1 (0 : Int32) (5 : Int32)) = v30 := by rw [hv30, own_serves, if_neg hc14]
      refine own_icmpN X12 hx (hb hby at_39) (teq hc39).2 42 (by decide) ?_
      refine own_iconst X12 hx (hb hby at_42) (1 : Int32) rfl 43 rfl ?_
      refine own_goto X12 hx (hb hby at_43) 47 (by decide) ?_
      refine own_retZ X12 hx hlk Bd.returns (by decide) (hb hby at_47) (by decide) (by decide) ?_
      show Q0 Z i0 i1 k0 k1 k2 k3 k4 k5 k6 k7 k8 k9 k10 k11 k12 k13 k14 k15 h0 n0 _ T12.heap _
      rw [e12]
      exact ⟨rfl, N12⟩
  · -- case 3
    rw [hk]
    show OwnW p e below (OwnG s (Q0 Z i0 i1 k0 k1 k2 k3 k4 k5 k6 k7 k8 k9 k10 k11 k12 k13 k14 k15 h0 n0) room_1.cells room_1.slots) (s₁.setTop (mkF m 8 #[.val (.int i0), .val (.int i1), .val (.int (3 : Int32)), .unset, .unset] []))
    refine own_iloadN X0 hx (hb hby at_8) rfl 9 rfl ?_
    refine own_callS X0 hx hZ hown (hw _ (List.mem_of_getElem? (i := 1) rfl)) (hw _ (List.mem_of_getElem? (i := 2) rfl)) (hw _ (List.mem_of_getElem? (i := 4) rfl)) (hw _ (List.mem_of_getElem? (i := 3) rfl)) (by decide) (rm1 l Z a0 hw [] (3 : Int32) k0 k1 k2 k3 k4 k5 k6 k7 k8 k9 k10 k11 k12 k13 k14 k15 h0 n0 Z0 S_FETCH S_LIST_OFFSETS S_METADATA S_OFFSET_COMMIT S_OFFSET_FETCH S_FIND_COORDINATOR S_JOIN_GROUP S_HEARTBEAT S_LEAVE_GROUP S_SYNC_GROUP S_DESCRIBE_GROUPS S_LIST_GROUPS S_API_VERSIONS S_CREATE_PARTITIONS S_DELETE_GROUPS S_JOURNAL_COPY) e0 (hb hby at_9) pd__I_Lcom_example_rollcall_rollcall_Api_ rfl (by rw [hml]; rfl) (st := []) rfl 0 (Nat.le_of_eq rfl) (by decide) (by decide) (by decide) (by decide) 12 rfl ?_
    intro T13 v13 L13 X13 hQ13
    obtain ⟨rfl, N13q, e13⟩ := hQ13
    have N13 := Fr.app N0 N13q
    show OwnW p e below (OwnG s (Q0 Z i0 i1 k0 k1 k2 k3 k4 k5 k6 k7 k8 k9 k10 k11 k12 k13 k14 k15 h0 n0) room_1.cells room_1.slots) (T13.setTop (mkF m 12 #[.val (.int i0), .val (.int i1), .val (.int (3 : Int32)), .unset, .unset] [(.ref (own_pick (3 : Int32) k0 k1 k2 k3 k4 k5 k6 k7 k8 k9 k10 k11 k12 k13 k14 k15))]))
    rw [show own_pick (3 : Int32) k0 k1 k2 k3 k4 k5 k6 k7 k8 k9 k10 k11 k12 k13 k14 k15 = k3 from by rw [own_pick, if_neg (by decide), if_neg (by decide), if_neg (by decide), if_pos rfl]]
    refine own_astoreN X13 hx (hb hby at_12) rfl #[.val (.int i0), .val (.int i1), .val (.int (3 : Int32)), .val (.ref k3), .unset] rfl 13 rfl ?_
    refine own_iloadN X13 hx (hb hby at_13) rfl 14 rfl ?_
    by_cases hc14 : i1 < (0 : Int32)
    · -- hc14
      refine own_ifY X13 hx (hb hby at_14) (tlt hc14).1 29 (by decide) ?_
      refine own_iconst X13 hx (hb hby at_29) (0 : Int32) rfl 30 rfl ?_
      refine own_istore X13 hx (hb hby at_30) #[.val (.int i0), .val (.int i1), .val (.int (3 : Int32)), .val (.ref k3), .val (.int (0 : Int32))] rfl 32 rfl ?_
      refine own_aloadN X13 hx (hb hby at_32) rfl rfl 33 rfl ?_
      refine own_iloadN X13 hx (hb hby at_33) rfl 34 rfl ?_
      refine own_callV X13 hx hZ hown (hw _ (List.mem_of_getElem? (i := 11) rfl)) (hw _ (List.mem_of_getElem? (i := 12) rfl)) (hw _ (List.mem_of_getElem? (i := 14) rfl)) (hw _ (List.mem_of_getElem? (i := 13) rfl)) (hw _ (List.mem_of_getElem? (i := 15) rfl)) (hw _ (List.mem_of_getElem? (i := 6) rfl)) (by decide) E_k3 (rm3 l Z a0 hw [] k3 i1 (0 : Int32) (7 : Int32) h0 n0 Z0 F_minVersion_k3 F_maxVersion_k3) e13 (hb hby at_34) pd__I_Z rfl (by rw [hml]; rfl) (st := []) rfl 0 (Nat.le_of_eq rfl) (by decide) (by decide) (by decide) (by decide) 37 rfl ?_
      intro T14 v14 L14 X14 hQ14
      obtain ⟨rfl, N14q, e14⟩ := hQ14
      have N14 := Fr.app N13 N14q
      show OwnW p e below (OwnG s (Q0 Z i0 i1 k0 k1 k2 k3 k4 k5 k6 k7 k8 k9 k10 k11 k12 k13 k14 k15 h0 n0) room_1.cells room_1.slots) (T14.setTop (mkF m 37 #[.val (.int i0), .val (.int i1), .val (.int (3 : Int32)), .val (.ref k3), .val (.int (0 : Int32))] [(.int (own_serves i1 (0 : Int32) (7 : Int32)))]))
      refine own_iload X14 hx (hb hby at_37) rfl 39 rfl ?_
      have hc39 : (own_serves i1 (0 : Int32) (7 : Int32)) = (0 : Int32) := by rw [own_serves, if_pos hc14]
      refine own_icmpN X14 hx (hb hby at_39) (teq hc39).2 42 (by decide) ?_
      refine own_iconst X14 hx (hb hby at_42) (1 : Int32) rfl 43 rfl ?_
      refine own_goto X14 hx (hb hby at_43) 47 (by decide) ?_
      refine own_retZ X14 hx hlk Bd.returns (by decide) (hb hby at_47) (by decide) (by decide) ?_
      show Q0 Z i0 i1 k0 k1 k2 k3 k4 k5 k6 k7 k8 k9 k10 k11 k12 k13 k14 k15 h0 n0 _ T14.heap _
      rw [e14]
      exact ⟨rfl, N14⟩
    · -- not hc14
      refine own_ifN X13 hx (hb hby at_14) (flt hc14).1 17 (by decide) ?_
      refine own_iloadN X13 hx (hb hby at_17) rfl 18 rfl ?_
      refine own_iloadN X13 hx (hb hby at_18) rfl 19 rfl ?_
      refine own_callS X13 hx hZ hown (hw _ (List.mem_of_getElem? (i := 8) rfl)) (hw _ (List.mem_of_getElem? (i := 9) rfl)) (hw _ (List.mem_of_getElem? (i := 10) rfl)) (hw _ (List.mem_of_getElem? (i := 3) rfl)) (by decide) (rm2 l Z a0 hw [] (3 : Int32) h0 n0 Z0) e13 (hb hby at_19) pd__I_I rfl (by rw [hml]; rfl) (st := [(.int i1)]) rfl 1 (Nat.le_of_eq rfl) (by decide) (by decide) (by decide) (by decide) 22 rfl ?_
      intro T15 v15 L15 X15 hQ15
      obtain ⟨rfl, N15q, e15⟩ := hQ15
      have N15 := Fr.app N13 N15q
      show OwnW p e below (OwnG s (Q0 Z i0 i1 k0 k1 k2 k3 k4 k5 k6 k7 k8 k9 k10 k11 k12 k13 k14 k15 h0 n0) room_1.cells room_1.slots) (T15.setTop (mkF m 22 #[.val (.int i0), .val (.int i1), .val (.int (3 : Int32)), .val (.ref k3), .unset] [(.int (own_maxOf (3 : Int32))), (.int i1)]))
      rw [show own_maxOf (3 : Int32) = (7 : Int32) from by rw [own_maxOf, if_neg (by decide), if_neg (by decide), if_neg (by decide), if_pos rfl]]
      suffices J30 : ∀ v30 : Int32, v30 = (if (7 : Int32) < i1 then (0 : Int32) else (1 : Int32)) → OwnW p e below (OwnG s (Q0 Z i0 i1 k0 k1 k2 k3 k4 k5 k6 k7 k8 k9 k10 k11 k12 k13 k14 k15 h0 n0) room_1.cells room_1.slots) (T15.setTop (mkF m 30 #[.val (.int i0), .val (.int i1), .val (.int (3 : Int32)), .val (.ref k3), .unset] [(.int v30)])) by
        by_cases hc22 : (7 : Int32) < i1
        · -- hc22
          refine own_icmpY X15 hx (hb hby at_22) (tlt hc22).2.2.1 29 (by decide) ?_
          refine own_iconst X15 hx (hb hby at_29) (0 : Int32) rfl 30 rfl ?_
          exact J30 _ (by rw [if_pos hc22])
        · -- not hc22
          refine own_icmpN X15 hx (hb hby at_22) (flt hc22).2.2.1 25 (by decide) ?_
          refine own_iconst X15 hx (hb hby at_25) (1 : Int32) rfl 26 rfl ?_
          refine own_goto X15 hx (hb hby at_26) 30 (by decide) ?_
          exact J30 _ (by rw [if_neg hc22])
      intro v30 hv30
      refine own_istore X15 hx (hb hby at_30) #[.val (.int i0), .val (.int i1), .val (.int (3 : Int32)), .val (.ref k3), .val (.int v30)] rfl 32 rfl ?_
      refine own_aloadN X15 hx (hb hby at_32) rfl rfl 33 rfl ?_
      refine own_iloadN X15 hx (hb hby at_33) rfl 34 rfl ?_
      refine own_callV X15 hx hZ hown (hw _ (List.mem_of_getElem? (i := 11) rfl)) (hw _ (List.mem_of_getElem? (i := 12) rfl)) (hw _ (List.mem_of_getElem? (i := 14) rfl)) (hw _ (List.mem_of_getElem? (i := 13) rfl)) (hw _ (List.mem_of_getElem? (i := 15) rfl)) (hw _ (List.mem_of_getElem? (i := 6) rfl)) (by decide) E_k3 (rm3 l Z a0 hw [] k3 i1 (0 : Int32) (7 : Int32) h0 n0 Z0 F_minVersion_k3 F_maxVersion_k3) e15 (hb hby at_34) pd__I_Z rfl (by rw [hml]; rfl) (st := []) rfl 0 (Nat.le_of_eq rfl) (by decide) (by decide) (by decide) (by decide) 37 rfl ?_
      intro T16 v16 L16 X16 hQ16
      obtain ⟨rfl, N16q, e16⟩ := hQ16
      have N16 := Fr.app N15 N16q
      show OwnW p e below (OwnG s (Q0 Z i0 i1 k0 k1 k2 k3 k4 k5 k6 k7 k8 k9 k10 k11 k12 k13 k14 k15 h0 n0) room_1.cells room_1.slots) (T16.setTop (mkF m 37 #[.val (.int i0), .val (.int i1), .val (.int (3 : Int32)), .val (.ref k3), .val (.int v30)] [(.int (own_serves i1 (0 : Int32) (7 : Int32)))]))
      refine own_iload X16 hx (hb hby at_37) rfl 39 rfl ?_
      have hc39 : (own_serves i1 (0 : Int32) (7 : Int32)) = v30 := by rw [hv30, own_serves, if_neg hc14]
      refine own_icmpN X16 hx (hb hby at_39) (teq hc39).2 42 (by decide) ?_
      refine own_iconst X16 hx (hb hby at_42) (1 : Int32) rfl 43 rfl ?_
      refine own_goto X16 hx (hb hby at_43) 47 (by decide) ?_
      refine own_retZ X16 hx hlk Bd.returns (by decide) (hb hby at_47) (by decide) (by decide) ?_
      show Q0 Z i0 i1 k0 k1 k2 k3 k4 k5 k6 k7 k8 k9 k10 k11 k12 k13 k14 k15 h0 n0 _ T16.heap _
      rw [e16]
      exact ⟨rfl, N16⟩
  · -- case 4
    rw [hk]
    show OwnW p e below (OwnG s (Q0 Z i0 i1 k0 k1 k2 k3 k4 k5 k6 k7 k8 k9 k10 k11 k12 k13 k14 k15 h0 n0) room_1.cells room_1.slots) (s₁.setTop (mkF m 8 #[.val (.int i0), .val (.int i1), .val (.int (4 : Int32)), .unset, .unset] []))
    refine own_iloadN X0 hx (hb hby at_8) rfl 9 rfl ?_
    refine own_callS X0 hx hZ hown (hw _ (List.mem_of_getElem? (i := 1) rfl)) (hw _ (List.mem_of_getElem? (i := 2) rfl)) (hw _ (List.mem_of_getElem? (i := 4) rfl)) (hw _ (List.mem_of_getElem? (i := 3) rfl)) (by decide) (rm1 l Z a0 hw [] (4 : Int32) k0 k1 k2 k3 k4 k5 k6 k7 k8 k9 k10 k11 k12 k13 k14 k15 h0 n0 Z0 S_FETCH S_LIST_OFFSETS S_METADATA S_OFFSET_COMMIT S_OFFSET_FETCH S_FIND_COORDINATOR S_JOIN_GROUP S_HEARTBEAT S_LEAVE_GROUP S_SYNC_GROUP S_DESCRIBE_GROUPS S_LIST_GROUPS S_API_VERSIONS S_CREATE_PARTITIONS S_DELETE_GROUPS S_JOURNAL_COPY) e0 (hb hby at_9) pd__I_Lcom_example_rollcall_rollcall_Api_ rfl (by rw [hml]; rfl) (st := []) rfl 0 (Nat.le_of_eq rfl) (by decide) (by decide) (by decide) (by decide) 12 rfl ?_
    intro T17 v17 L17 X17 hQ17
    obtain ⟨rfl, N17q, e17⟩ := hQ17
    have N17 := Fr.app N0 N17q
    show OwnW p e below (OwnG s (Q0 Z i0 i1 k0 k1 k2 k3 k4 k5 k6 k7 k8 k9 k10 k11 k12 k13 k14 k15 h0 n0) room_1.cells room_1.slots) (T17.setTop (mkF m 12 #[.val (.int i0), .val (.int i1), .val (.int (4 : Int32)), .unset, .unset] [(.ref (own_pick (4 : Int32) k0 k1 k2 k3 k4 k5 k6 k7 k8 k9 k10 k11 k12 k13 k14 k15))]))
    rw [show own_pick (4 : Int32) k0 k1 k2 k3 k4 k5 k6 k7 k8 k9 k10 k11 k12 k13 k14 k15 = k4 from by rw [own_pick, if_neg (by decide), if_neg (by decide), if_neg (by decide), if_neg (by decide), if_pos rfl]]
    refine own_astoreN X17 hx (hb hby at_12) rfl #[.val (.int i0), .val (.int i1), .val (.int (4 : Int32)), .val (.ref k4), .unset] rfl 13 rfl ?_
    refine own_iloadN X17 hx (hb hby at_13) rfl 14 rfl ?_
    by_cases hc14 : i1 < (0 : Int32)
    · -- hc14
      refine own_ifY X17 hx (hb hby at_14) (tlt hc14).1 29 (by decide) ?_
      refine own_iconst X17 hx (hb hby at_29) (0 : Int32) rfl 30 rfl ?_
      refine own_istore X17 hx (hb hby at_30) #[.val (.int i0), .val (.int i1), .val (.int (4 : Int32)), .val (.ref k4), .val (.int (0 : Int32))] rfl 32 rfl ?_
      refine own_aloadN X17 hx (hb hby at_32) rfl rfl 33 rfl ?_
      refine own_iloadN X17 hx (hb hby at_33) rfl 34 rfl ?_
      refine own_callV X17 hx hZ hown (hw _ (List.mem_of_getElem? (i := 11) rfl)) (hw _ (List.mem_of_getElem? (i := 12) rfl)) (hw _ (List.mem_of_getElem? (i := 14) rfl)) (hw _ (List.mem_of_getElem? (i := 13) rfl)) (hw _ (List.mem_of_getElem? (i := 15) rfl)) (hw _ (List.mem_of_getElem? (i := 6) rfl)) (by decide) E_k4 (rm3 l Z a0 hw [] k4 i1 (0 : Int32) (5 : Int32) h0 n0 Z0 F_minVersion_k4 F_maxVersion_k4) e17 (hb hby at_34) pd__I_Z rfl (by rw [hml]; rfl) (st := []) rfl 0 (Nat.le_of_eq rfl) (by decide) (by decide) (by decide) (by decide) 37 rfl ?_
      intro T18 v18 L18 X18 hQ18
      obtain ⟨rfl, N18q, e18⟩ := hQ18
      have N18 := Fr.app N17 N18q
      show OwnW p e below (OwnG s (Q0 Z i0 i1 k0 k1 k2 k3 k4 k5 k6 k7 k8 k9 k10 k11 k12 k13 k14 k15 h0 n0) room_1.cells room_1.slots) (T18.setTop (mkF m 37 #[.val (.int i0), .val (.int i1), .val (.int (4 : Int32)), .val (.ref k4), .val (.int (0 : Int32))] [(.int (own_serves i1 (0 : Int32) (5 : Int32)))]))
      refine own_iload X18 hx (hb hby at_37) rfl 39 rfl ?_
      have hc39 : (own_serves i1 (0 : Int32) (5 : Int32)) = (0 : Int32) := by rw [own_serves, if_pos hc14]
      refine own_icmpN X18 hx (hb hby at_39) (teq hc39).2 42 (by decide) ?_
      refine own_iconst X18 hx (hb hby at_42) (1 : Int32) rfl 43 rfl ?_
      refine own_goto X18 hx (hb hby at_43) 47 (by decide) ?_
      refine own_retZ X18 hx hlk Bd.returns (by decide) (hb hby at_47) (by decide) (by decide) ?_
      show Q0 Z i0 i1 k0 k1 k2 k3 k4 k5 k6 k7 k8 k9 k10 k11 k12 k13 k14 k15 h0 n0 _ T18.heap _
      rw [e18]
      exact ⟨rfl, N18⟩
    · -- not hc14
      refine own_ifN X17 hx (hb hby at_14) (flt hc14).1 17 (by decide) ?_
      refine own_iloadN X17 hx (hb hby at_17) rfl 18 rfl ?_
      refine own_iloadN X17 hx (hb hby at_18) rfl 19 rfl ?_
      refine own_callS X17 hx hZ hown (hw _ (List.mem_of_getElem? (i := 8) rfl)) (hw _ (List.mem_of_getElem? (i := 9) rfl)) (hw _ (List.mem_of_getElem? (i := 10) rfl)) (hw _ (List.mem_of_getElem? (i := 3) rfl)) (by decide) (rm2 l Z a0 hw [] (4 : Int32) h0 n0 Z0) e17 (hb hby at_19) pd__I_I rfl (by rw [hml]; rfl) (st := [(.int i1)]) rfl 1 (Nat.le_of_eq rfl) (by decide) (by decide) (by decide) (by decide) 22 rfl ?_
      intro T19 v19 L19 X19 hQ19
      obtain ⟨rfl, N19q, e19⟩ := hQ19
      have N19 := Fr.app N17 N19q
      show OwnW p e below (OwnG s (Q0 Z i0 i1 k0 k1 k2 k3 k4 k5 k6 k7 k8 k9 k10 k11 k12 k13 k14 k15 h0 n0) room_1.cells room_1.slots) (T19.setTop (mkF m 22 #[.val (.int i0), .val (.int i1), .val (.int (4 : Int32)), .val (.ref k4), .unset] [(.int (own_maxOf (4 : Int32))), (.int i1)]))
      rw [show own_maxOf (4 : Int32) = (5 : Int32) from by rw [own_maxOf, if_neg (by decide), if_neg (by decide), if_neg (by decide), if_neg (by decide), if_pos rfl]]
      suffices J30 : ∀ v30 : Int32, v30 = (if (5 : Int32) < i1 then (0 : Int32) else (1 : Int32)) → OwnW p e below (OwnG s (Q0 Z i0 i1 k0 k1 k2 k3 k4 k5 k6 k7 k8 k9 k10 k11 k12 k13 k14 k15 h0 n0) room_1.cells room_1.slots) (T19.setTop (mkF m 30 #[.val (.int i0), .val (.int i1), .val (.int (4 : Int32)), .val (.ref k4), .unset] [(.int v30)])) by
        by_cases hc22 : (5 : Int32) < i1
        · -- hc22
          refine own_icmpY X19 hx (hb hby at_22) (tlt hc22).2.2.1 29 (by decide) ?_
          refine own_iconst X19 hx (hb hby at_29) (0 : Int32) rfl 30 rfl ?_
          exact J30 _ (by rw [if_pos hc22])
        · -- not hc22
          refine own_icmpN X19 hx (hb hby at_22) (flt hc22).2.2.1 25 (by decide) ?_
          refine own_iconst X19 hx (hb hby at_25) (1 : Int32) rfl 26 rfl ?_
          refine own_goto X19 hx (hb hby at_26) 30 (by decide) ?_
          exact J30 _ (by rw [if_neg hc22])
      intro v30 hv30
      refine own_istore X19 hx (hb hby at_30) #[.val (.int i0), .val (.int i1), .val (.int (4 : Int32)), .val (.ref k4), .val (.int v30)] rfl 32 rfl ?_
      refine own_aloadN X19 hx (hb hby at_32) rfl rfl 33 rfl ?_
      refine own_iloadN X19 hx (hb hby at_33) rfl 34 rfl ?_
      refine own_callV X19 hx hZ hown (hw _ (List.mem_of_getElem? (i := 11) rfl)) (hw _ (List.mem_of_getElem? (i := 12) rfl)) (hw _ (List.mem_of_getElem? (i := 14) rfl)) (hw _ (List.mem_of_getElem? (i := 13) rfl)) (hw _ (List.mem_of_getElem? (i := 15) rfl)) (hw _ (List.mem_of_getElem? (i := 6) rfl)) (by decide) E_k4 (rm3 l Z a0 hw [] k4 i1 (0 : Int32) (5 : Int32) h0 n0 Z0 F_minVersion_k4 F_maxVersion_k4) e19 (hb hby at_34) pd__I_Z rfl (by rw [hml]; rfl) (st := []) rfl 0 (Nat.le_of_eq rfl) (by decide) (by decide) (by decide) (by decide) 37 rfl ?_
      intro T20 v20 L20 X20 hQ20
      obtain ⟨rfl, N20q, e20⟩ := hQ20
      have N20 := Fr.app N19 N20q
      show OwnW p e below (OwnG s (Q0 Z i0 i1 k0 k1 k2 k3 k4 k5 k6 k7 k8 k9 k10 k11 k12 k13 k14 k15 h0 n0) room_1.cells room_1.slots) (T20.setTop (mkF m 37 #[.val (.int i0), .val (.int i1), .val (.int (4 : Int32)), .val (.ref k4), .val (.int v30)] [(.int (own_serves i1 (0 : Int32) (5 : Int32)))]))
      refine own_iload X20 hx (hb hby at_37) rfl 39 rfl ?_
      have hc39 : (own_serves i1 (0 : Int32) (5 : Int32)) = v30 := by rw [hv30, own_serves, if_neg hc14]
      refine own_icmpN X20 hx (hb hby at_39) (teq hc39).2 42 (by decide) ?_
      refine own_iconst X20 hx (hb hby at_42) (1 : Int32) rfl 43 rfl ?_
      refine own_goto X20 hx (hb hby at_43) 47 (by decide) ?_
      refine own_retZ X20 hx hlk Bd.returns (by decide) (hb hby at_47) (by decide) (by decide) ?_
      show Q0 Z i0 i1 k0 k1 k2 k3 k4 k5 k6 k7 k8 k9 k10 k11 k12 k13 k14 k15 h0 n0 _ T20.heap _
      rw [e20]
      exact ⟨rfl, N20⟩
  · -- case 5
    rw [hk]
    show OwnW p e below (OwnG s (Q0 Z i0 i1 k0 k1 k2 k3 k4 k5 k6 k7 k8 k9 k10 k11 k12 k13 k14 k15 h0 n0) room_1.cells room_1.slots) (s₁.setTop (mkF m 8 #[.val (.int i0), .val (.int i1), .val (.int (5 : Int32)), .unset, .unset] []))
    refine own_iloadN X0 hx (hb hby at_8) rfl 9 rfl ?_
    refine own_callS X0 hx hZ hown (hw _ (List.mem_of_getElem? (i := 1) rfl)) (hw _ (List.mem_of_getElem? (i := 2) rfl)) (hw _ (List.mem_of_getElem? (i := 4) rfl)) (hw _ (List.mem_of_getElem? (i := 3) rfl)) (by decide) (rm1 l Z a0 hw [] (5 : Int32) k0 k1 k2 k3 k4 k5 k6 k7 k8 k9 k10 k11 k12 k13 k14 k15 h0 n0 Z0 S_FETCH S_LIST_OFFSETS S_METADATA S_OFFSET_COMMIT S_OFFSET_FETCH S_FIND_COORDINATOR S_JOIN_GROUP S_HEARTBEAT S_LEAVE_GROUP S_SYNC_GROUP S_DESCRIBE_GROUPS S_LIST_GROUPS S_API_VERSIONS S_CREATE_PARTITIONS S_DELETE_GROUPS S_JOURNAL_COPY) e0 (hb hby at_9) pd__I_Lcom_example_rollcall_rollcall_Api_ rfl (by rw [hml]; rfl) (st := []) rfl 0 (Nat.le_of_eq rfl) (by decide) (by decide) (by decide) (by decide) 12 rfl ?_
    intro T21 v21 L21 X21 hQ21
    obtain ⟨rfl, N21q, e21⟩ := hQ21
    have N21 := Fr.app N0 N21q
    show OwnW p e below (OwnG s (Q0 Z i0 i1 k0 k1 k2 k3 k4 k5 k6 k7 k8 k9 k10 k11 k12 k13 k14 k15 h0 n0) room_1.cells room_1.slots) (T21.setTop (mkF m 12 #[.val (.int i0), .val (.int i1), .val (.int (5 : Int32)), .unset, .unset] [(.ref (own_pick (5 : Int32) k0 k1 k2 k3 k4 k5 k6 k7 k8 k9 k10 k11 k12 k13 k14 k15))]))
    rw [show own_pick (5 : Int32) k0 k1 k2 k3 k4 k5 k6 k7 k8 k9 k10 k11 k12 k13 k14 k15 = k5 from by rw [own_pick, if_neg (by decide), if_neg (by decide), if_neg (by decide), if_neg (by decide), if_neg (by decide), if_pos rfl]]
    refine own_astoreN X21 hx (hb hby at_12) rfl #[.val (.int i0), .val (.int i1), .val (.int (5 : Int32)), .val (.ref k5), .unset] rfl 13 rfl ?_
    refine own_iloadN X21 hx (hb hby at_13) rfl 14 rfl ?_
    by_cases hc14 : i1 < (0 : Int32)
    · -- hc14
      refine own_ifY X21 hx (hb hby at_14) (tlt hc14).1 29 (by decide) ?_
      refine own_iconst X21 hx (hb hby at_29) (0 : Int32) rfl 30 rfl ?_
      refine own_istore X21 hx (hb hby at_30) #[.val (.int i0), .val (.int i1), .val (.int (5 : Int32)), .val (.ref k5), .val (.int (0 : Int32))] rfl 32 rfl ?_
      refine own_aloadN X21 hx (hb hby at_32) rfl rfl 33 rfl ?_
      refine own_iloadN X21 hx (hb hby at_33) rfl 34 rfl ?_
      refine own_callV X21 hx hZ hown (hw _ (List.mem_of_getElem? (i := 11) rfl)) (hw _ (List.mem_of_getElem? (i := 12) rfl)) (hw _ (List.mem_of_getElem? (i := 14) rfl)) (hw _ (List.mem_of_getElem? (i := 13) rfl)) (hw _ (List.mem_of_getElem? (i := 15) rfl)) (hw _ (List.mem_of_getElem? (i := 6) rfl)) (by decide) E_k5 (rm3 l Z a0 hw [] k5 i1 (0 : Int32) (2 : Int32) h0 n0 Z0 F_minVersion_k5 F_maxVersion_k5) e21 (hb hby at_34) pd__I_Z rfl (by rw [hml]; rfl) (st := []) rfl 0 (Nat.le_of_eq rfl) (by decide) (by decide) (by decide) (by decide) 37 rfl ?_
      intro T22 v22 L22 X22 hQ22
      obtain ⟨rfl, N22q, e22⟩ := hQ22
      have N22 := Fr.app N21 N22q
      show OwnW p e below (OwnG s (Q0 Z i0 i1 k0 k1 k2 k3 k4 k5 k6 k7 k8 k9 k10 k11 k12 k13 k14 k15 h0 n0) room_1.cells room_1.slots) (T22.setTop (mkF m 37 #[.val (.int i0), .val (.int i1), .val (.int (5 : Int32)), .val (.ref k5), .val (.int (0 : Int32))] [(.int (own_serves i1 (0 : Int32) (2 : Int32)))]))
      refine own_iload X22 hx (hb hby at_37) rfl 39 rfl ?_
      have hc39 : (own_serves i1 (0 : Int32) (2 : Int32)) = (0 : Int32) := by rw [own_serves, if_pos hc14]
      refine own_icmpN X22 hx (hb hby at_39) (teq hc39).2 42 (by decide) ?_
      refine own_iconst X22 hx (hb hby at_42) (1 : Int32) rfl 43 rfl ?_
      refine own_goto X22 hx (hb hby at_43) 47 (by decide) ?_
      refine own_retZ X22 hx hlk Bd.returns (by decide) (hb hby at_47) (by decide) (by decide) ?_
      show Q0 Z i0 i1 k0 k1 k2 k3 k4 k5 k6 k7 k8 k9 k10 k11 k12 k13 k14 k15 h0 n0 _ T22.heap _
      rw [e22]
      exact ⟨rfl, N22⟩
    · -- not hc14
      refine own_ifN X21 hx (hb hby at_14) (flt hc14).1 17 (by decide) ?_
      refine own_iloadN X21 hx (hb hby at_17) rfl 18 rfl ?_
      refine own_iloadN X21 hx (hb hby at_18) rfl 19 rfl ?_
      refine own_callS X21 hx hZ hown (hw _ (List.mem_of_getElem? (i := 8) rfl)) (hw _ (List.mem_of_getElem? (i := 9) rfl)) (hw _ (List.mem_of_getElem? (i := 10) rfl)) (hw _ (List.mem_of_getElem? (i := 3) rfl)) (by decide) (rm2 l Z a0 hw [] (5 : Int32) h0 n0 Z0) e21 (hb hby at_19) pd__I_I rfl (by rw [hml]; rfl) (st := [(.int i1)]) rfl 1 (Nat.le_of_eq rfl) (by decide) (by decide) (by decide) (by decide) 22 rfl ?_
      intro T23 v23 L23 X23 hQ23
      obtain ⟨rfl, N23q, e23⟩ := hQ23
      have N23 := Fr.app N21 N23q
      show OwnW p e below (OwnG s (Q0 Z i0 i1 k0 k1 k2 k3 k4 k5 k6 k7 k8 k9 k10 k11 k12 k13 k14 k15 h0 n0) room_1.cells room_1.slots) (T23.setTop (mkF m 22 #[.val (.int i0), .val (.int i1), .val (.int (5 : Int32)), .val (.ref k5), .unset] [(.int (own_maxOf (5 : Int32))), (.int i1)]))
      rw [show own_maxOf (5 : Int32) = (2 : Int32) from by rw [own_maxOf, if_neg (by decide), if_neg (by decide), if_neg (by decide), if_neg (by decide), if_neg (by decide), if_pos rfl]]
      suffices J30 : ∀ v30 : Int32, v30 = (if (2 : Int32) < i1 then (0 : Int32) else (1 : Int32)) → OwnW p e below (OwnG s (Q0 Z i0 i1 k0 k1 k2 k3 k4 k5 k6 k7 k8 k9 k10 k11 k12 k13 k14 k15 h0 n0) room_1.cells room_1.slots) (T23.setTop (mkF m 30 #[.val (.int i0), .val (.int i1), .val (.int (5 : Int32)), .val (.ref k5), .unset] [(.int v30)])) by
        by_cases hc22 : (2 : Int32) < i1
        · -- hc22
          refine own_icmpY X23 hx (hb hby at_22) (tlt hc22).2.2.1 29 (by decide) ?_
          refine own_iconst X23 hx (hb hby at_29) (0 : Int32) rfl 30 rfl ?_
          exact J30 _ (by rw [if_pos hc22])
        · -- not hc22
          refine own_icmpN X23 hx (hb hby at_22) (flt hc22).2.2.1 25 (by decide) ?_
          refine own_iconst X23 hx (hb hby at_25) (1 : Int32) rfl 26 rfl ?_
          refine own_goto X23 hx (hb hby at_26) 30 (by decide) ?_
          exact J30 _ (by rw [if_neg hc22])
      intro v30 hv30
      refine own_istore X23 hx (hb hby at_30) #[.val (.int i0), .val (.int i1), .val (.int (5 : Int32)), .val (.ref k5), .val (.int v30)] rfl 32 rfl ?_
      refine own_aloadN X23 hx (hb hby at_32) rfl rfl 33 rfl ?_
      refine own_iloadN X23 hx (hb hby at_33) rfl 34 rfl ?_
      refine own_callV X23 hx hZ hown (hw _ (List.mem_of_getElem? (i := 11) rfl)) (hw _ (List.mem_of_getElem? (i := 12) rfl)) (hw _ (List.mem_of_getElem? (i := 14) rfl)) (hw _ (List.mem_of_getElem? (i := 13) rfl)) (hw _ (List.mem_of_getElem? (i := 15) rfl)) (hw _ (List.mem_of_getElem? (i := 6) rfl)) (by decide) E_k5 (rm3 l Z a0 hw [] k5 i1 (0 : Int32) (2 : Int32) h0 n0 Z0 F_minVersion_k5 F_maxVersion_k5) e23 (hb hby at_34) pd__I_Z rfl (by rw [hml]; rfl) (st := []) rfl 0 (Nat.le_of_eq rfl) (by decide) (by decide) (by decide) (by decide) 37 rfl ?_
      intro T24 v24 L24 X24 hQ24
      obtain ⟨rfl, N24q, e24⟩ := hQ24
      have N24 := Fr.app N23 N24q
      show OwnW p e below (OwnG s (Q0 Z i0 i1 k0 k1 k2 k3 k4 k5 k6 k7 k8 k9 k10 k11 k12 k13 k14 k15 h0 n0) room_1.cells room_1.slots) (T24.setTop (mkF m 37 #[.val (.int i0), .val (.int i1), .val (.int (5 : Int32)), .val (.ref k5), .val (.int v30)] [(.int (own_serves i1 (0 : Int32) (2 : Int32)))]))
      refine own_iload X24 hx (hb hby at_37) rfl 39 rfl ?_
      have hc39 : (own_serves i1 (0 : Int32) (2 : Int32)) = v30 := by rw [hv30, own_serves, if_neg hc14]
      refine own_icmpN X24 hx (hb hby at_39) (teq hc39).2 42 (by decide) ?_
      refine own_iconst X24 hx (hb hby at_42) (1 : Int32) rfl 43 rfl ?_
      refine own_goto X24 hx (hb hby at_43) 47 (by decide) ?_
      refine own_retZ X24 hx hlk Bd.returns (by decide) (hb hby at_47) (by decide) (by decide) ?_
      show Q0 Z i0 i1 k0 k1 k2 k3 k4 k5 k6 k7 k8 k9 k10 k11 k12 k13 k14 k15 h0 n0 _ T24.heap _
      rw [e24]
      exact ⟨rfl, N24⟩
  · -- case 6
    rw [hk]
    show OwnW p e below (OwnG s (Q0 Z i0 i1 k0 k1 k2 k3 k4 k5 k6 k7 k8 k9 k10 k11 k12 k13 k14 k15 h0 n0) room_1.cells room_1.slots) (s₁.setTop (mkF m 8 #[.val (.int i0), .val (.int i1), .val (.int (6 : Int32)), .unset, .unset] []))
    refine own_iloadN X0 hx (hb hby at_8) rfl 9 rfl ?_
    refine own_callS X0 hx hZ hown (hw _ (List.mem_of_getElem? (i := 1) rfl)) (hw _ (List.mem_of_getElem? (i := 2) rfl)) (hw _ (List.mem_of_getElem? (i := 4) rfl)) (hw _ (List.mem_of_getElem? (i := 3) rfl)) (by decide) (rm1 l Z a0 hw [] (6 : Int32) k0 k1 k2 k3 k4 k5 k6 k7 k8 k9 k10 k11 k12 k13 k14 k15 h0 n0 Z0 S_FETCH S_LIST_OFFSETS S_METADATA S_OFFSET_COMMIT S_OFFSET_FETCH S_FIND_COORDINATOR S_JOIN_GROUP S_HEARTBEAT S_LEAVE_GROUP S_SYNC_GROUP S_DESCRIBE_GROUPS S_LIST_GROUPS S_API_VERSIONS S_CREATE_PARTITIONS S_DELETE_GROUPS S_JOURNAL_COPY) e0 (hb hby at_9) pd__I_Lcom_example_rollcall_rollcall_Api_ rfl (by rw [hml]; rfl) (st := []) rfl 0 (Nat.le_of_eq rfl) (by decide) (by decide) (by decide) (by decide) 12 rfl ?_
    intro T25 v25 L25 X25 hQ25
    obtain ⟨rfl, N25q, e25⟩ := hQ25
    have N25 := Fr.app N0 N25q
    show OwnW p e below (OwnG s (Q0 Z i0 i1 k0 k1 k2 k3 k4 k5 k6 k7 k8 k9 k10 k11 k12 k13 k14 k15 h0 n0) room_1.cells room_1.slots) (T25.setTop (mkF m 12 #[.val (.int i0), .val (.int i1), .val (.int (6 : Int32)), .unset, .unset] [(.ref (own_pick (6 : Int32) k0 k1 k2 k3 k4 k5 k6 k7 k8 k9 k10 k11 k12 k13 k14 k15))]))
    rw [show own_pick (6 : Int32) k0 k1 k2 k3 k4 k5 k6 k7 k8 k9 k10 k11 k12 k13 k14 k15 = k6 from by rw [own_pick, if_neg (by decide), if_neg (by decide), if_neg (by decide), if_neg (by decide), if_neg (by decide), if_neg (by decide), if_pos rfl]]
    refine own_astoreN X25 hx (hb hby at_12) rfl #[.val (.int i0), .val (.int i1), .val (.int (6 : Int32)), .val (.ref k6), .unset] rfl 13 rfl ?_
    refine own_iloadN X25 hx (hb hby at_13) rfl 14 rfl ?_
    by_cases hc14 : i1 < (0 : Int32)
    · -- hc14
      refine own_ifY X25 hx (hb hby at_14) (tlt hc14).1 29 (by decide) ?_
      refine own_iconst X25 hx (hb hby at_29) (0 : Int32) rfl 30 rfl ?_
      refine own_istore X25 hx (hb hby at_30) #[.val (.int i0), .val (.int i1), .val (.int (6 : Int32)), .val (.ref k6), .val (.int (0 : Int32))] rfl 32 rfl ?_
      refine own_aloadN X25 hx (hb hby at_32) rfl rfl 33 rfl ?_
      refine own_iloadN X25 hx (hb hby at_33) rfl 34 rfl ?_
      refine own_callV X25 hx hZ hown (hw _ (List.mem_of_getElem? (i := 11) rfl)) (hw _ (List.mem_of_getElem? (i := 12) rfl)) (hw _ (List.mem_of_getElem? (i := 14) rfl)) (hw _ (List.mem_of_getElem? (i := 13) rfl)) (hw _ (List.mem_of_getElem? (i := 15) rfl)) (hw _ (List.mem_of_getElem? (i := 6) rfl)) (by decide) E_k6 (rm3 l Z a0 hw [] k6 i1 (0 : Int32) (5 : Int32) h0 n0 Z0 F_minVersion_k6 F_maxVersion_k6) e25 (hb hby at_34) pd__I_Z rfl (by rw [hml]; rfl) (st := []) rfl 0 (Nat.le_of_eq rfl) (by decide) (by decide) (by decide) (by decide) 37 rfl ?_
      intro T26 v26 L26 X26 hQ26
      obtain ⟨rfl, N26q, e26⟩ := hQ26
      have N26 := Fr.app N25 N26q
      show OwnW p e below (OwnG s (Q0 Z i0 i1 k0 k1 k2 k3 k4 k5 k6 k7 k8 k9 k10 k11 k12 k13 k14 k15 h0 n0) room_1.cells room_1.slots) (T26.setTop (mkF m 37 #[.val (.int i0), .val (.int i1), .val (.int (6 : Int32)), .val (.ref k6), .val (.int (0 : Int32))] [(.int (own_serves i1 (0 : Int32) (5 : Int32)))]))
      refine own_iload X26 hx (hb hby at_37) rfl 39 rfl ?_
      have hc39 : (own_serves i1 (0 : Int32) (5 : Int32)) = (0 : Int32) := by rw [own_serves, if_pos hc14]
      refine own_icmpN X26 hx (hb hby at_39) (teq hc39).2 42 (by decide) ?_
      refine own_iconst X26 hx (hb hby at_42) (1 : Int32) rfl 43 rfl ?_
      refine own_goto X26 hx (hb hby at_43) 47 (by decide) ?_
      refine own_retZ X26 hx hlk Bd.returns (by decide) (hb hby at_47) (by decide) (by decide) ?_
      show Q0 Z i0 i1 k0 k1 k2 k3 k4 k5 k6 k7 k8 k9 k10 k11 k12 k13 k14 k15 h0 n0 _ T26.heap _
      rw [e26]
      exact ⟨rfl, N26⟩
    · -- not hc14
      refine own_ifN X25 hx (hb hby at_14) (flt hc14).1 17 (by decide) ?_
      refine own_iloadN X25 hx (hb hby at_17) rfl 18 rfl ?_
      refine own_iloadN X25 hx (hb hby at_18) rfl 19 rfl ?_
      refine own_callS X25 hx hZ hown (hw _ (List.mem_of_getElem? (i := 8) rfl)) (hw _ (List.mem_of_getElem? (i := 9) rfl)) (hw _ (List.mem_of_getElem? (i := 10) rfl)) (hw _ (List.mem_of_getElem? (i := 3) rfl)) (by decide) (rm2 l Z a0 hw [] (6 : Int32) h0 n0 Z0) e25 (hb hby at_19) pd__I_I rfl (by rw [hml]; rfl) (st := [(.int i1)]) rfl 1 (Nat.le_of_eq rfl) (by decide) (by decide) (by decide) (by decide) 22 rfl ?_
      intro T27 v27 L27 X27 hQ27
      obtain ⟨rfl, N27q, e27⟩ := hQ27
      have N27 := Fr.app N25 N27q
      show OwnW p e below (OwnG s (Q0 Z i0 i1 k0 k1 k2 k3 k4 k5 k6 k7 k8 k9 k10 k11 k12 k13 k14 k15 h0 n0) room_1.cells room_1.slots) (T27.setTop (mkF m 22 #[.val (.int i0), .val (.int i1), .val (.int (6 : Int32)), .val (.ref k6), .unset] [(.int (own_maxOf (6 : Int32))), (.int i1)]))
      rw [show own_maxOf (6 : Int32) = (5 : Int32) from by rw [own_maxOf, if_neg (by decide), if_neg (by decide), if_neg (by decide), if_neg (by decide), if_neg (by decide), if_neg (by decide), if_pos rfl]]
      suffices J30 : ∀ v30 : Int32, v30 = (if (5 : Int32) < i1 then (0 : Int32) else (1 : Int32)) → OwnW p e below (OwnG s (Q0 Z i0 i1 k0 k1 k2 k3 k4 k5 k6 k7 k8 k9 k10 k11 k12 k13 k14 k15 h0 n0) room_1.cells room_1.slots) (T27.setTop (mkF m 30 #[.val (.int i0), .val (.int i1), .val (.int (6 : Int32)), .val (.ref k6), .unset] [(.int v30)])) by
        by_cases hc22 : (5 : Int32) < i1
        · -- hc22
          refine own_icmpY X27 hx (hb hby at_22) (tlt hc22).2.2.1 29 (by decide) ?_
          refine own_iconst X27 hx (hb hby at_29) (0 : Int32) rfl 30 rfl ?_
          exact J30 _ (by rw [if_pos hc22])
        · -- not hc22
          refine own_icmpN X27 hx (hb hby at_22) (flt hc22).2.2.1 25 (by decide) ?_
          refine own_iconst X27 hx (hb hby at_25) (1 : Int32) rfl 26 rfl ?_
          refine own_goto X27 hx (hb hby at_26) 30 (by decide) ?_
          exact J30 _ (by rw [if_neg hc22])
      intro v30 hv30
      refine own_istore X27 hx (hb hby at_30) #[.val (.int i0), .val (.int i1), .val (.int (6 : Int32)), .val (.ref k6), .val (.int v30)] rfl 32 rfl ?_
      refine own_aloadN X27 hx (hb hby at_32) rfl rfl 33 rfl ?_
      refine own_iloadN X27 hx (hb hby at_33) rfl 34 rfl ?_
      refine own_callV X27 hx hZ hown (hw _ (List.mem_of_getElem? (i := 11) rfl)) (hw _ (List.mem_of_getElem? (i := 12) rfl)) (hw _ (List.mem_of_getElem? (i := 14) rfl)) (hw _ (List.mem_of_getElem? (i := 13) rfl)) (hw _ (List.mem_of_getElem? (i := 15) rfl)) (hw _ (List.mem_of_getElem? (i := 6) rfl)) (by decide) E_k6 (rm3 l Z a0 hw [] k6 i1 (0 : Int32) (5 : Int32) h0 n0 Z0 F_minVersion_k6 F_maxVersion_k6) e27 (hb hby at_34) pd__I_Z rfl (by rw [hml]; rfl) (st := []) rfl 0 (Nat.le_of_eq rfl) (by decide) (by decide) (by decide) (by decide) 37 rfl ?_
      intro T28 v28 L28 X28 hQ28
      obtain ⟨rfl, N28q, e28⟩ := hQ28
      have N28 := Fr.app N27 N28q
      show OwnW p e below (OwnG s (Q0 Z i0 i1 k0 k1 k2 k3 k4 k5 k6 k7 k8 k9 k10 k11 k12 k13 k14 k15 h0 n0) room_1.cells room_1.slots) (T28.setTop (mkF m 37 #[.val (.int i0), .val (.int i1), .val (.int (6 : Int32)), .val (.ref k6), .val (.int v30)] [(.int (own_serves i1 (0 : Int32) (5 : Int32)))]))
      refine own_iload X28 hx (hb hby at_37) rfl 39 rfl ?_
      have hc39 : (own_serves i1 (0 : Int32) (5 : Int32)) = v30 := by rw [hv30, own_serves, if_neg hc14]
      refine own_icmpN X28 hx (hb hby at_39) (teq hc39).2 42 (by decide) ?_
      refine own_iconst X28 hx (hb hby at_42) (1 : Int32) rfl 43 rfl ?_
      refine own_goto X28 hx (hb hby at_43) 47 (by decide) ?_
      refine own_retZ X28 hx hlk Bd.returns (by decide) (hb hby at_47) (by decide) (by decide) ?_
      show Q0 Z i0 i1 k0 k1 k2 k3 k4 k5 k6 k7 k8 k9 k10 k11 k12 k13 k14 k15 h0 n0 _ T28.heap _
      rw [e28]
      exact ⟨rfl, N28⟩
  · -- case 7
    rw [hk]
    show OwnW p e below (OwnG s (Q0 Z i0 i1 k0 k1 k2 k3 k4 k5 k6 k7 k8 k9 k10 k11 k12 k13 k14 k15 h0 n0) room_1.cells room_1.slots) (s₁.setTop (mkF m 8 #[.val (.int i0), .val (.int i1), .val (.int (7 : Int32)), .unset, .unset] []))
    refine own_iloadN X0 hx (hb hby at_8) rfl 9 rfl ?_
    refine own_callS X0 hx hZ hown (hw _ (List.mem_of_getElem? (i := 1) rfl)) (hw _ (List.mem_of_getElem? (i := 2) rfl)) (hw _ (List.mem_of_getElem? (i := 4) rfl)) (hw _ (List.mem_of_getElem? (i := 3) rfl)) (by decide) (rm1 l Z a0 hw [] (7 : Int32) k0 k1 k2 k3 k4 k5 k6 k7 k8 k9 k10 k11 k12 k13 k14 k15 h0 n0 Z0 S_FETCH S_LIST_OFFSETS S_METADATA S_OFFSET_COMMIT S_OFFSET_FETCH S_FIND_COORDINATOR S_JOIN_GROUP S_HEARTBEAT S_LEAVE_GROUP S_SYNC_GROUP S_DESCRIBE_GROUPS S_LIST_GROUPS S_API_VERSIONS S_CREATE_PARTITIONS S_DELETE_GROUPS S_JOURNAL_COPY) e0 (hb hby at_9) pd__I_Lcom_example_rollcall_rollcall_Api_ rfl (by rw [hml]; rfl) (st := []) rfl 0 (Nat.le_of_eq rfl) (by decide) (by decide) (by decide) (by decide) 12 rfl ?_
    intro T29 v29 L29 X29 hQ29
    obtain ⟨rfl, N29q, e29⟩ := hQ29
    have N29 := Fr.app N0 N29q
    show OwnW p e below (OwnG s (Q0 Z i0 i1 k0 k1 k2 k3 k4 k5 k6 k7 k8 k9 k10 k11 k12 k13 k14 k15 h0 n0) room_1.cells room_1.slots) (T29.setTop (mkF m 12 #[.val (.int i0), .val (.int i1), .val (.int (7 : Int32)), .unset, .unset] [(.ref (own_pick (7 : Int32) k0 k1 k2 k3 k4 k5 k6 k7 k8 k9 k10 k11 k12 k13 k14 k15))]))
    rw [show own_pick (7 : Int32) k0 k1 k2 k3 k4 k5 k6 k7 k8 k9 k10 k11 k12 k13 k14 k15 = k7 from by rw [own_pick, if_neg (by decide), if_neg (by decide), if_neg (by decide), if_neg (by decide), if_neg (by decide), if_neg (by decide), if_neg (by decide), if_pos rfl]]
    refine own_astoreN X29 hx (hb hby at_12) rfl #[.val (.int i0), .val (.int i1), .val (.int (7 : Int32)), .val (.ref k7), .unset] rfl 13 rfl ?_
    refine own_iloadN X29 hx (hb hby at_13) rfl 14 rfl ?_
    by_cases hc14 : i1 < (0 : Int32)
    · -- hc14
      refine own_ifY X29 hx (hb hby at_14) (tlt hc14).1 29 (by decide) ?_
      refine own_iconst X29 hx (hb hby at_29) (0 : Int32) rfl 30 rfl ?_
      refine own_istore X29 hx (hb hby at_30) #[.val (.int i0), .val (.int i1), .val (.int (7 : Int32)), .val (.ref k7), .val (.int (0 : Int32))] rfl 32 rfl ?_
      refine own_aloadN X29 hx (hb hby at_32) rfl rfl 33 rfl ?_
      refine own_iloadN X29 hx (hb hby at_33) rfl 34 rfl ?_
      refine own_callV X29 hx hZ hown (hw _ (List.mem_of_getElem? (i := 11) rfl)) (hw _ (List.mem_of_getElem? (i := 12) rfl)) (hw _ (List.mem_of_getElem? (i := 14) rfl)) (hw _ (List.mem_of_getElem? (i := 13) rfl)) (hw _ (List.mem_of_getElem? (i := 15) rfl)) (hw _ (List.mem_of_getElem? (i := 6) rfl)) (by decide) E_k7 (rm3 l Z a0 hw [] k7 i1 (0 : Int32) (3 : Int32) h0 n0 Z0 F_minVersion_k7 F_maxVersion_k7) e29 (hb hby at_34) pd__I_Z rfl (by rw [hml]; rfl) (st := []) rfl 0 (Nat.le_of_eq rfl) (by decide) (by decide) (by decide) (by decide) 37 rfl ?_
      intro T30 v30 L30 X30 hQ30
      obtain ⟨rfl, N30q, e30⟩ := hQ30
      have N30 := Fr.app N29 N30q
      show OwnW p e below (OwnG s (Q0 Z i0 i1 k0 k1 k2 k3 k4 k5 k6 k7 k8 k9 k10 k11 k12 k13 k14 k15 h0 n0) room_1.cells room_1.slots) (T30.setTop (mkF m 37 #[.val (.int i0), .val (.int i1), .val (.int (7 : Int32)), .val (.ref k7), .val (.int (0 : Int32))] [(.int (own_serves i1 (0 : Int32) (3 : Int32)))]))
      refine own_iload X30 hx (hb hby at_37) rfl 39 rfl ?_
      have hc39 : (own_serves i1 (0 : Int32) (3 : Int32)) = (0 : Int32) := by rw [own_serves, if_pos hc14]
      refine own_icmpN X30 hx (hb hby at_39) (teq hc39).2 42 (by decide) ?_
      refine own_iconst X30 hx (hb hby at_42) (1 : Int32) rfl 43 rfl ?_
      refine own_goto X30 hx (hb hby at_43) 47 (by decide) ?_
      refine own_retZ X30 hx hlk Bd.returns (by decide) (hb hby at_47) (by decide) (by decide) ?_
      show Q0 Z i0 i1 k0 k1 k2 k3 k4 k5 k6 k7 k8 k9 k10 k11 k12 k13 k14 k15 h0 n0 _ T30.heap _
      rw [e30]
      exact ⟨rfl, N30⟩
    · -- not hc14
      refine own_ifN X29 hx (hb hby at_14) (flt hc14).1 17 (by decide) ?_
      refine own_iloadN X29 hx (hb hby at_17) rfl 18 rfl ?_
      refine own_iloadN X29 hx (hb hby at_18) rfl 19 rfl ?_
      refine own_callS X29 hx hZ hown (hw _ (List.mem_of_getElem? (i := 8) rfl)) (hw _ (List.mem_of_getElem? (i := 9) rfl)) (hw _ (List.mem_of_getElem? (i := 10) rfl)) (hw _ (List.mem_of_getElem? (i := 3) rfl)) (by decide) (rm2 l Z a0 hw [] (7 : Int32) h0 n0 Z0) e29 (hb hby at_19) pd__I_I rfl (by rw [hml]; rfl) (st := [(.int i1)]) rfl 1 (Nat.le_of_eq rfl) (by decide) (by decide) (by decide) (by decide) 22 rfl ?_
      intro T31 v31 L31 X31 hQ31
      obtain ⟨rfl, N31q, e31⟩ := hQ31
      have N31 := Fr.app N29 N31q
      show OwnW p e below (OwnG s (Q0 Z i0 i1 k0 k1 k2 k3 k4 k5 k6 k7 k8 k9 k10 k11 k12 k13 k14 k15 h0 n0) room_1.cells room_1.slots) (T31.setTop (mkF m 22 #[.val (.int i0), .val (.int i1), .val (.int (7 : Int32)), .val (.ref k7), .unset] [(.int (own_maxOf (7 : Int32))), (.int i1)]))
      rw [show own_maxOf (7 : Int32) = (3 : Int32) from by rw [own_maxOf, if_neg (by decide), if_neg (by decide), if_neg (by decide), if_neg (by decide), if_neg (by decide), if_neg (by decide), if_neg (by decide), if_pos rfl]]
      suffices J30 : ∀ v30 : Int32, v30 = (if (3 : Int32) < i1 then (0 : Int32) else (1 : Int32)) → OwnW p e below (OwnG s (Q0 Z i0 i1 k0 k1 k2 k3 k4 k5 k6 k7 k8 k9 k10 k11 k12 k13 k14 k15 h0 n0) room_1.cells room_1.slots) (T31.setTop (mkF m 30 #[.val (.int i0), .val (.int i1), .val (.int (7 : Int32)), .val (.ref k7), .unset] [(.int v30)])) by
        by_cases hc22 : (3 : Int32) < i1
        · -- hc22
          refine own_icmpY X31 hx (hb hby at_22) (tlt hc22).2.2.1 29 (by decide) ?_
          refine own_iconst X31 hx (hb hby at_29) (0 : Int32) rfl 30 rfl ?_
          exact J30 _ (by rw [if_pos hc22])
        · -- not hc22
          refine own_icmpN X31 hx (hb hby at_22) (flt hc22).2.2.1 25 (by decide) ?_
          refine own_iconst X31 hx (hb hby at_25) (1 : Int32) rfl 26 rfl ?_
          refine own_goto X31 hx (hb hby at_26) 30 (by decide) ?_
          exact J30 _ (by rw [if_neg hc22])
      intro v30 hv30
      refine own_istore X31 hx (hb hby at_30) #[.val (.int i0), .val (.int i1), .val (.int (7 : Int32)), .val (.ref k7), .val (.int v30)] rfl 32 rfl ?_
      refine own_aloadN X31 hx (hb hby at_32) rfl rfl 33 rfl ?_
      refine own_iloadN X31 hx (hb hby at_33) rfl 34 rfl ?_
      refine own_callV X31 hx hZ hown (hw _ (List.mem_of_getElem? (i := 11) rfl)) (hw _ (List.mem_of_getElem? (i := 12) rfl)) (hw _ (List.mem_of_getElem? (i := 14) rfl)) (hw _ (List.mem_of_getElem? (i := 13) rfl)) (hw _ (List.mem_of_getElem? (i := 15) rfl)) (hw _ (List.mem_of_getElem? (i := 6) rfl)) (by decide) E_k7 (rm3 l Z a0 hw [] k7 i1 (0 : Int32) (3 : Int32) h0 n0 Z0 F_minVersion_k7 F_maxVersion_k7) e31 (hb hby at_34) pd__I_Z rfl (by rw [hml]; rfl) (st := []) rfl 0 (Nat.le_of_eq rfl) (by decide) (by decide) (by decide) (by decide) 37 rfl ?_
      intro T32 v32 L32 X32 hQ32
      obtain ⟨rfl, N32q, e32⟩ := hQ32
      have N32 := Fr.app N31 N32q
      show OwnW p e below (OwnG s (Q0 Z i0 i1 k0 k1 k2 k3 k4 k5 k6 k7 k8 k9 k10 k11 k12 k13 k14 k15 h0 n0) room_1.cells room_1.slots) (T32.setTop (mkF m 37 #[.val (.int i0), .val (.int i1), .val (.int (7 : Int32)), .val (.ref k7), .val (.int v30)] [(.int (own_serves i1 (0 : Int32) (3 : Int32)))]))
      refine own_iload X32 hx (hb hby at_37) rfl 39 rfl ?_
      have hc39 : (own_serves i1 (0 : Int32) (3 : Int32)) = v30 := by rw [hv30, own_serves, if_neg hc14]
      refine own_icmpN X32 hx (hb hby at_39) (teq hc39).2 42 (by decide) ?_
      refine own_iconst X32 hx (hb hby at_42) (1 : Int32) rfl 43 rfl ?_
      refine own_goto X32 hx (hb hby at_43) 47 (by decide) ?_
      refine own_retZ X32 hx hlk Bd.returns (by decide) (hb hby at_47) (by decide) (by decide) ?_
      show Q0 Z i0 i1 k0 k1 k2 k3 k4 k5 k6 k7 k8 k9 k10 k11 k12 k13 k14 k15 h0 n0 _ T32.heap _
      rw [e32]
      exact ⟨rfl, N32⟩
  · -- case 8
    rw [hk]
    show OwnW p e below (OwnG s (Q0 Z i0 i1 k0 k1 k2 k3 k4 k5 k6 k7 k8 k9 k10 k11 k12 k13 k14 k15 h0 n0) room_1.cells room_1.slots) (s₁.setTop (mkF m 8 #[.val (.int i0), .val (.int i1), .val (.int (8 : Int32)), .unset, .unset] []))
    refine own_iloadN X0 hx (hb hby at_8) rfl 9 rfl ?_
    refine own_callS X0 hx hZ hown (hw _ (List.mem_of_getElem? (i := 1) rfl)) (hw _ (List.mem_of_getElem? (i := 2) rfl)) (hw _ (List.mem_of_getElem? (i := 4) rfl)) (hw _ (List.mem_of_getElem? (i := 3) rfl)) (by decide) (rm1 l Z a0 hw [] (8 : Int32) k0 k1 k2 k3 k4 k5 k6 k7 k8 k9 k10 k11 k12 k13 k14 k15 h0 n0 Z0 S_FETCH S_LIST_OFFSETS S_METADATA S_OFFSET_COMMIT S_OFFSET_FETCH S_FIND_COORDINATOR S_JOIN_GROUP S_HEARTBEAT S_LEAVE_GROUP S_SYNC_GROUP S_DESCRIBE_GROUPS S_LIST_GROUPS S_API_VERSIONS S_CREATE_PARTITIONS S_DELETE_GROUPS S_JOURNAL_COPY) e0 (hb hby at_9) pd__I_Lcom_example_rollcall_rollcall_Api_ rfl (by rw [hml]; rfl) (st := []) rfl 0 (Nat.le_of_eq rfl) (by decide) (by decide) (by decide) (by decide) 12 rfl ?_
    intro T33 v33 L33 X33 hQ33
    obtain ⟨rfl, N33q, e33⟩ := hQ33
    have N33 := Fr.app N0 N33q
    show OwnW p e below (OwnG s (Q0 Z i0 i1 k0 k1 k2 k3 k4 k5 k6 k7 k8 k9 k10 k11 k12 k13 k14 k15 h0 n0) room_1.cells room_1.slots) (T33.setTop (mkF m 12 #[.val (.int i0), .val (.int i1), .val (.int (8 : Int32)), .unset, .unset] [(.ref (own_pick (8 : Int32) k0 k1 k2 k3 k4 k5 k6 k7 k8 k9 k10 k11 k12 k13 k14 k15))]))
    rw [show own_pick (8 : Int32) k0 k1 k2 k3 k4 k5 k6 k7 k8 k9 k10 k11 k12 k13 k14 k15 = k8 from by rw [own_pick, if_neg (by decide), if_neg (by decide), if_neg (by decide), if_neg (by decide), if_neg (by decide), if_neg (by decide), if_neg (by decide), if_neg (by decide), if_pos rfl]]
    refine own_astoreN X33 hx (hb hby at_12) rfl #[.val (.int i0), .val (.int i1), .val (.int (8 : Int32)), .val (.ref k8), .unset] rfl 13 rfl ?_
    refine own_iloadN X33 hx (hb hby at_13) rfl 14 rfl ?_
    by_cases hc14 : i1 < (0 : Int32)
    · -- hc14
      refine own_ifY X33 hx (hb hby at_14) (tlt hc14).1 29 (by decide) ?_
      refine own_iconst X33 hx (hb hby at_29) (0 : Int32) rfl 30 rfl ?_
      refine own_istore X33 hx (hb hby at_30) #[.val (.int i0), .val (.int i1), .val (.int (8 : Int32)), .val (.ref k8), .val (.int (0 : Int32))] rfl 32 rfl ?_
      refine own_aloadN X33 hx (hb hby at_32) rfl rfl 33 rfl ?_
      refine own_iloadN X33 hx (hb hby at_33) rfl 34 rfl ?_
      refine own_callV X33 hx hZ hown (hw _ (List.mem_of_getElem? (i := 11) rfl)) (hw _ (List.mem_of_getElem? (i := 12) rfl)) (hw _ (List.mem_of_getElem? (i := 14) rfl)) (hw _ (List.mem_of_getElem? (i := 13) rfl)) (hw _ (List.mem_of_getElem? (i := 15) rfl)) (hw _ (List.mem_of_getElem? (i := 6) rfl)) (by decide) E_k8 (rm3 l Z a0 hw [] k8 i1 (0 : Int32) (3 : Int32) h0 n0 Z0 F_minVersion_k8 F_maxVersion_k8) e33 (hb hby at_34) pd__I_Z rfl (by rw [hml]; rfl) (st := []) rfl 0 (Nat.le_of_eq rfl) (by decide) (by decide) (by decide) (by decide) 37 rfl ?_
      intro T34 v34 L34 X34 hQ34
      obtain ⟨rfl, N34q, e34⟩ := hQ34
      have N34 := Fr.app N33 N34q
      show OwnW p e below (OwnG s (Q0 Z i0 i1 k0 k1 k2 k3 k4 k5 k6 k7 k8 k9 k10 k11 k12 k13 k14 k15 h0 n0) room_1.cells room_1.slots) (T34.setTop (mkF m 37 #[.val (.int i0), .val (.int i1), .val (.int (8 : Int32)), .val (.ref k8), .val (.int (0 : Int32))] [(.int (own_serves i1 (0 : Int32) (3 : Int32)))]))
      refine own_iload X34 hx (hb hby at_37) rfl 39 rfl ?_
      have hc39 : (own_serves i1 (0 : Int32) (3 : Int32)) = (0 : Int32) := by rw [own_serves, if_pos hc14]
      refine own_icmpN X34 hx (hb hby at_39) (teq hc39).2 42 (by decide) ?_
      refine own_iconst X34 hx (hb hby at_42) (1 : Int32) rfl 43 rfl ?_
      refine own_goto X34 hx (hb hby at_43) 47 (by decide) ?_
      refine own_retZ X34 hx hlk Bd.returns (by decide) (hb hby at_47) (by decide) (by decide) ?_
      show Q0 Z i0 i1 k0 k1 k2 k3 k4 k5 k6 k7 k8 k9 k10 k11 k12 k13 k14 k15 h0 n0 _ T34.heap _
      rw [e34]
      exact ⟨rfl, N34⟩
    · -- not hc14
      refine own_ifN X33 hx (hb hby at_14) (flt hc14).1 17 (by decide) ?_
      refine own_iloadN X33 hx (hb hby at_17) rfl 18 rfl ?_
      refine own_iloadN X33 hx (hb hby at_18) rfl 19 rfl ?_
      refine own_callS X33 hx hZ hown (hw _ (List.mem_of_getElem? (i := 8) rfl)) (hw _ (List.mem_of_getElem? (i := 9) rfl)) (hw _ (List.mem_of_getElem? (i := 10) rfl)) (hw _ (List.mem_of_getElem? (i := 3) rfl)) (by decide) (rm2 l Z a0 hw [] (8 : Int32) h0 n0 Z0) e33 (hb hby at_19) pd__I_I rfl (by rw [hml]; rfl) (st := [(.int i1)]) rfl 1 (Nat.le_of_eq rfl) (by decide) (by decide) (by decide) (by decide) 22 rfl ?_
      intro T35 v35 L35 X35 hQ35
      obtain ⟨rfl, N35q, e35⟩ := hQ35
      have N35 := Fr.app N33 N35q
      show OwnW p e below (OwnG s (Q0 Z i0 i1 k0 k1 k2 k3 k4 k5 k6 k7 k8 k9 k10 k11 k12 k13 k14 k15 h0 n0) room_1.cells room_1.slots) (T35.setTop (mkF m 22 #[.val (.int i0), .val (.int i1), .val (.int (8 : Int32)), .val (.ref k8), .unset] [(.int (own_maxOf (8 : Int32))), (.int i1)]))
      rw [show own_maxOf (8 : Int32) = (3 : Int32) from by rw [own_maxOf, if_neg (by decide), if_neg (by decide), if_neg (by decide), if_neg (by decide), if_neg (by decide), if_neg (by decide), if_neg (by decide), if_neg (by decide), if_pos rfl]]
      suffices J30 : ∀ v30 : Int32, v30 = (if (3 : Int32) < i1 then (0 : Int32) else (1 : Int32)) → OwnW p e below (OwnG s (Q0 Z i0 i1 k0 k1 k2 k3 k4 k5 k6 k7 k8 k9 k10 k11 k12 k13 k14 k15 h0 n0) room_1.cells room_1.slots) (T35.setTop (mkF m 30 #[.val (.int i0), .val (.int i1), .val (.int (8 : Int32)), .val (.ref k8), .unset] [(.int v30)])) by
        by_cases hc22 : (3 : Int32) < i1
        · -- hc22
          refine own_icmpY X35 hx (hb hby at_22) (tlt hc22).2.2.1 29 (by decide) ?_
          refine own_iconst X35 hx (hb hby at_29) (0 : Int32) rfl 30 rfl ?_
          exact J30 _ (by rw [if_pos hc22])
        · -- not hc22
          refine own_icmpN X35 hx (hb hby at_22) (flt hc22).2.2.1 25 (by decide) ?_
          refine own_iconst X35 hx (hb hby at_25) (1 : Int32) rfl 26 rfl ?_
          refine own_goto X35 hx (hb hby at_26) 30 (by decide) ?_
          exact J30 _ (by rw [if_neg hc22])
      intro v30 hv30
      refine own_istore X35 hx (hb hby at_30) #[.val (.int i0), .val (.int i1), .val (.int (8 : Int32)), .val (.ref k8), .val (.int v30)] rfl 32 rfl ?_
      refine own_aloadN X35 hx (hb hby at_32) rfl rfl 33 rfl ?_
      refine own_iloadN X35 hx (hb hby at_33) rfl 34 rfl ?_
      refine own_callV X35 hx hZ hown (hw _ (List.mem_of_getElem? (i := 11) rfl)) (hw _ (List.mem_of_getElem? (i := 12) rfl)) (hw _ (List.mem_of_getElem? (i := 14) rfl)) (hw _ (List.mem_of_getElem? (i := 13) rfl)) (hw _ (List.mem_of_getElem? (i := 15) rfl)) (hw _ (List.mem_of_getElem? (i := 6) rfl)) (by decide) E_k8 (rm3 l Z a0 hw [] k8 i1 (0 : Int32) (3 : Int32) h0 n0 Z0 F_minVersion_k8 F_maxVersion_k8) e35 (hb hby at_34) pd__I_Z rfl (by rw [hml]; rfl) (st := []) rfl 0 (Nat.le_of_eq rfl) (by decide) (by decide) (by decide) (by decide) 37 rfl ?_
      intro T36 v36 L36 X36 hQ36
      obtain ⟨rfl, N36q, e36⟩ := hQ36
      have N36 := Fr.app N35 N36q
      show OwnW p e below (OwnG s (Q0 Z i0 i1 k0 k1 k2 k3 k4 k5 k6 k7 k8 k9 k10 k11 k12 k13 k14 k15 h0 n0) room_1.cells room_1.slots) (T36.setTop (mkF m 37 #[.val (.int i0), .val (.int i1), .val (.int (8 : Int32)), .val (.ref k8), .val (.int v30)] [(.int (own_serves i1 (0 : Int32) (3 : Int32)))]))
      refine own_iload X36 hx (hb hby at_37) rfl 39 rfl ?_
      have hc39 : (own_serves i1 (0 : Int32) (3 : Int32)) = v30 := by rw [hv30, own_serves, if_neg hc14]
      refine own_icmpN X36 hx (hb hby at_39) (teq hc39).2 42 (by decide) ?_
      refine own_iconst X36 hx (hb hby at_42) (1 : Int32) rfl 43 rfl ?_
      refine own_goto X36 hx (hb hby at_43) 47 (by decide) ?_
      refine own_retZ X36 hx hlk Bd.returns (by decide) (hb hby at_47) (by decide) (by decide) ?_
      show Q0 Z i0 i1 k0 k1 k2 k3 k4 k5 k6 k7 k8 k9 k10 k11 k12 k13 k14 k15 h0 n0 _ T36.heap _
      rw [e36]
      exact ⟨rfl, N36⟩
  · -- case 9
    rw [hk]
    show OwnW p e below (OwnG s (Q0 Z i0 i1 k0 k1 k2 k3 k4 k5 k6 k7 k8 k9 k10 k11 k12 k13 k14 k15 h0 n0) room_1.cells room_1.slots) (s₁.setTop (mkF m 8 #[.val (.int i0), .val (.int i1), .val (.int (9 : Int32)), .unset, .unset] []))
    refine own_iloadN X0 hx (hb hby at_8) rfl 9 rfl ?_
    refine own_callS X0 hx hZ hown (hw _ (List.mem_of_getElem? (i := 1) rfl)) (hw _ (List.mem_of_getElem? (i := 2) rfl)) (hw _ (List.mem_of_getElem? (i := 4) rfl)) (hw _ (List.mem_of_getElem? (i := 3) rfl)) (by decide) (rm1 l Z a0 hw [] (9 : Int32) k0 k1 k2 k3 k4 k5 k6 k7 k8 k9 k10 k11 k12 k13 k14 k15 h0 n0 Z0 S_FETCH S_LIST_OFFSETS S_METADATA S_OFFSET_COMMIT S_OFFSET_FETCH S_FIND_COORDINATOR S_JOIN_GROUP S_HEARTBEAT S_LEAVE_GROUP S_SYNC_GROUP S_DESCRIBE_GROUPS S_LIST_GROUPS S_API_VERSIONS S_CREATE_PARTITIONS S_DELETE_GROUPS S_JOURNAL_COPY) e0 (hb hby at_9) pd__I_Lcom_example_rollcall_rollcall_Api_ rfl (by rw [hml]; rfl) (st := []) rfl 0 (Nat.le_of_eq rfl) (by decide) (by decide) (by decide) (by decide) 12 rfl ?_
    intro T37 v37 L37 X37 hQ37
    obtain ⟨rfl, N37q, e37⟩ := hQ37
    have N37 := Fr.app N0 N37q
    show OwnW p e below (OwnG s (Q0 Z i0 i1 k0 k1 k2 k3 k4 k5 k6 k7 k8 k9 k10 k11 k12 k13 k14 k15 h0 n0) room_1.cells room_1.slots) (T37.setTop (mkF m 12 #[.val (.int i0), .val (.int i1), .val (.int (9 : Int32)), .unset, .unset] [(.ref (own_pick (9 : Int32) k0 k1 k2 k3 k4 k5 k6 k7 k8 k9 k10 k11 k12 k13 k14 k15))]))
    rw [show own_pick (9 : Int32) k0 k1 k2 k3 k4 k5 k6 k7 k8 k9 k10 k11 k12 k13 k14 k15 = k9 from by rw [own_pick, if_neg (by decide), if_neg (by decide), if_neg (by decide), if_neg (by decide), if_neg (by decide), if_neg (by decide), if_neg (by decide), if_neg (by decide), if_neg (by decide), if_pos rfl]]
    refine own_astoreN X37 hx (hb hby at_12) rfl #[.val (.int i0), .val (.int i1), .val (.int (9 : Int32)), .val (.ref k9), .unset] rfl 13 rfl ?_
    refine own_iloadN X37 hx (hb hby at_13) rfl 14 rfl ?_
    by_cases hc14 : i1 < (0 : Int32)
    · -- hc14
      refine own_ifY X37 hx (hb hby at_14) (tlt hc14).1 29 (by decide) ?_
      refine own_iconst X37 hx (hb hby at_29) (0 : Int32) rfl 30 rfl ?_
      refine own_istore X37 hx (hb hby at_30) #[.val (.int i0), .val (.int i1), .val (.int (9 : Int32)), .val (.ref k9), .val (.int (0 : Int32))] rfl 32 rfl ?_
      refine own_aloadN X37 hx (hb hby at_32) rfl rfl 33 rfl ?_
      refine own_iloadN X37 hx (hb hby at_33) rfl 34 rfl ?_
      refine own_callV X37 hx hZ hown (hw _ (List.mem_of_getElem? (i := 11) rfl)) (hw _ (List.mem_of_getElem? (i := 12) rfl)) (hw _ (List.mem_of_getElem? (i := 14) rfl)) (hw _ (List.mem_of_getElem? (i := 13) rfl)) (hw _ (List.mem_of_getElem? (i := 15) rfl)) (hw _ (List.mem_of_getElem? (i := 6) rfl)) (by decide) E_k9 (rm3 l Z a0 hw [] k9 i1 (0 : Int32) (3 : Int32) h0 n0 Z0 F_minVersion_k9 F_maxVersion_k9) e37 (hb hby at_34) pd__I_Z rfl (by rw [hml]; rfl) (st := []) rfl 0 (Nat.le_of_eq rfl) (by decide) (by decide) (by decide) (by decide) 37 rfl ?_
      intro T38 v38 L38 X38 hQ38
      obtain ⟨rfl, N38q, e38⟩ := hQ38
      have N38 := Fr.app N37 N38q
      show OwnW p e below (OwnG s (Q0 Z i0 i1 k0 k1 k2 k3 k4 k5 k6 k7 k8 k9 k10 k11 k12 k13 k14 k15 h0 n0) room_1.cells room_1.slots) (T38.setTop (mkF m 37 #[.val (.int i0), .val (.int i1), .val (.int (9 : Int32)), .val (.ref k9), .val (.int (0 : Int32))] [(.int (own_serves i1 (0 : Int32) (3 : Int32)))]))
      refine own_iload X38 hx (hb hby at_37) rfl 39 rfl ?_
      have hc39 : (own_serves i1 (0 : Int32) (3 : Int32)) = (0 : Int32) := by rw [own_serves, if_pos hc14]
      refine own_icmpN X38 hx (hb hby at_39) (teq hc39).2 42 (by decide) ?_
      refine own_iconst X38 hx (hb hby at_42) (1 : Int32) rfl 43 rfl ?_
      refine own_goto X38 hx (hb hby at_43) 47 (by decide) ?_
      refine own_retZ X38 hx hlk Bd.returns (by decide) (hb hby at_47) (by decide) (by decide) ?_
      show Q0 Z i0 i1 k0 k1 k2 k3 k4 k5 k6 k7 k8 k9 k10 k11 k12 k13 k14 k15 h0 n0 _ T38.heap _
      rw [e38]
      exact ⟨rfl, N38⟩
    · -- not hc14
      refine own_ifN X37 hx (hb hby at_14) (flt hc14).1 17 (by decide) ?_
      refine own_iloadN X37 hx (hb hby at_17) rfl 18 rfl ?_
      refine own_iloadN X37 hx (hb hby at_18) rfl 19 rfl ?_
      refine own_callS X37 hx hZ hown (hw _ (List.mem_of_getElem? (i := 8) rfl)) (hw _ (List.mem_of_getElem? (i := 9) rfl)) (hw _ (List.mem_of_getElem? (i := 10) rfl)) (hw _ (List.mem_of_getElem? (i := 3) rfl)) (by decide) (rm2 l Z a0 hw [] (9 : Int32) h0 n0 Z0) e37 (hb hby at_19) pd__I_I rfl (by rw [hml]; rfl) (st := [(.int i1)]) rfl 1 (Nat.le_of_eq rfl) (by decide) (by decide) (by decide) (by decide) 22 rfl ?_
      intro T39 v39 L39 X39 hQ39
      obtain ⟨rfl, N39q, e39⟩ := hQ39
      have N39 := Fr.app N37 N39q
      show OwnW p e below (OwnG s (Q0 Z i0 i1 k0 k1 k2 k3 k4 k5 k6 k7 k8 k9 k10 k11 k12 k13 k14 k15 h0 n0) room_1.cells room_1.slots) (T39.setTop (mkF m 22 #[.val (.int i0), .val (.int i1), .val (.int (9 : Int32)), .val (.ref k9), .unset] [(.int (own_maxOf (9 : Int32))), (.int i1)]))
      rw [show own_maxOf (9 : Int32) = (3 : Int32) from by rw [own_maxOf, if_neg (by decide), if_neg (by decide), if_neg (by decide), if_neg (by decide), if_neg (by decide), if_neg (by decide), if_neg (by decide), if_neg (by decide), if_neg (by decide), if_pos rfl]]
      suffices J30 : ∀ v30 : Int32, v30 = (if (3 : Int32) < i1 then (0 : Int32) else (1 : Int32)) → OwnW p e below (OwnG s (Q0 Z i0 i1 k0 k1 k2 k3 k4 k5 k6 k7 k8 k9 k10 k11 k12 k13 k14 k15 h0 n0) room_1.cells room_1.slots) (T39.setTop (mkF m 30 #[.val (.int i0), .val (.int i1), .val (.int (9 : Int32)), .val (.ref k9), .unset] [(.int v30)])) by
        by_cases hc22 : (3 : Int32) < i1
        · -- hc22
          refine own_icmpY X39 hx (hb hby at_22) (tlt hc22).2.2.1 29 (by decide) ?_
          refine own_iconst X39 hx (hb hby at_29) (0 : Int32) rfl 30 rfl ?_
          exact J30 _ (by rw [if_pos hc22])
        · -- not hc22
          refine own_icmpN X39 hx (hb hby at_22) (flt hc22).2.2.1 25 (by decide) ?_
          refine own_iconst X39 hx (hb hby at_25) (1 : Int32) rfl 26 rfl ?_
          refine own_goto X39 hx (hb hby at_26) 30 (by decide) ?_
          exact J30 _ (by rw [if_neg hc22])
      intro v30 hv30
      refine own_istore X39 hx (hb hby at_30) #[.val (.int i0), .val (.int i1), .val (.int (9 : Int32)), .val (.ref k9), .val (.int v30)] rfl 32 rfl ?_
      refine own_aloadN X39 hx (hb hby at_32) rfl rfl 33 rfl ?_
      refine own_iloadN X39 hx (hb hby at_33) rfl 34 rfl ?_
      refine own_callV X39 hx hZ hown (hw _ (List.mem_of_getElem? (i := 11) rfl)) (hw _ (List.mem_of_getElem? (i := 12) rfl)) (hw _ (List.mem_of_getElem? (i := 14) rfl)) (hw _ (List.mem_of_getElem? (i := 13) rfl)) (hw _ (List.mem_of_getElem? (i := 15) rfl)) (hw _ (List.mem_of_getElem? (i := 6) rfl)) (by decide) E_k9 (rm3 l Z a0 hw [] k9 i1 (0 : Int32) (3 : Int32) h0 n0 Z0 F_minVersion_k9 F_maxVersion_k9) e39 (hb hby at_34) pd__I_Z rfl (by rw [hml]; rfl) (st := []) rfl 0 (Nat.le_of_eq rfl) (by decide) (by decide) (by decide) (by decide) 37 rfl ?_
      intro T40 v40 L40 X40 hQ40
      obtain ⟨rfl, N40q, e40⟩ := hQ40
      have N40 := Fr.app N39 N40q
      show OwnW p e below (OwnG s (Q0 Z i0 i1 k0 k1 k2 k3 k4 k5 k6 k7 k8 k9 k10 k11 k12 k13 k14 k15 h0 n0) room_1.cells room_1.slots) (T40.setTop (mkF m 37 #[.val (.int i0), .val (.int i1), .val (.int (9 : Int32)), .val (.ref k9), .val (.int v30)] [(.int (own_serves i1 (0 : Int32) (3 : Int32)))]))
      refine own_iload X40 hx (hb hby at_37) rfl 39 rfl ?_
      have hc39 : (own_serves i1 (0 : Int32) (3 : Int32)) = v30 := by rw [hv30, own_serves, if_neg hc14]
      refine own_icmpN X40 hx (hb hby at_39) (teq hc39).2 42 (by decide) ?_
      refine own_iconst X40 hx (hb hby at_42) (1 : Int32) rfl 43 rfl ?_
      refine own_goto X40 hx (hb hby at_43) 47 (by decide) ?_
      refine own_retZ X40 hx hlk Bd.returns (by decide) (hb hby at_47) (by decide) (by decide) ?_
      show Q0 Z i0 i1 k0 k1 k2 k3 k4 k5 k6 k7 k8 k9 k10 k11 k12 k13 k14 k15 h0 n0 _ T40.heap _
      rw [e40]
      exact ⟨rfl, N40⟩
  · -- case 10
    rw [hk]
    show OwnW p e below (OwnG s (Q0 Z i0 i1 k0 k1 k2 k3 k4 k5 k6 k7 k8 k9 k10 k11 k12 k13 k14 k15 h0 n0) room_1.cells room_1.slots) (s₁.setTop (mkF m 8 #[.val (.int i0), .val (.int i1), .val (.int (10 : Int32)), .unset, .unset] []))
    refine own_iloadN X0 hx (hb hby at_8) rfl 9 rfl ?_
    refine own_callS X0 hx hZ hown (hw _ (List.mem_of_getElem? (i := 1) rfl)) (hw _ (List.mem_of_getElem? (i := 2) rfl)) (hw _ (List.mem_of_getElem? (i := 4) rfl)) (hw _ (List.mem_of_getElem? (i := 3) rfl)) (by decide) (rm1 l Z a0 hw [] (10 : Int32) k0 k1 k2 k3 k4 k5 k6 k7 k8 k9 k10 k11 k12 k13 k14 k15 h0 n0 Z0 S_FETCH S_LIST_OFFSETS S_METADATA S_OFFSET_COMMIT S_OFFSET_FETCH S_FIND_COORDINATOR S_JOIN_GROUP S_HEARTBEAT S_LEAVE_GROUP S_SYNC_GROUP S_DESCRIBE_GROUPS S_LIST_GROUPS S_API_VERSIONS S_CREATE_PARTITIONS S_DELETE_GROUPS S_JOURNAL_COPY) e0 (hb hby at_9) pd__I_Lcom_example_rollcall_rollcall_Api_ rfl (by rw [hml]; rfl) (st := []) rfl 0 (Nat.le_of_eq rfl) (by decide) (by decide) (by decide) (by decide) 12 rfl ?_
    intro T41 v41 L41 X41 hQ41
    obtain ⟨rfl, N41q, e41⟩ := hQ41
    have N41 := Fr.app N0 N41q
    show OwnW p e below (OwnG s (Q0 Z i0 i1 k0 k1 k2 k3 k4 k5 k6 k7 k8 k9 k10 k11 k12 k13 k14 k15 h0 n0) room_1.cells room_1.slots) (T41.setTop (mkF m 12 #[.val (.int i0), .val (.int i1), .val (.int (10 : Int32)), .unset, .unset] [(.ref (own_pick (10 : Int32) k0 k1 k2 k3 k4 k5 k6 k7 k8 k9 k10 k11 k12 k13 k14 k15))]))
    rw [show own_pick (10 : Int32) k0 k1 k2 k3 k4 k5 k6 k7 k8 k9 k10 k11 k12 k13 k14 k15 = k10 from by rw [own_pick, if_neg (by decide), if_neg (by decide), if_neg (by decide), if_neg (by decide), if_neg (by decide), if_neg (by decide), if_neg (by decide), if_neg (by decide), if_neg (by decide), if_neg (by decide), if_pos rfl]]
    refine own_astoreN X41 hx (hb hby at_12) rfl #[.val (.int i0), .val (.int i1), .val (.int (10 : Int32)), .val (.ref k10), .unset] rfl 13 rfl ?_
    refine own_iloadN X41 hx (hb hby at_13) rfl 14 rfl ?_
    by_cases hc14 : i1 < (0 : Int32)
    · -- hc14
      refine own_ifY X41 hx (hb hby at_14) (tlt hc14).1 29 (by decide) ?_
      refine own_iconst X41 hx (hb hby at_29) (0 : Int32) rfl 30 rfl ?_
      refine own_istore X41 hx (hb hby at_30) #[.val (.int i0), .val (.int i1), .val (.int (10 : Int32)), .val (.ref k10), .val (.int (0 : Int32))] rfl 32 rfl ?_
      refine own_aloadN X41 hx (hb hby at_32) rfl rfl 33 rfl ?_
      refine own_iloadN X41 hx (hb hby at_33) rfl 34 rfl ?_
      refine own_callV X41 hx hZ hown (hw _ (List.mem_of_getElem? (i := 11) rfl)) (hw _ (List.mem_of_getElem? (i := 12) rfl)) (hw _ (List.mem_of_getElem? (i := 14) rfl)) (hw _ (List.mem_of_getElem? (i := 13) rfl)) (hw _ (List.mem_of_getElem? (i := 15) rfl)) (hw _ (List.mem_of_getElem? (i := 6) rfl)) (by decide) E_k10 (rm3 l Z a0 hw [] k10 i1 (0 : Int32) (1 : Int32) h0 n0 Z0 F_minVersion_k10 F_maxVersion_k10) e41 (hb hby at_34) pd__I_Z rfl (by rw [hml]; rfl) (st := []) rfl 0 (Nat.le_of_eq rfl) (by decide) (by decide) (by decide) (by decide) 37 rfl ?_
      intro T42 v42 L42 X42 hQ42
      obtain ⟨rfl, N42q, e42⟩ := hQ42
      have N42 := Fr.app N41 N42q
      show OwnW p e below (OwnG s (Q0 Z i0 i1 k0 k1 k2 k3 k4 k5 k6 k7 k8 k9 k10 k11 k12 k13 k14 k15 h0 n0) room_1.cells room_1.slots) (T42.setTop (mkF m 37 #[.val (.int i0), .val (.int i1), .val (.int (10 : Int32)), .val (.ref k10), .val (.int (0 : Int32))] [(.int (own_serves i1 (0 : Int32) (1 : Int32)))]))
      refine own_iload X42 hx (hb hby at_37) rfl 39 rfl ?_
      have hc39 : (own_serves i1 (0 : Int32) (1 : Int32)) = (0 : Int32) := by rw [own_serves, if_pos hc14]
      refine own_icmpN X42 hx (hb hby at_39) (teq hc39).2 42 (by decide) ?_
      refine own_iconst X42 hx (hb hby at_42) (1 : Int32) rfl 43 rfl ?_
      refine own_goto X42 hx (hb hby at_43) 47 (by decide) ?_
      refine own_retZ X42 hx hlk Bd.returns (by decide) (hb hby at_47) (by decide) (by decide) ?_
      show Q0 Z i0 i1 k0 k1 k2 k3 k4 k5 k6 k7 k8 k9 k10 k11 k12 k13 k14 k15 h0 n0 _ T42.heap _
      rw [e42]
      exact ⟨rfl, N42⟩
    · -- not hc14
      refine own_ifN X41 hx (hb hby at_14) (flt hc14).1 17 (by decide) ?_
      refine own_iloadN X41 hx (hb hby at_17) rfl 18 rfl ?_
      refine own_iloadN X41 hx (hb hby at_18) rfl 19 rfl ?_
      refine own_callS X41 hx hZ hown (hw _ (List.mem_of_getElem? (i := 8) rfl)) (hw _ (List.mem_of_getElem? (i := 9) rfl)) (hw _ (List.mem_of_getElem? (i := 10) rfl)) (hw _ (List.mem_of_getElem? (i := 3) rfl)) (by decide) (rm2 l Z a0 hw [] (10 : Int32) h0 n0 Z0) e41 (hb hby at_19) pd__I_I rfl (by rw [hml]; rfl) (st := [(.int i1)]) rfl 1 (Nat.le_of_eq rfl) (by decide) (by decide) (by decide) (by decide) 22 rfl ?_
      intro T43 v43 L43 X43 hQ43
      obtain ⟨rfl, N43q, e43⟩ := hQ43
      have N43 := Fr.app N41 N43q
      show OwnW p e below (OwnG s (Q0 Z i0 i1 k0 k1 k2 k3 k4 k5 k6 k7 k8 k9 k10 k11 k12 k13 k14 k15 h0 n0) room_1.cells room_1.slots) (T43.setTop (mkF m 22 #[.val (.int i0), .val (.int i1), .val (.int (10 : Int32)), .val (.ref k10), .unset] [(.int (own_maxOf (10 : Int32))), (.int i1)]))
      rw [show own_maxOf (10 : Int32) = (1 : Int32) from by rw [own_maxOf, if_neg (by decide), if_neg (by decide), if_neg (by decide), if_neg (by decide), if_neg (by decide), if_neg (by decide), if_neg (by decide), if_neg (by decide), if_neg (by decide), if_neg (by decide), if_pos rfl]]
      suffices J30 : ∀ v30 : Int32, v30 = (if (1 : Int32) < i1 then (0 : Int32) else (1 : Int32)) → OwnW p e below (OwnG s (Q0 Z i0 i1 k0 k1 k2 k3 k4 k5 k6 k7 k8 k9 k10 k11 k12 k13 k14 k15 h0 n0) room_1.cells room_1.slots) (T43.setTop (mkF m 30 #[.val (.int i0), .val (.int i1), .val (.int (10 : Int32)), .val (.ref k10), .unset] [(.int v30)])) by
        by_cases hc22 : (1 : Int32) < i1
        · -- hc22
          refine own_icmpY X43 hx (hb hby at_22) (tlt hc22).2.2.1 29 (by decide) ?_
          refine own_iconst X43 hx (hb hby at_29) (0 : Int32) rfl 30 rfl ?_
          exact J30 _ (by rw [if_pos hc22])
        · -- not hc22
          refine own_icmpN X43 hx (hb hby at_22) (flt hc22).2.2.1 25 (by decide) ?_
          refine own_iconst X43 hx (hb hby at_25) (1 : Int32) rfl 26 rfl ?_
          refine own_goto X43 hx (hb hby at_26) 30 (by decide) ?_
          exact J30 _ (by rw [if_neg hc22])
      intro v30 hv30
      refine own_istore X43 hx (hb hby at_30) #[.val (.int i0), .val (.int i1), .val (.int (10 : Int32)), .val (.ref k10), .val (.int v30)] rfl 32 rfl ?_
      refine own_aloadN X43 hx (hb hby at_32) rfl rfl 33 rfl ?_
      refine own_iloadN X43 hx (hb hby at_33) rfl 34 rfl ?_
      refine own_callV X43 hx hZ hown (hw _ (List.mem_of_getElem? (i := 11) rfl)) (hw _ (List.mem_of_getElem? (i := 12) rfl)) (hw _ (List.mem_of_getElem? (i := 14) rfl)) (hw _ (List.mem_of_getElem? (i := 13) rfl)) (hw _ (List.mem_of_getElem? (i := 15) rfl)) (hw _ (List.mem_of_getElem? (i := 6) rfl)) (by decide) E_k10 (rm3 l Z a0 hw [] k10 i1 (0 : Int32) (1 : Int32) h0 n0 Z0 F_minVersion_k10 F_maxVersion_k10) e43 (hb hby at_34) pd__I_Z rfl (by rw [hml]; rfl) (st := []) rfl 0 (Nat.le_of_eq rfl) (by decide) (by decide) (by decide) (by decide) 37 rfl ?_
      intro T44 v44 L44 X44 hQ44
      obtain ⟨rfl, N44q, e44⟩ := hQ44
      have N44 := Fr.app N43 N44q
      show OwnW p e below (OwnG s (Q0 Z i0 i1 k0 k1 k2 k3 k4 k5 k6 k7 k8 k9 k10 k11 k12 k13 k14 k15 h0 n0) room_1.cells room_1.slots) (T44.setTop (mkF m 37 #[.val (.int i0), .val (.int i1), .val (.int (10 : Int32)), .val (.ref k10), .val (.int v30)] [(.int (own_serves i1 (0 : Int32) (1 : Int32)))]))
      refine own_iload X44 hx (hb hby at_37) rfl 39 rfl ?_
      have hc39 : (own_serves i1 (0 : Int32) (1 : Int32)) = v30 := by rw [hv30, own_serves, if_neg hc14]
      refine own_icmpN X44 hx (hb hby at_39) (teq hc39).2 42 (by decide) ?_
      refine own_iconst X44 hx (hb hby at_42) (1 : Int32) rfl 43 rfl ?_
      refine own_goto X44 hx (hb hby at_43) 47 (by decide) ?_
      refine own_retZ X44 hx hlk Bd.returns (by decide) (hb hby at_47) (by decide) (by decide) ?_
      show Q0 Z i0 i1 k0 k1 k2 k3 k4 k5 k6 k7 k8 k9 k10 k11 k12 k13 k14 k15 h0 n0 _ T44.heap _
      rw [e44]
      exact ⟨rfl, N44⟩
  · -- case 11
    rw [hk]
    show OwnW p e below (OwnG s (Q0 Z i0 i1 k0 k1 k2 k3 k4 k5 k6 k7 k8 k9 k10 k11 k12 k13 k14 k15 h0 n0) room_1.cells room_1.slots) (s₁.setTop (mkF m 8 #[.val (.int i0), .val (.int i1), .val (.int (11 : Int32)), .unset, .unset] []))
    refine own_iloadN X0 hx (hb hby at_8) rfl 9 rfl ?_
    refine own_callS X0 hx hZ hown (hw _ (List.mem_of_getElem? (i := 1) rfl)) (hw _ (List.mem_of_getElem? (i := 2) rfl)) (hw _ (List.mem_of_getElem? (i := 4) rfl)) (hw _ (List.mem_of_getElem? (i := 3) rfl)) (by decide) (rm1 l Z a0 hw [] (11 : Int32) k0 k1 k2 k3 k4 k5 k6 k7 k8 k9 k10 k11 k12 k13 k14 k15 h0 n0 Z0 S_FETCH S_LIST_OFFSETS S_METADATA S_OFFSET_COMMIT S_OFFSET_FETCH S_FIND_COORDINATOR S_JOIN_GROUP S_HEARTBEAT S_LEAVE_GROUP S_SYNC_GROUP S_DESCRIBE_GROUPS S_LIST_GROUPS S_API_VERSIONS S_CREATE_PARTITIONS S_DELETE_GROUPS S_JOURNAL_COPY) e0 (hb hby at_9) pd__I_Lcom_example_rollcall_rollcall_Api_ rfl (by rw [hml]; rfl) (st := []) rfl 0 (Nat.le_of_eq rfl) (by decide) (by decide) (by decide) (by decide) 12 rfl ?_
    intro T45 v45 L45 X45 hQ45
    obtain ⟨rfl, N45q, e45⟩ := hQ45
    have N45 := Fr.app N0 N45q
    show OwnW p e below (OwnG s (Q0 Z i0 i1 k0 k1 k2 k3 k4 k5 k6 k7 k8 k9 k10 k11 k12 k13 k14 k15 h0 n0) room_1.cells room_1.slots) (T45.setTop (mkF m 12 #[.val (.int i0), .val (.int i1), .val (.int (11 : Int32)), .unset, .unset] [(.ref (own_pick (11 : Int32) k0 k1 k2 k3 k4 k5 k6 k7 k8 k9 k10 k11 k12 k13 k14 k15))]))
    rw [show own_pick (11 : Int32) k0 k1 k2 k3 k4 k5 k6 k7 k8 k9 k10 k11 k12 k13 k14 k15 = k11 from by rw [own_pick, if_neg (by decide), if_neg (by decide), if_neg (by decide), if_neg (by decide), if_neg (by decide), if_neg (by decide), if_neg (by decide), if_neg (by decide), if_neg (by decide), if_neg (by decide), if_neg (by decide), if_pos rfl]]
    refine own_astoreN X45 hx (hb hby at_12) rfl #[.val (.int i0), .val (.int i1), .val (.int (11 : Int32)), .val (.ref k11), .unset] rfl 13 rfl ?_
    refine own_iloadN X45 hx (hb hby at_13) rfl 14 rfl ?_
    by_cases hc14 : i1 < (0 : Int32)
    · -- hc14
      refine own_ifY X45 hx (hb hby at_14) (tlt hc14).1 29 (by decide) ?_
      refine own_iconst X45 hx (hb hby at_29) (0 : Int32) rfl 30 rfl ?_
      refine own_istore X45 hx (hb hby at_30) #[.val (.int i0), .val (.int i1), .val (.int (11 : Int32)), .val (.ref k11), .val (.int (0 : Int32))] rfl 32 rfl ?_
      refine own_aloadN X45 hx (hb hby at_32) rfl rfl 33 rfl ?_
      refine own_iloadN X45 hx (hb hby at_33) rfl 34 rfl ?_
      refine own_callV X45 hx hZ hown (hw _ (List.mem_of_getElem? (i := 11) rfl)) (hw _ (List.mem_of_getElem? (i := 12) rfl)) (hw _ (List.mem_of_getElem? (i := 14) rfl)) (hw _ (List.mem_of_getElem? (i := 13) rfl)) (hw _ (List.mem_of_getElem? (i := 15) rfl)) (hw _ (List.mem_of_getElem? (i := 6) rfl)) (by decide) E_k11 (rm3 l Z a0 hw [] k11 i1 (0 : Int32) (1 : Int32) h0 n0 Z0 F_minVersion_k11 F_maxVersion_k11) e45 (hb hby at_34) pd__I_Z rfl (by rw [hml]; rfl) (st := []) rfl 0 (Nat.le_of_eq rfl) (by decide) (by decide) (by decide) (by decide) 37 rfl ?_
      intro T46 v46 L46 X46 hQ46
      obtain ⟨rfl, N46q, e46⟩ := hQ46
      have N46 := Fr.app N45 N46q
      show OwnW p e below (OwnG s (Q0 Z i0 i1 k0 k1 k2 k3 k4 k5 k6 k7 k8 k9 k10 k11 k12 k13 k14 k15 h0 n0) room_1.cells room_1.slots) (T46.setTop (mkF m 37 #[.val (.int i0), .val (.int i1), .val (.int (11 : Int32)), .val (.ref k11), .val (.int (0 : Int32))] [(.int (own_serves i1 (0 : Int32) (1 : Int32)))]))
      refine own_iload X46 hx (hb hby at_37) rfl 39 rfl ?_
      have hc39 : (own_serves i1 (0 : Int32) (1 : Int32)) = (0 : Int32) := by rw [own_serves, if_pos hc14]
      refine own_icmpN X46 hx (hb hby at_39) (teq hc39).2 42 (by decide) ?_
      refine own_iconst X46 hx (hb hby at_42) (1 : Int32) rfl 43 rfl ?_
      refine own_goto X46 hx (hb hby at_43) 47 (by decide) ?_
      refine own_retZ X46 hx hlk Bd.returns (by decide) (hb hby at_47) (by decide) (by decide) ?_
      show Q0 Z i0 i1 k0 k1 k2 k3 k4 k5 k6 k7 k8 k9 k10 k11 k12 k13 k14 k15 h0 n0 _ T46.heap _
      rw [e46]
      exact ⟨rfl, N46⟩
    · -- not hc14
      refine own_ifN X45 hx (hb hby at_14) (flt hc14).1 17 (by decide) ?_
      refine own_iloadN X45 hx (hb hby at_17) rfl 18 rfl ?_
      refine own_iloadN X45 hx (hb hby at_18) rfl 19 rfl ?_
      refine own_callS X45 hx hZ hown (hw _ (List.mem_of_getElem? (i := 8) rfl)) (hw _ (List.mem_of_getElem? (i := 9) rfl)) (hw _ (List.mem_of_getElem? (i := 10) rfl)) (hw _ (List.mem_of_getElem? (i := 3) rfl)) (by decide) (rm2 l Z a0 hw [] (11 : Int32) h0 n0 Z0) e45 (hb hby at_19) pd__I_I rfl (by rw [hml]; rfl) (st := [(.int i1)]) rfl 1 (Nat.le_of_eq rfl) (by decide) (by decide) (by decide) (by decide) 22 rfl ?_
      intro T47 v47 L47 X47 hQ47
      obtain ⟨rfl, N47q, e47⟩ := hQ47
      have N47 := Fr.app N45 N47q
      show OwnW p e below (OwnG s (Q0 Z i0 i1 k0 k1 k2 k3 k4 k5 k6 k7 k8 k9 k10 k11 k12 k13 k14 k15 h0 n0) room_1.cells room_1.slots) (T47.setTop (mkF m 22 #[.val (.int i0), .val (.int i1), .val (.int (11 : Int32)), .val (.ref k11), .unset] [(.int (own_maxOf (11 : Int32))), (.int i1)]))
      rw [show own_maxOf (11 : Int32) = (1 : Int32) from by rw [own_maxOf, if_neg (by decide), if_neg (by decide), if_neg (by decide), if_neg (by decide), if_neg (by decide), if_neg (by decide), if_neg (by decide), if_neg (by decide), if_neg (by decide), if_neg (by decide), if_neg (by decide), if_pos rfl]]
      suffices J30 : ∀ v30 : Int32, v30 = (if (1 : Int32) < i1 then (0 : Int32) else (1 : Int32)) → OwnW p e below (OwnG s (Q0 Z i0 i1 k0 k1 k2 k3 k4 k5 k6 k7 k8 k9 k10 k11 k12 k13 k14 k15 h0 n0) room_1.cells room_1.slots) (T47.setTop (mkF m 30 #[.val (.int i0), .val (.int i1), .val (.int (11 : Int32)), .val (.ref k11), .unset] [(.int v30)])) by
        by_cases hc22 : (1 : Int32) < i1
        · -- hc22
          refine own_icmpY X47 hx (hb hby at_22) (tlt hc22).2.2.1 29 (by decide) ?_
          refine own_iconst X47 hx (hb hby at_29) (0 : Int32) rfl 30 rfl ?_
          exact J30 _ (by rw [if_pos hc22])
        · -- not hc22
          refine own_icmpN X47 hx (hb hby at_22) (flt hc22).2.2.1 25 (by decide) ?_
          refine own_iconst X47 hx (hb hby at_25) (1 : Int32) rfl 26 rfl ?_
          refine own_goto X47 hx (hb hby at_26) 30 (by decide) ?_
          exact J30 _ (by rw [if_neg hc22])
      intro v30 hv30
      refine own_istore X47 hx (hb hby at_30) #[.val (.int i0), .val (.int i1), .val (.int (11 : Int32)), .val (.ref k11), .val (.int v30)] rfl 32 rfl ?_
      refine own_aloadN X47 hx (hb hby at_32) rfl rfl 33 rfl ?_
      refine own_iloadN X47 hx (hb hby at_33) rfl 34 rfl ?_
      refine own_callV X47 hx hZ hown (hw _ (List.mem_of_getElem? (i := 11) rfl)) (hw _ (List.mem_of_getElem? (i := 12) rfl)) (hw _ (List.mem_of_getElem? (i := 14) rfl)) (hw _ (List.mem_of_getElem? (i := 13) rfl)) (hw _ (List.mem_of_getElem? (i := 15) rfl)) (hw _ (List.mem_of_getElem? (i := 6) rfl)) (by decide) E_k11 (rm3 l Z a0 hw [] k11 i1 (0 : Int32) (1 : Int32) h0 n0 Z0 F_minVersion_k11 F_maxVersion_k11) e47 (hb hby at_34) pd__I_Z rfl (by rw [hml]; rfl) (st := []) rfl 0 (Nat.le_of_eq rfl) (by decide) (by decide) (by decide) (by decide) 37 rfl ?_
      intro T48 v48 L48 X48 hQ48
      obtain ⟨rfl, N48q, e48⟩ := hQ48
      have N48 := Fr.app N47 N48q
      show OwnW p e below (OwnG s (Q0 Z i0 i1 k0 k1 k2 k3 k4 k5 k6 k7 k8 k9 k10 k11 k12 k13 k14 k15 h0 n0) room_1.cells room_1.slots) (T48.setTop (mkF m 37 #[.val (.int i0), .val (.int i1), .val (.int (11 : Int32)), .val (.ref k11), .val (.int v30)] [(.int (own_serves i1 (0 : Int32) (1 : Int32)))]))
      refine own_iload X48 hx (hb hby at_37) rfl 39 rfl ?_
      have hc39 : (own_serves i1 (0 : Int32) (1 : Int32)) = v30 := by rw [hv30, own_serves, if_neg hc14]
      refine own_icmpN X48 hx (hb hby at_39) (teq hc39).2 42 (by decide) ?_
      refine own_iconst X48 hx (hb hby at_42) (1 : Int32) rfl 43 rfl ?_
      refine own_goto X48 hx (hb hby at_43) 47 (by decide) ?_
      refine own_retZ X48 hx hlk Bd.returns (by decide) (hb hby at_47) (by decide) (by decide) ?_
      show Q0 Z i0 i1 k0 k1 k2 k3 k4 k5 k6 k7 k8 k9 k10 k11 k12 k13 k14 k15 h0 n0 _ T48.heap _
      rw [e48]
      exact ⟨rfl, N48⟩
  · -- case 12
    rw [hk]
    show OwnW p e below (OwnG s (Q0 Z i0 i1 k0 k1 k2 k3 k4 k5 k6 k7 k8 k9 k10 k11 k12 k13 k14 k15 h0 n0) room_1.cells room_1.slots) (s₁.setTop (mkF m 8 #[.val (.int i0), .val (.int i1), .val (.int (12 : Int32)), .unset, .unset] []))
    refine own_iloadN X0 hx (hb hby at_8) rfl 9 rfl ?_
    refine own_callS X0 hx hZ hown (hw _ (List.mem_of_getElem? (i := 1) rfl)) (hw _ (List.mem_of_getElem? (i := 2) rfl)) (hw _ (List.mem_of_getElem? (i := 4) rfl)) (hw _ (List.mem_of_getElem? (i := 3) rfl)) (by decide) (rm1 l Z a0 hw [] (12 : Int32) k0 k1 k2 k3 k4 k5 k6 k7 k8 k9 k10 k11 k12 k13 k14 k15 h0 n0 Z0 S_FETCH S_LIST_OFFSETS S_METADATA S_OFFSET_COMMIT S_OFFSET_FETCH S_FIND_COORDINATOR S_JOIN_GROUP S_HEARTBEAT S_LEAVE_GROUP S_SYNC_GROUP S_DESCRIBE_GROUPS S_LIST_GROUPS S_API_VERSIONS S_CREATE_PARTITIONS S_DELETE_GROUPS S_JOURNAL_COPY) e0 (hb hby at_9) pd__I_Lcom_example_rollcall_rollcall_Api_ rfl (by rw [hml]; rfl) (st := []) rfl 0 (Nat.le_of_eq rfl) (by decide) (by decide) (by decide) (by decide) 12 rfl ?_
    intro T49 v49 L49 X49 hQ49
    obtain ⟨rfl, N49q, e49⟩ := hQ49
    have N49 := Fr.app N0 N49q
    show OwnW p e below (OwnG s (Q0 Z i0 i1 k0 k1 k2 k3 k4 k5 k6 k7 k8 k9 k10 k11 k12 k13 k14 k15 h0 n0) room_1.cells room_1.slots) (T49.setTop (mkF m 12 #[.val (.int i0), .val (.int i1), .val (.int (12 : Int32)), .unset, .unset] [(.ref (own_pick (12 : Int32) k0 k1 k2 k3 k4 k5 k6 k7 k8 k9 k10 k11 k12 k13 k14 k15))]))
    rw [show own_pick (12 : Int32) k0 k1 k2 k3 k4 k5 k6 k7 k8 k9 k10 k11 k12 k13 k14 k15 = k12 from by rw [own_pick, if_neg (by decide), if_neg (by decide), if_neg (by decide), if_neg (by decide), if_neg (by decide), if_neg (by decide), if_neg (by decide), if_neg (by decide), if_neg (by decide), if_neg (by decide), if_neg (by decide), if_neg (by decide), if_pos rfl]]
    refine own_astoreN X49 hx (hb hby at_12) rfl #[.val (.int i0), .val (.int i1), .val (.int (12 : Int32)), .val (.ref k12), .unset] rfl 13 rfl ?_
    refine own_iloadN X49 hx (hb hby at_13) rfl 14 rfl ?_
    by_cases hc14 : i1 < (0 : Int32)
    · -- hc14
      refine own_ifY X49 hx (hb hby at_14) (tlt hc14).1 29 (by decide) ?_
      refine own_iconst X49 hx (hb hby at_29) (0 : Int32) rfl 30 rfl ?_
      refine own_istore X49 hx (hb hby at_30) #[.val (.int i0), .val (.int i1), .val (.int (12 : Int32)), .val (.ref k12), .val (.int (0 : Int32))] rfl 32 rfl ?_
      refine own_aloadN X49 hx (hb hby at_32) rfl rfl 33 rfl ?_
      refine own_iloadN X49 hx (hb hby at_33) rfl 34 rfl ?_
      refine own_callV X49 hx hZ hown (hw _ (List.mem_of_getElem? (i := 11) rfl)) (hw _ (List.mem_of_getElem? (i := 12) rfl)) (hw _ (List.mem_of_getElem? (i := 14) rfl)) (hw _ (List.mem_of_getElem? (i := 13) rfl)) (hw _ (List.mem_of_getElem? (i := 15) rfl)) (hw _ (List.mem_of_getElem? (i := 6) rfl)) (by decide) E_k12 (rm3 l Z a0 hw [] k12 i1 (0 : Int32) (2 : Int32) h0 n0 Z0 F_minVersion_k12 F_maxVersion_k12) e49 (hb hby at_34) pd__I_Z rfl (by rw [hml]; rfl) (st := []) rfl 0 (Nat.le_of_eq rfl) (by decide) (by decide) (by decide) (by decide) 37 rfl ?_
      intro T50 v50 L50 X50 hQ50
      obtain ⟨rfl, N50q, e50⟩ := hQ50
      have N50 := Fr.app N49 N50q
      show OwnW p e below (OwnG s (Q0 Z i0 i1 k0 k1 k2 k3 k4 k5 k6 k7 k8 k9 k10 k11 k12 k13 k14 k15 h0 n0) room_1.cells room_1.slots) (T50.setTop (mkF m 37 #[.val (.int i0), .val (.int i1), .val (.int (12 : Int32)), .val (.ref k12), .val (.int (0 : Int32))] [(.int (own_serves i1 (0 : Int32) (2 : Int32)))]))
      refine own_iload X50 hx (hb hby at_37) rfl 39 rfl ?_
      have hc39 : (own_serves i1 (0 : Int32) (2 : Int32)) = (0 : Int32) := by rw [own_serves, if_pos hc14]
      refine own_icmpN X50 hx (hb hby at_39) (teq hc39).2 42 (by decide) ?_
      refine own_iconst X50 hx (hb hby at_42) (1 : Int32) rfl 43 rfl ?_
      refine own_goto X50 hx (hb hby at_43) 47 (by decide) ?_
      refine own_retZ X50 hx hlk Bd.returns (by decide) (hb hby at_47) (by decide) (by decide) ?_
      show Q0 Z i0 i1 k0 k1 k2 k3 k4 k5 k6 k7 k8 k9 k10 k11 k12 k13 k14 k15 h0 n0 _ T50.heap _
      rw [e50]
      exact ⟨rfl, N50⟩
    · -- not hc14
      refine own_ifN X49 hx (hb hby at_14) (flt hc14).1 17 (by decide) ?_
      refine own_iloadN X49 hx (hb hby at_17) rfl 18 rfl ?_
      refine own_iloadN X49 hx (hb hby at_18) rfl 19 rfl ?_
      refine own_callS X49 hx hZ hown (hw _ (List.mem_of_getElem? (i := 8) rfl)) (hw _ (List.mem_of_getElem? (i := 9) rfl)) (hw _ (List.mem_of_getElem? (i := 10) rfl)) (hw _ (List.mem_of_getElem? (i := 3) rfl)) (by decide) (rm2 l Z a0 hw [] (12 : Int32) h0 n0 Z0) e49 (hb hby at_19) pd__I_I rfl (by rw [hml]; rfl) (st := [(.int i1)]) rfl 1 (Nat.le_of_eq rfl) (by decide) (by decide) (by decide) (by decide) 22 rfl ?_
      intro T51 v51 L51 X51 hQ51
      obtain ⟨rfl, N51q, e51⟩ := hQ51
      have N51 := Fr.app N49 N51q
      show OwnW p e below (OwnG s (Q0 Z i0 i1 k0 k1 k2 k3 k4 k5 k6 k7 k8 k9 k10 k11 k12 k13 k14 k15 h0 n0) room_1.cells room_1.slots) (T51.setTop (mkF m 22 #[.val (.int i0), .val (.int i1), .val (.int (12 : Int32)), .val (.ref k12), .unset] [(.int (own_maxOf (12 : Int32))), (.int i1)]))
      rw [show own_maxOf (12 : Int32) = (2 : Int32) from by rw [own_maxOf, if_neg (by decide), if_neg (by decide), if_neg (by decide), if_neg (by decide), if_neg (by decide), if_neg (by decide), if_neg (by decide), if_neg (by decide), if_neg (by decide), if_neg (by decide), if_neg (by decide), if_neg (by decide), if_pos rfl]]
      suffices J30 : ∀ v30 : Int32, v30 = (if (2 : Int32) < i1 then (0 : Int32) else (1 : Int32)) → OwnW p e below (OwnG s (Q0 Z i0 i1 k0 k1 k2 k3 k4 k5 k6 k7 k8 k9 k10 k11 k12 k13 k14 k15 h0 n0) room_1.cells room_1.slots) (T51.setTop (mkF m 30 #[.val (.int i0), .val (.int i1), .val (.int (12 : Int32)), .val (.ref k12), .unset] [(.int v30)])) by
        by_cases hc22 : (2 : Int32) < i1
        · -- hc22
          refine own_icmpY X51 hx (hb hby at_22) (tlt hc22).2.2.1 29 (by decide) ?_
          refine own_iconst X51 hx (hb hby at_29) (0 : Int32) rfl 30 rfl ?_
          exact J30 _ (by rw [if_pos hc22])
        · -- not hc22
          refine own_icmpN X51 hx (hb hby at_22) (flt hc22).2.2.1 25 (by decide) ?_
          refine own_iconst X51 hx (hb hby at_25) (1 : Int32) rfl 26 rfl ?_
          refine own_goto X51 hx (hb hby at_26) 30 (by decide) ?_
          exact J30 _ (by rw [if_neg hc22])
      intro v30 hv30
      refine own_istore X51 hx (hb hby at_30) #[.val (.int i0), .val (.int i1), .val (.int (12 : Int32)), .val (.ref k12), .val (.int v30)] rfl 32 rfl ?_
      refine own_aloadN X51 hx (hb hby at_32) rfl rfl 33 rfl ?_
      refine own_iloadN X51 hx (hb hby at_33) rfl 34 rfl ?_
      refine own_callV X51 hx hZ hown (hw _ (List.mem_of_getElem? (i := 11) rfl)) (hw _ (List.mem_of_getElem? (i := 12) rfl)) (hw _ (List.mem_of_getElem? (i := 14) rfl)) (hw _ (List.mem_of_getElem? (i := 13) rfl)) (hw _ (List.mem_of_getElem? (i := 15) rfl)) (hw _ (List.mem_of_getElem? (i := 6) rfl)) (by decide) E_k12 (rm3 l Z a0 hw [] k12 i1 (0 : Int32) (2 : Int32) h0 n0 Z0 F_minVersion_k12 F_maxVersion_k12) e51 (hb hby at_34) pd__I_Z rfl (by rw [hml]; rfl) (st := []) rfl 0 (Nat.le_of_eq rfl) (by decide) (by decide) (by decide) (by decide) 37 rfl ?_
      intro T52 v52 L52 X52 hQ52
      obtain ⟨rfl, N52q, e52⟩ := hQ52
      have N52 := Fr.app N51 N52q
      show OwnW p e below (OwnG s (Q0 Z i0 i1 k0 k1 k2 k3 k4 k5 k6 k7 k8 k9 k10 k11 k12 k13 k14 k15 h0 n0) room_1.cells room_1.slots) (T52.setTop (mkF m 37 #[.val (.int i0), .val (.int i1), .val (.int (12 : Int32)), .val (.ref k12), .val (.int v30)] [(.int (own_serves i1 (0 : Int32) (2 : Int32)))]))
      refine own_iload X52 hx (hb hby at_37) rfl 39 rfl ?_
      have hc39 : (own_serves i1 (0 : Int32) (2 : Int32)) = v30 := by rw [hv30, own_serves, if_neg hc14]
      refine own_icmpN X52 hx (hb hby at_39) (teq hc39).2 42 (by decide) ?_
      refine own_iconst X52 hx (hb hby at_42) (1 : Int32) rfl 43 rfl ?_
      refine own_goto X52 hx (hb hby at_43) 47 (by decide) ?_
      refine own_retZ X52 hx hlk Bd.returns (by decide) (hb hby at_47) (by decide) (by decide) ?_
      show Q0 Z i0 i1 k0 k1 k2 k3 k4 k5 k6 k7 k8 k9 k10 k11 k12 k13 k14 k15 h0 n0 _ T52.heap _
      rw [e52]
      exact ⟨rfl, N52⟩
  · -- case 13
    rw [hk]
    show OwnW p e below (OwnG s (Q0 Z i0 i1 k0 k1 k2 k3 k4 k5 k6 k7 k8 k9 k10 k11 k12 k13 k14 k15 h0 n0) room_1.cells room_1.slots) (s₁.setTop (mkF m 8 #[.val (.int i0), .val (.int i1), .val (.int (13 : Int32)), .unset, .unset] []))
    refine own_iloadN X0 hx (hb hby at_8) rfl 9 rfl ?_
    refine own_callS X0 hx hZ hown (hw _ (List.mem_of_getElem? (i := 1) rfl)) (hw _ (List.mem_of_getElem? (i := 2) rfl)) (hw _ (List.mem_of_getElem? (i := 4) rfl)) (hw _ (List.mem_of_getElem? (i := 3) rfl)) (by decide) (rm1 l Z a0 hw [] (13 : Int32) k0 k1 k2 k3 k4 k5 k6 k7 k8 k9 k10 k11 k12 k13 k14 k15 h0 n0 Z0 S_FETCH S_LIST_OFFSETS S_METADATA S_OFFSET_COMMIT S_OFFSET_FETCH S_FIND_COORDINATOR S_JOIN_GROUP S_HEARTBEAT S_LEAVE_GROUP S_SYNC_GROUP S_DESCRIBE_GROUPS S_LIST_GROUPS S_API_VERSIONS S_CREATE_PARTITIONS S_DELETE_GROUPS S_JOURNAL_COPY) e0 (hb hby at_9) pd__I_Lcom_example_rollcall_rollcall_Api_ rfl (by rw [hml]; rfl) (st := []) rfl 0 (Nat.le_of_eq rfl) (by decide) (by decide) (by decide) (by decide) 12 rfl ?_
    intro T53 v53 L53 X53 hQ53
    obtain ⟨rfl, N53q, e53⟩ := hQ53
    have N53 := Fr.app N0 N53q
    show OwnW p e below (OwnG s (Q0 Z i0 i1 k0 k1 k2 k3 k4 k5 k6 k7 k8 k9 k10 k11 k12 k13 k14 k15 h0 n0) room_1.cells room_1.slots) (T53.setTop (mkF m 12 #[.val (.int i0), .val (.int i1), .val (.int (13 : Int32)), .unset, .unset] [(.ref (own_pick (13 : Int32) k0 k1 k2 k3 k4 k5 k6 k7 k8 k9 k10 k11 k12 k13 k14 k15))]))
    rw [show own_pick (13 : Int32) k0 k1 k2 k3 k4 k5 k6 k7 k8 k9 k10 k11 k12 k13 k14 k15 = k13 from by rw [own_pick, if_neg (by decide), if_neg (by decide), if_neg (by decide), if_neg (by decide), if_neg (by decide), if_neg (by decide), if_neg (by decide), if_neg (by decide), if_neg (by decide), if_neg (by decide), if_neg (by decide), if_neg (by decide), if_neg (by decide), if_pos rfl]]
    refine own_astoreN X53 hx (hb hby at_12) rfl #[.val (.int i0), .val (.int i1), .val (.int (13 : Int32)), .val (.ref k13), .unset] rfl 13 rfl ?_
    refine own_iloadN X53 hx (hb hby at_13) rfl 14 rfl ?_
    by_cases hc14 : i1 < (0 : Int32)
    · -- hc14
      refine own_ifY X53 hx (hb hby at_14) (tlt hc14).1 29 (by decide) ?_
      refine own_iconst X53 hx (hb hby at_29) (0 : Int32) rfl 30 rfl ?_
      refine own_istore X53 hx (hb hby at_30) #[.val (.int i0), .val (.int i1), .val (.int (13 : Int32)), .val (.ref k13), .val (.int (0 : Int32))] rfl 32 rfl ?_
      refine own_aloadN X53 hx (hb hby at_32) rfl rfl 33 rfl ?_
      refine own_iloadN X53 hx (hb hby at_33) rfl 34 rfl ?_
      refine own_callV X53 hx hZ hown (hw _ (List.mem_of_getElem? (i := 11) rfl)) (hw _ (List.mem_of_getElem? (i := 12) rfl)) (hw _ (List.mem_of_getElem? (i := 14) rfl)) (hw _ (List.mem_of_getElem? (i := 13) rfl)) (hw _ (List.mem_of_getElem? (i := 15) rfl)) (hw _ (List.mem_of_getElem? (i := 6) rfl)) (by decide) E_k13 (rm3 l Z a0 hw [] k13 i1 (0 : Int32) (1 : Int32) h0 n0 Z0 F_minVersion_k13 F_maxVersion_k13) e53 (hb hby at_34) pd__I_Z rfl (by rw [hml]; rfl) (st := []) rfl 0 (Nat.le_of_eq rfl) (by decide) (by decide) (by decide) (by decide) 37 rfl ?_
      intro T54 v54 L54 X54 hQ54
      obtain ⟨rfl, N54q, e54⟩ := hQ54
      have N54 := Fr.app N53 N54q
      show OwnW p e below (OwnG s (Q0 Z i0 i1 k0 k1 k2 k3 k4 k5 k6 k7 k8 k9 k10 k11 k12 k13 k14 k15 h0 n0) room_1.cells room_1.slots) (T54.setTop (mkF m 37 #[.val (.int i0), .val (.int i1), .val (.int (13 : Int32)), .val (.ref k13), .val (.int (0 : Int32))] [(.int (own_serves i1 (0 : Int32) (1 : Int32)))]))
      refine own_iload X54 hx (hb hby at_37) rfl 39 rfl ?_
      have hc39 : (own_serves i1 (0 : Int32) (1 : Int32)) = (0 : Int32) := by rw [own_serves, if_pos hc14]
      refine own_icmpN X54 hx (hb hby at_39) (teq hc39).2 42 (by decide) ?_
      refine own_iconst X54 hx (hb hby at_42) (1 : Int32) rfl 43 rfl ?_
      refine own_goto X54 hx (hb hby at_43) 47 (by decide) ?_
      refine own_retZ X54 hx hlk Bd.returns (by decide) (hb hby at_47) (by decide) (by decide) ?_
      show Q0 Z i0 i1 k0 k1 k2 k3 k4 k5 k6 k7 k8 k9 k10 k11 k12 k13 k14 k15 h0 n0 _ T54.heap _
      rw [e54]
      exact ⟨rfl, N54⟩
    · -- not hc14
      refine own_ifN X53 hx (hb hby at_14) (flt hc14).1 17 (by decide) ?_
      refine own_iloadN X53 hx (hb hby at_17) rfl 18 rfl ?_
      refine own_iloadN X53 hx (hb hby at_18) rfl 19 rfl ?_
      refine own_callS X53 hx hZ hown (hw _ (List.mem_of_getElem? (i := 8) rfl)) (hw _ (List.mem_of_getElem? (i := 9) rfl)) (hw _ (List.mem_of_getElem? (i := 10) rfl)) (hw _ (List.mem_of_getElem? (i := 3) rfl)) (by decide) (rm2 l Z a0 hw [] (13 : Int32) h0 n0 Z0) e53 (hb hby at_19) pd__I_I rfl (by rw [hml]; rfl) (st := [(.int i1)]) rfl 1 (Nat.le_of_eq rfl) (by decide) (by decide) (by decide) (by decide) 22 rfl ?_
      intro T55 v55 L55 X55 hQ55
      obtain ⟨rfl, N55q, e55⟩ := hQ55
      have N55 := Fr.app N53 N55q
      show OwnW p e below (OwnG s (Q0 Z i0 i1 k0 k1 k2 k3 k4 k5 k6 k7 k8 k9 k10 k11 k12 k13 k14 k15 h0 n0) room_1.cells room_1.slots) (T55.setTop (mkF m 22 #[.val (.int i0), .val (.int i1), .val (.int (13 : Int32)), .val (.ref k13), .unset] [(.int (own_maxOf (13 : Int32))), (.int i1)]))
      rw [show own_maxOf (13 : Int32) = (1 : Int32) from by rw [own_maxOf, if_neg (by decide), if_neg (by decide), if_neg (by decide), if_neg (by decide), if_neg (by decide), if_neg (by decide), if_neg (by decide), if_neg (by decide), if_neg (by decide), if_neg (by decide), if_neg (by decide), if_neg (by decide), if_neg (by decide), if_pos rfl]]
      suffices J30 : ∀ v30 : Int32, v30 = (if (1 : Int32) < i1 then (0 : Int32) else (1 : Int32)) → OwnW p e below (OwnG s (Q0 Z i0 i1 k0 k1 k2 k3 k4 k5 k6 k7 k8 k9 k10 k11 k12 k13 k14 k15 h0 n0) room_1.cells room_1.slots) (T55.setTop (mkF m 30 #[.val (.int i0), .val (.int i1), .val (.int (13 : Int32)), .val (.ref k13), .unset] [(.int v30)])) by
        by_cases hc22 : (1 : Int32) < i1
        · -- hc22
          refine own_icmpY X55 hx (hb hby at_22) (tlt hc22).2.2.1 29 (by decide) ?_
          refine own_iconst X55 hx (hb hby at_29) (0 : Int32) rfl 30 rfl ?_
          exact J30 _ (by rw [if_pos hc22])
        · -- not hc22
          refine own_icmpN X55 hx (hb hby at_22) (flt hc22).2.2.1 25 (by decide) ?_
          refine own_iconst X55 hx (hb hby at_25) (1 : Int32) rfl 26 rfl ?_
          refine own_goto X55 hx (hb hby at_26) 30 (by decide) ?_
          exact J30 _ (by rw [if_neg hc22])
      intro v30 hv30
      refine own_istore X55 hx (hb hby at_30) #[.val (.int i0), .val (.int i1), .val (.int (13 : Int32)), .val (.ref k13), .val (.int v30)] rfl 32 rfl ?_
      refine own_aloadN X55 hx (hb hby at_32) rfl rfl 33 rfl ?_
      refine own_iloadN X55 hx (hb hby at_33) rfl 34 rfl ?_
      refine own_callV X55 hx hZ hown (hw _ (List.mem_of_getElem? (i := 11) rfl)) (hw _ (List.mem_of_getElem? (i := 12) rfl)) (hw _ (List.mem_of_getElem? (i := 14) rfl)) (hw _ (List.mem_of_getElem? (i := 13) rfl)) (hw _ (List.mem_of_getElem? (i := 15) rfl)) (hw _ (List.mem_of_getElem? (i := 6) rfl)) (by decide) E_k13 (rm3 l Z a0 hw [] k13 i1 (0 : Int32) (1 : Int32) h0 n0 Z0 F_minVersion_k13 F_maxVersion_k13) e55 (hb hby at_34) pd__I_Z rfl (by rw [hml]; rfl) (st := []) rfl 0 (Nat.le_of_eq rfl) (by decide) (by decide) (by decide) (by decide) 37 rfl ?_
      intro T56 v56 L56 X56 hQ56
      obtain ⟨rfl, N56q, e56⟩ := hQ56
      have N56 := Fr.app N55 N56q
      show OwnW p e below (OwnG s (Q0 Z i0 i1 k0 k1 k2 k3 k4 k5 k6 k7 k8 k9 k10 k11 k12 k13 k14 k15 h0 n0) room_1.cells room_1.slots) (T56.setTop (mkF m 37 #[.val (.int i0), .val (.int i1), .val (.int (13 : Int32)), .val (.ref k13), .val (.int v30)] [(.int (own_serves i1 (0 : Int32) (1 : Int32)))]))
      refine own_iload X56 hx (hb hby at_37) rfl 39 rfl ?_
      have hc39 : (own_serves i1 (0 : Int32) (1 : Int32)) = v30 := by rw [hv30, own_serves, if_neg hc14]
      refine own_icmpN X56 hx (hb hby at_39) (teq hc39).2 42 (by decide) ?_
      refine own_iconst X56 hx (hb hby at_42) (1 : Int32) rfl 43 rfl ?_
      refine own_goto X56 hx (hb hby at_43) 47 (by decide) ?_
      refine own_retZ X56 hx hlk Bd.returns (by decide) (hb hby at_47) (by decide) (by decide) ?_
      show Q0 Z i0 i1 k0 k1 k2 k3 k4 k5 k6 k7 k8 k9 k10 k11 k12 k13 k14 k15 h0 n0 _ T56.heap _
      rw [e56]
      exact ⟨rfl, N56⟩
  · -- case 14
    rw [hk]
    show OwnW p e below (OwnG s (Q0 Z i0 i1 k0 k1 k2 k3 k4 k5 k6 k7 k8 k9 k10 k11 k12 k13 k14 k15 h0 n0) room_1.cells room_1.slots) (s₁.setTop (mkF m 8 #[.val (.int i0), .val (.int i1), .val (.int (14 : Int32)), .unset, .unset] []))
    refine own_iloadN X0 hx (hb hby at_8) rfl 9 rfl ?_
    refine own_callS X0 hx hZ hown (hw _ (List.mem_of_getElem? (i := 1) rfl)) (hw _ (List.mem_of_getElem? (i := 2) rfl)) (hw _ (List.mem_of_getElem? (i := 4) rfl)) (hw _ (List.mem_of_getElem? (i := 3) rfl)) (by decide) (rm1 l Z a0 hw [] (14 : Int32) k0 k1 k2 k3 k4 k5 k6 k7 k8 k9 k10 k11 k12 k13 k14 k15 h0 n0 Z0 S_FETCH S_LIST_OFFSETS S_METADATA S_OFFSET_COMMIT S_OFFSET_FETCH S_FIND_COORDINATOR S_JOIN_GROUP S_HEARTBEAT S_LEAVE_GROUP S_SYNC_GROUP S_DESCRIBE_GROUPS S_LIST_GROUPS S_API_VERSIONS S_CREATE_PARTITIONS S_DELETE_GROUPS S_JOURNAL_COPY) e0 (hb hby at_9) pd__I_Lcom_example_rollcall_rollcall_Api_ rfl (by rw [hml]; rfl) (st := []) rfl 0 (Nat.le_of_eq rfl) (by decide) (by decide) (by decide) (by decide) 12 rfl ?_
    intro T57 v57 L57 X57 hQ57
    obtain ⟨rfl, N57q, e57⟩ := hQ57
    have N57 := Fr.app N0 N57q
    show OwnW p e below (OwnG s (Q0 Z i0 i1 k0 k1 k2 k3 k4 k5 k6 k7 k8 k9 k10 k11 k12 k13 k14 k15 h0 n0) room_1.cells room_1.slots) (T57.setTop (mkF m 12 #[.val (.int i0), .val (.int i1), .val (.int (14 : Int32)), .unset, .unset] [(.ref (own_pick (14 : Int32) k0 k1 k2 k3 k4 k5 k6 k7 k8 k9 k10 k11 k12 k13 k14 k15))]))
    rw [show own_pick (14 : Int32) k0 k1 k2 k3 k4 k5 k6 k7 k8 k9 k10 k11 k12 k13 k14 k15 = k14 from by rw [own_pick, if_neg (by decide), if_neg (by decide), if_neg (by decide), if_neg (by decide), if_neg (by decide), if_neg (by decide), if_neg (by decide), if_neg (by decide), if_neg (by decide), if_neg (by decide), if_neg (by decide), if_neg (by decide), if_neg (by decide), if_neg (by decide), if_pos rfl]]
    refine own_astoreN X57 hx (hb hby at_12) rfl #[.val (.int i0), .val (.int i1), .val (.int (14 : Int32)), .val (.ref k14), .unset] rfl 13 rfl ?_
    refine own_iloadN X57 hx (hb hby at_13) rfl 14 rfl ?_
    by_cases hc14 : i1 < (0 : Int32)
    · -- hc14
      refine own_ifY X57 hx (hb hby at_14) (tlt hc14).1 29 (by decide) ?_
      refine own_iconst X57 hx (hb hby at_29) (0 : Int32) rfl 30 rfl ?_
      refine own_istore X57 hx (hb hby at_30) #[.val (.int i0), .val (.int i1), .val (.int (14 : Int32)), .val (.ref k14), .val (.int (0 : Int32))] rfl 32 rfl ?_
      refine own_aloadN X57 hx (hb hby at_32) rfl rfl 33 rfl ?_
      refine own_iloadN X57 hx (hb hby at_33) rfl 34 rfl ?_
      refine own_callV X57 hx hZ hown (hw _ (List.mem_of_getElem? (i := 11) rfl)) (hw _ (List.mem_of_getElem? (i := 12) rfl)) (hw _ (List.mem_of_getElem? (i := 14) rfl)) (hw _ (List.mem_of_getElem? (i := 13) rfl)) (hw _ (List.mem_of_getElem? (i := 15) rfl)) (hw _ (List.mem_of_getElem? (i := 6) rfl)) (by decide) E_k14 (rm3 l Z a0 hw [] k14 i1 (0 : Int32) (1 : Int32) h0 n0 Z0 F_minVersion_k14 F_maxVersion_k14) e57 (hb hby at_34) pd__I_Z rfl (by rw [hml]; rfl) (st := []) rfl 0 (Nat.le_of_eq rfl) (by decide) (by decide) (by decide) (by decide) 37 rfl ?_
      intro T58 v58 L58 X58 hQ58
      obtain ⟨rfl, N58q, e58⟩ := hQ58
      have N58 := Fr.app N57 N58q
      show OwnW p e below (OwnG s (Q0 Z i0 i1 k0 k1 k2 k3 k4 k5 k6 k7 k8 k9 k10 k11 k12 k13 k14 k15 h0 n0) room_1.cells room_1.slots) (T58.setTop (mkF m 37 #[.val (.int i0), .val (.int i1), .val (.int (14 : Int32)), .val (.ref k14), .val (.int (0 : Int32))] [(.int (own_serves i1 (0 : Int32) (1 : Int32)))]))
      refine own_iload X58 hx (hb hby at_37) rfl 39 rfl ?_
      have hc39 : (own_serves i1 (0 : Int32) (1 : Int32)) = (0 : Int32) := by rw [own_serves, if_pos hc14]
      refine own_icmpN X58 hx (hb hby at_39) (teq hc39).2 42 (by decide) ?_
      refine own_iconst X58 hx (hb hby at_42) (1 : Int32) rfl 43 rfl ?_
      refine own_goto X58 hx (hb hby at_43) 47 (by decide) ?_
      refine own_retZ X58 hx hlk Bd.returns (by decide) (hb hby at_47) (by decide) (by decide) ?_
      show Q0 Z i0 i1 k0 k1 k2 k3 k4 k5 k6 k7 k8 k9 k10 k11 k12 k13 k14 k15 h0 n0 _ T58.heap _
      rw [e58]
      exact ⟨rfl, N58⟩
    · -- not hc14
      refine own_ifN X57 hx (hb hby at_14) (flt hc14).1 17 (by decide) ?_
      refine own_iloadN X57 hx (hb hby at_17) rfl 18 rfl ?_
      refine own_iloadN X57 hx (hb hby at_18) rfl 19 rfl ?_
      refine own_callS X57 hx hZ hown (hw _ (List.mem_of_getElem? (i := 8) rfl)) (hw _ (List.mem_of_getElem? (i := 9) rfl)) (hw _ (List.mem_of_getElem? (i := 10) rfl)) (hw _ (List.mem_of_getElem? (i := 3) rfl)) (by decide) (rm2 l Z a0 hw [] (14 : Int32) h0 n0 Z0) e57 (hb hby at_19) pd__I_I rfl (by rw [hml]; rfl) (st := [(.int i1)]) rfl 1 (Nat.le_of_eq rfl) (by decide) (by decide) (by decide) (by decide) 22 rfl ?_
      intro T59 v59 L59 X59 hQ59
      obtain ⟨rfl, N59q, e59⟩ := hQ59
      have N59 := Fr.app N57 N59q
      show OwnW p e below (OwnG s (Q0 Z i0 i1 k0 k1 k2 k3 k4 k5 k6 k7 k8 k9 k10 k11 k12 k13 k14 k15 h0 n0) room_1.cells room_1.slots) (T59.setTop (mkF m 22 #[.val (.int i0), .val (.int i1), .val (.int (14 : Int32)), .val (.ref k14), .unset] [(.int (own_maxOf (14 : Int32))), (.int i1)]))
      rw [show own_maxOf (14 : Int32) = (1 : Int32) from by rw [own_maxOf, if_neg (by decide), if_neg (by decide), if_neg (by decide), if_neg (by decide), if_neg (by decide), if_neg (by decide), if_neg (by decide), if_neg (by decide), if_neg (by decide), if_neg (by decide), if_neg (by decide), if_neg (by decide), if_neg (by decide), if_neg (by decide), if_pos rfl]]
      suffices J30 : ∀ v30 : Int32, v30 = (if (1 : Int32) < i1 then (0 : Int32) else (1 : Int32)) → OwnW p e below (OwnG s (Q0 Z i0 i1 k0 k1 k2 k3 k4 k5 k6 k7 k8 k9 k10 k11 k12 k13 k14 k15 h0 n0) room_1.cells room_1.slots) (T59.setTop (mkF m 30 #[.val (.int i0), .val (.int i1), .val (.int (14 : Int32)), .val (.ref k14), .unset] [(.int v30)])) by
        by_cases hc22 : (1 : Int32) < i1
        · -- hc22
          refine own_icmpY X59 hx (hb hby at_22) (tlt hc22).2.2.1 29 (by decide) ?_
          refine own_iconst X59 hx (hb hby at_29) (0 : Int32) rfl 30 rfl ?_
          exact J30 _ (by rw [if_pos hc22])
        · -- not hc22
          refine own_icmpN X59 hx (hb hby at_22) (flt hc22).2.2.1 25 (by decide) ?_
          refine own_iconst X59 hx (hb hby at_25) (1 : Int32) rfl 26 rfl ?_
          refine own_goto X59 hx (hb hby at_26) 30 (by decide) ?_
          exact J30 _ (by rw [if_neg hc22])
      intro v30 hv30
      refine own_istore X59 hx (hb hby at_30) #[.val (.int i0), .val (.int i1), .val (.int (14 : Int32)), .val (.ref k14), .val (.int v30)] rfl 32 rfl ?_
      refine own_aloadN X59 hx (hb hby at_32) rfl rfl 33 rfl ?_
      refine own_iloadN X59 hx (hb hby at_33) rfl 34 rfl ?_
      refine own_callV X59 hx hZ hown (hw _ (List.mem_of_getElem? (i := 11) rfl)) (hw _ (List.mem_of_getElem? (i := 12) rfl)) (hw _ (List.mem_of_getElem? (i := 14) rfl)) (hw _ (List.mem_of_getElem? (i := 13) rfl)) (hw _ (List.mem_of_getElem? (i := 15) rfl)) (hw _ (List.mem_of_getElem? (i := 6) rfl)) (by decide) E_k14 (rm3 l Z a0 hw [] k14 i1 (0 : Int32) (1 : Int32) h0 n0 Z0 F_minVersion_k14 F_maxVersion_k14) e59 (hb hby at_34) pd__I_Z rfl (by rw [hml]; rfl) (st := []) rfl 0 (Nat.le_of_eq rfl) (by decide) (by decide) (by decide) (by decide) 37 rfl ?_
      intro T60 v60 L60 X60 hQ60
      obtain ⟨rfl, N60q, e60⟩ := hQ60
      have N60 := Fr.app N59 N60q
      show OwnW p e below (OwnG s (Q0 Z i0 i1 k0 k1 k2 k3 k4 k5 k6 k7 k8 k9 k10 k11 k12 k13 k14 k15 h0 n0) room_1.cells room_1.slots) (T60.setTop (mkF m 37 #[.val (.int i0), .val (.int i1), .val (.int (14 : Int32)), .val (.ref k14), .val (.int v30)] [(.int (own_serves i1 (0 : Int32) (1 : Int32)))]))
      refine own_iload X60 hx (hb hby at_37) rfl 39 rfl ?_
      have hc39 : (own_serves i1 (0 : Int32) (1 : Int32)) = v30 := by rw [hv30, own_serves, if_neg hc14]
      refine own_icmpN X60 hx (hb hby at_39) (teq hc39).2 42 (by decide) ?_
      refine own_iconst X60 hx (hb hby at_42) (1 : Int32) rfl 43 rfl ?_
      refine own_goto X60 hx (hb hby at_43) 47 (by decide) ?_
      refine own_retZ X60 hx hlk Bd.returns (by decide) (hb hby at_47) (by decide) (by decide) ?_
      show Q0 Z i0 i1 k0 k1 k2 k3 k4 k5 k6 k7 k8 k9 k10 k11 k12 k13 k14 k15 h0 n0 _ T60.heap _
      rw [e60]
      exact ⟨rfl, N60⟩
  · -- case 15
    rw [hk]
    show OwnW p e below (OwnG s (Q0 Z i0 i1 k0 k1 k2 k3 k4 k5 k6 k7 k8 k9 k10 k11 k12 k13 k14 k15 h0 n0) room_1.cells room_1.slots) (s₁.setTop (mkF m 8 #[.val (.int i0), .val (.int i1), .val (.int (15 : Int32)), .unset, .unset] []))
    refine own_iloadN X0 hx (hb hby at_8) rfl 9 rfl ?_
    refine own_callS X0 hx hZ hown (hw _ (List.mem_of_getElem? (i := 1) rfl)) (hw _ (List.mem_of_getElem? (i := 2) rfl)) (hw _ (List.mem_of_getElem? (i := 4) rfl)) (hw _ (List.mem_of_getElem? (i := 3) rfl)) (by decide) (rm1 l Z a0 hw [] (15 : Int32) k0 k1 k2 k3 k4 k5 k6 k7 k8 k9 k10 k11 k12 k13 k14 k15 h0 n0 Z0 S_FETCH S_LIST_OFFSETS S_METADATA S_OFFSET_COMMIT S_OFFSET_FETCH S_FIND_COORDINATOR S_JOIN_GROUP S_HEARTBEAT S_LEAVE_GROUP S_SYNC_GROUP S_DESCRIBE_GROUPS S_LIST_GROUPS S_API_VERSIONS S_CREATE_PARTITIONS S_DELETE_GROUPS S_JOURNAL_COPY) e0 (hb hby at_9) pd__I_Lcom_example_rollcall_rollcall_Api_ rfl (by rw [hml]; rfl) (st := []) rfl 0 (Nat.le_of_eq rfl) (by decide) (by decide) (by decide) (by decide) 12 rfl ?_
    intro T61 v61 L61 X61 hQ61
    obtain ⟨rfl, N61q, e61⟩ := hQ61
    have N61 := Fr.app N0 N61q
    show OwnW p e below (OwnG s (Q0 Z i0 i1 k0 k1 k2 k3 k4 k5 k6 k7 k8 k9 k10 k11 k12 k13 k14 k15 h0 n0) room_1.cells room_1.slots) (T61.setTop (mkF m 12 #[.val (.int i0), .val (.int i1), .val (.int (15 : Int32)), .unset, .unset] [(.ref (own_pick (15 : Int32) k0 k1 k2 k3 k4 k5 k6 k7 k8 k9 k10 k11 k12 k13 k14 k15))]))
    rw [show own_pick (15 : Int32) k0 k1 k2 k3 k4 k5 k6 k7 k8 k9 k10 k11 k12 k13 k14 k15 = k15 from by rw [own_pick, if_neg (by decide), if_neg (by decide), if_neg (by decide), if_neg (by decide), if_neg (by decide), if_neg (by decide), if_neg (by decide), if_neg (by decide), if_neg (by decide), if_neg (by decide), if_neg (by decide), if_neg (by decide), if_neg (by decide), if_neg (by decide), if_neg (by decide)]]
    refine own_astoreN X61 hx (hb hby at_12) rfl #[.val (.int i0), .val (.int i1), .val (.int (15 : Int32)), .val (.ref k15), .unset] rfl 13 rfl ?_
    refine own_iloadN X61 hx (hb hby at_13) rfl 14 rfl ?_
    by_cases hc14 : i1 < (0 : Int32)
    · -- hc14
      refine own_ifY X61 hx (hb hby at_14) (tlt hc14).1 29 (by decide) ?_
      refine own_iconst X61 hx (hb hby at_29) (0 : Int32) rfl 30 rfl ?_
      refine own_istore X61 hx (hb hby at_30) #[.val (.int i0), .val (.int i1), .val (.int (15 : Int32)), .val (.ref k15), .val (.int (0 : Int32))] rfl 32 rfl ?_
      refine own_aloadN X61 hx (hb hby at_32) rfl rfl 33 rfl ?_
      refine own_iloadN X61 hx (hb hby at_33) rfl 34 rfl ?_
      refine own_callV X61 hx hZ hown (hw _ (List.mem_of_getElem? (i := 11) rfl)) (hw _ (List.mem_of_getElem? (i := 12) rfl)) (hw _ (List.mem_of_getElem? (i := 14) rfl)) (hw _ (List.mem_of_getElem? (i := 13) rfl)) (hw _ (List.mem_of_getElem? (i := 15) rfl)) (hw _ (List.mem_of_getElem? (i := 6) rfl)) (by decide) E_k15 (rm3 l Z a0 hw [] k15 i1 (0 : Int32) (0 : Int32) h0 n0 Z0 F_minVersion_k15 F_maxVersion_k15) e61 (hb hby at_34) pd__I_Z rfl (by rw [hml]; rfl) (st := []) rfl 0 (Nat.le_of_eq rfl) (by decide) (by decide) (by decide) (by decide) 37 rfl ?_
      intro T62 v62 L62 X62 hQ62
      obtain ⟨rfl, N62q, e62⟩ := hQ62
      have N62 := Fr.app N61 N62q
      show OwnW p e below (OwnG s (Q0 Z i0 i1 k0 k1 k2 k3 k4 k5 k6 k7 k8 k9 k10 k11 k12 k13 k14 k15 h0 n0) room_1.cells room_1.slots) (T62.setTop (mkF m 37 #[.val (.int i0), .val (.int i1), .val (.int (15 : Int32)), .val (.ref k15), .val (.int (0 : Int32))] [(.int (own_serves i1 (0 : Int32) (0 : Int32)))]))
      refine own_iload X62 hx (hb hby at_37) rfl 39 rfl ?_
      have hc39 : (own_serves i1 (0 : Int32) (0 : Int32)) = (0 : Int32) := by rw [own_serves, if_pos hc14]
      refine own_icmpN X62 hx (hb hby at_39) (teq hc39).2 42 (by decide) ?_
      refine own_iconst X62 hx (hb hby at_42) (1 : Int32) rfl 43 rfl ?_
      refine own_goto X62 hx (hb hby at_43) 47 (by decide) ?_
      refine own_retZ X62 hx hlk Bd.returns (by decide) (hb hby at_47) (by decide) (by decide) ?_
      show Q0 Z i0 i1 k0 k1 k2 k3 k4 k5 k6 k7 k8 k9 k10 k11 k12 k13 k14 k15 h0 n0 _ T62.heap _
      rw [e62]
      exact ⟨rfl, N62⟩
    · -- not hc14
      refine own_ifN X61 hx (hb hby at_14) (flt hc14).1 17 (by decide) ?_
      refine own_iloadN X61 hx (hb hby at_17) rfl 18 rfl ?_
      refine own_iloadN X61 hx (hb hby at_18) rfl 19 rfl ?_
      refine own_callS X61 hx hZ hown (hw _ (List.mem_of_getElem? (i := 8) rfl)) (hw _ (List.mem_of_getElem? (i := 9) rfl)) (hw _ (List.mem_of_getElem? (i := 10) rfl)) (hw _ (List.mem_of_getElem? (i := 3) rfl)) (by decide) (rm2 l Z a0 hw [] (15 : Int32) h0 n0 Z0) e61 (hb hby at_19) pd__I_I rfl (by rw [hml]; rfl) (st := [(.int i1)]) rfl 1 (Nat.le_of_eq rfl) (by decide) (by decide) (by decide) (by decide) 22 rfl ?_
      intro T63 v63 L63 X63 hQ63
      obtain ⟨rfl, N63q, e63⟩ := hQ63
      have N63 := Fr.app N61 N63q
      show OwnW p e below (OwnG s (Q0 Z i0 i1 k0 k1 k2 k3 k4 k5 k6 k7 k8 k9 k10 k11 k12 k13 k14 k15 h0 n0) room_1.cells room_1.slots) (T63.setTop (mkF m 22 #[.val (.int i0), .val (.int i1), .val (.int (15 : Int32)), .val (.ref k15), .unset] [(.int (own_maxOf (15 : Int32))), (.int i1)]))
      rw [show own_maxOf (15 : Int32) = (0 : Int32) from by rw [own_maxOf, if_neg (by decide), if_neg (by decide), if_neg (by decide), if_neg (by decide), if_neg (by decide), if_neg (by decide), if_neg (by decide), if_neg (by decide), if_neg (by decide), if_neg (by decide), if_neg (by decide), if_neg (by decide), if_neg (by decide), if_neg (by decide), if_neg (by decide)]]
      suffices J30 : ∀ v30 : Int32, v30 = (if (0 : Int32) < i1 then (0 : Int32) else (1 : Int32)) → OwnW p e below (OwnG s (Q0 Z i0 i1 k0 k1 k2 k3 k4 k5 k6 k7 k8 k9 k10 k11 k12 k13 k14 k15 h0 n0) room_1.cells room_1.slots) (T63.setTop (mkF m 30 #[.val (.int i0), .val (.int i1), .val (.int (15 : Int32)), .val (.ref k15), .unset] [(.int v30)])) by
        by_cases hc22 : (0 : Int32) < i1
        · -- hc22
          refine own_icmpY X63 hx (hb hby at_22) (tlt hc22).2.2.1 29 (by decide) ?_
          refine own_iconst X63 hx (hb hby at_29) (0 : Int32) rfl 30 rfl ?_
          exact J30 _ (by rw [if_pos hc22])
        · -- not hc22
          refine own_icmpN X63 hx (hb hby at_22) (flt hc22).2.2.1 25 (by decide) ?_
          refine own_iconst X63 hx (hb hby at_25) (1 : Int32) rfl 26 rfl ?_
          refine own_goto X63 hx (hb hby at_26) 30 (by decide) ?_
          exact J30 _ (by rw [if_neg hc22])
      intro v30 hv30
      refine own_istore X63 hx (hb hby at_30) #[.val (.int i0), .val (.int i1), .val (.int (15 : Int32)), .val (.ref k15), .val (.int v30)] rfl 32 rfl ?_
      refine own_aloadN X63 hx (hb hby at_32) rfl rfl 33 rfl ?_
      refine own_iloadN X63 hx (hb hby at_33) rfl 34 rfl ?_
      refine own_callV X63 hx hZ hown (hw _ (List.mem_of_getElem? (i := 11) rfl)) (hw _ (List.mem_of_getElem? (i := 12) rfl)) (hw _ (List.mem_of_getElem? (i := 14) rfl)) (hw _ (List.mem_of_getElem? (i := 13) rfl)) (hw _ (List.mem_of_getElem? (i := 15) rfl)) (hw _ (List.mem_of_getElem? (i := 6) rfl)) (by decide) E_k15 (rm3 l Z a0 hw [] k15 i1 (0 : Int32) (0 : Int32) h0 n0 Z0 F_minVersion_k15 F_maxVersion_k15) e63 (hb hby at_34) pd__I_Z rfl (by rw [hml]; rfl) (st := []) rfl 0 (Nat.le_of_eq rfl) (by decide) (by decide) (by decide) (by decide) 37 rfl ?_
      intro T64 v64 L64 X64 hQ64
      obtain ⟨rfl, N64q, e64⟩ := hQ64
      have N64 := Fr.app N63 N64q
      show OwnW p e below (OwnG s (Q0 Z i0 i1 k0 k1 k2 k3 k4 k5 k6 k7 k8 k9 k10 k11 k12 k13 k14 k15 h0 n0) room_1.cells room_1.slots) (T64.setTop (mkF m 37 #[.val (.int i0), .val (.int i1), .val (.int (15 : Int32)), .val (.ref k15), .val (.int v30)] [(.int (own_serves i1 (0 : Int32) (0 : Int32)))]))
      refine own_iload X64 hx (hb hby at_37) rfl 39 rfl ?_
      have hc39 : (own_serves i1 (0 : Int32) (0 : Int32)) = v30 := by rw [hv30, own_serves, if_neg hc14]
      refine own_icmpN X64 hx (hb hby at_39) (teq hc39).2 42 (by decide) ?_
      refine own_iconst X64 hx (hb hby at_42) (1 : Int32) rfl 43 rfl ?_
      refine own_goto X64 hx (hb hby at_43) 47 (by decide) ?_
      refine own_retZ X64 hx hlk Bd.returns (by decide) (hb hby at_47) (by decide) (by decide) ?_
      show Q0 Z i0 i1 k0 k1 k2 k3 k4 k5 k6 k7 k8 k9 k10 k11 k12 k13 k14 k15 h0 n0 _ T64.heap _
      rw [e64]
      exact ⟨rfl, N64⟩
set_option maxRecDepth 65536 in
set_option maxHeartbeats 40000000 in
theorem comes_1 {Post : Tables → Env → Array Value → State → Outcome → State → Prop} (hpost : ∀ tb e args s v u, (limb_1_1.after args s (.returned v) u = true ∧ limb_1_2.after args s (.returned v) u = true) → FrameEnd s (.returned v) u (Jvm.fieldLocs frame_1_writes args s ++ Jvm.arrayLocs frame_1_arrays args s ++ Jvm.staticLocs frame_1_statics s) 0 0 → Post tb e args s (.returned v) u) :
    ArmFor flags0 classFile x code maxLocals ret World_1 tables_1 room_1 Calls_1 rest_1 Pre_1 Post := by
  intro l hfl _ _ p e ha hc hk s m args below hf hA hF happ hP
  obtain ⟨hcalls, hrest, hpre⟩ := hP
  obtain ⟨-, -, -, hnamed, -, -, -, hat⟩ := (Spec.applies_iff hf).mp happ
  obtain ⟨hg, hn⟩ := and_e (Cond.before_iff.mp (show (Jvm.Cond.and given_1 narrow_1).before args s = true from hpre))
  obtain ⟨gc, gr⟩ := and_e hg
  obtain ⟨ga0, gr0⟩ := and_e gr
  have ga1 := gr0
  obtain ⟨w0, w1, rfl⟩ : ∃ w0 w1 : Value, args = #[w0, w1] := by
    have hs : args.size = 2 := by simpa [Cond.value, given_1] using gc
    obtain ⟨L⟩ := args
    match L, hs with
    | [w0, w1], _ => exact ⟨w0, w1, rfl⟩
  have hw := fun d (hd : d ∈ tables_1) => atoms_spec (ws := Jvm.Cond.code x code maxLocals ret :: tables_1) hat d (List.mem_cons_of_mem _ hd)
  have hfit : Fit s := fun {y c} hc i hi => by
    obtain ⟨ha, rfl⟩ := Array.getElem?_eq_some_iff.mp hc
    have q := List.all_eq_true.mp ((Array.all_eq_true_iff_forall_mem.mp hF) _ (Array.getElem_mem ha)) i (List.mem_range.mpr hi)
    simpa [Array.getElem?_eq_getElem hi] using q
  obtain ⟨i0, ei0⟩ := is_v ga0
  obtain rfl : w0 = (.int i0) := Option.some.inj ei0
  obtain ⟨i1, ei1⟩ := is_v ga1
  obtain rfl : w1 = (.int i1) := Option.some.inj ei1
  obtain ⟨nc0, nr0⟩ := and_e hn
  obtain ⟨nc1, nr1⟩ := and_e nr0
  obtain ⟨nc2, nr2⟩ := and_e nr1
  obtain ⟨nc3, nr3⟩ := and_e nr2
  obtain ⟨nc4, nr4⟩ := and_e nr3
  obtain ⟨nc5, nr5⟩ := and_e nr4
  obtain ⟨nc6, nr6⟩ := and_e nr5
  obtain ⟨nc7, nr7⟩ := and_e nr6
  obtain ⟨nc8, nr8⟩ := and_e nr7
  obtain ⟨nc9, nr9⟩ := and_e nr8
  obtain ⟨nc10, nr10⟩ := and_e nr9
  obtain ⟨nc11, nr11⟩ := and_e nr10
  obtain ⟨nc12, nr12⟩ := and_e nr11
  obtain ⟨nc13, nr13⟩ := and_e nr12
  obtain ⟨nc14, nr14⟩ := and_e nr13
  obtain ⟨nc15, nr15⟩ := and_e nr14
  obtain ⟨nc16, nr16⟩ := and_e nr15
  obtain ⟨nc17, nr17⟩ := and_e nr16
  obtain ⟨nc18, nr18⟩ := and_e nr17
  obtain ⟨nc19, nr19⟩ := and_e nr18
  obtain ⟨nc20, nr20⟩ := and_e nr19
  obtain ⟨nc21, nr21⟩ := and_e nr20
  obtain ⟨nc22, nr22⟩ := and_e nr21
  obtain ⟨nc23, nr23⟩ := and_e nr22
  obtain ⟨nc24, nr24⟩ := and_e nr23
  obtain ⟨nc25, nr25⟩ := and_e nr24
  obtain ⟨nc26, nr26⟩ := and_e nr25
  obtain ⟨nc27, nr27⟩ := and_e nr26
  obtain ⟨nc28, nr28⟩ := and_e nr27
  obtain ⟨nc29, nr29⟩ := and_e nr28
  obtain ⟨nc30, nr30⟩ := and_e nr29
  obtain ⟨nc31, nr31⟩ := and_e nr30
  obtain ⟨nc32, nr32⟩ := and_e nr31
  obtain ⟨nc33, nr33⟩ := and_e nr32
  obtain ⟨nc34, nr34⟩ := and_e nr33
  obtain ⟨nc35, nr35⟩ := and_e nr34
  obtain ⟨nc36, nr36⟩ := and_e nr35
  obtain ⟨nc37, nr37⟩ := and_e nr36
  obtain ⟨nc38, nr38⟩ := and_e nr37
  obtain ⟨nc39, nr39⟩ := and_e nr38
  obtain ⟨nc40, nr40⟩ := and_e nr39
  obtain ⟨nc41, nr41⟩ := and_e nr40
  obtain ⟨nc42, nr42⟩ := and_e nr41
  obtain ⟨nc43, nr43⟩ := and_e nr42
  obtain ⟨nc44, nr44⟩ := and_e nr43
  obtain ⟨nc45, nr45⟩ := and_e nr44
  obtain ⟨nc46, nr46⟩ := and_e nr45
  have nc47 := nr46
  obtain ⟨k0, ek0⟩ := exa_v nc0
  have E0 := Exa.start ek0 nc0
  have Mi0 := own_feq ek0 nc1
  have Mx0 := own_feq ek0 nc2
  have S0 := Sta.start ek0 (Or.inr ⟨(hw _ (List.mem_of_getElem? (i := 6) rfl)), (hw _ (List.mem_of_getElem? (i := 7) rfl))⟩)
  obtain ⟨k1, ek1⟩ := exa_v nc25
  have E1 := Exa.start ek1 nc25
  have Mi1 := own_feq ek1 nc26
  have Mx1 := own_feq ek1 nc27
  have S1 := Sta.start ek1 (Or.inr ⟨(hw _ (List.mem_of_getElem? (i := 6) rfl)), (hw _ (List.mem_of_getElem? (i := 37) rfl))⟩)
  obtain ⟨k2, ek2⟩ := exa_v nc33
  have E2 := Exa.start ek2 nc33
  have Mi2 := own_feq ek2 nc34
  have Mx2 := own_feq ek2 nc35
  have S2 := Sta.start ek2 (Or.inr ⟨(hw _ (List.mem_of_getElem? (i := 6) rfl)), (hw _ (List.mem_of_getElem? (i := 41) rfl))⟩)
  obtain ⟨k3, ek3⟩ := exa_v nc20
  have E3 := Exa.start ek3 nc20
  have Mi3 := own_feq ek3 nc21
  have Mx3 := own_feq ek3 nc22
  have S3 := Sta.start ek3 (Or.inr ⟨(hw _ (List.mem_of_getElem? (i := 6) rfl)), (hw _ (List.mem_of_getElem? (i := 33) rfl))⟩)
  obtain ⟨k4, ek4⟩ := exa_v nc44
  have E4 := Exa.start ek4 nc44
  have Mi4 := own_feq ek4 nc45
  have Mx4 := own_feq ek4 nc46
  have S4 := Sta.start ek4 (Or.inr ⟨(hw _ (List.mem_of_getElem? (i := 6) rfl)), (hw _ (List.mem_of_getElem? (i := 49) rfl))⟩)
  obtain ⟨k5, ek5⟩ := exa_v nc28
  have E5 := Exa.start ek5 nc28
  have Mi5 := own_feq ek5 nc29
  have Mx5 := own_feq ek5 nc30
  have S5 := Sta.start ek5 (Or.inr ⟨(hw _ (List.mem_of_getElem? (i := 6) rfl)), (hw _ (List.mem_of_getElem? (i := 39) rfl))⟩)
  obtain ⟨k6, ek6⟩ := exa_v nc14
  have E6 := Exa.start ek6 nc14
  have Mi6 := own_feq ek6 nc15
  have Mx6 := own_feq ek6 nc32
  have S6 := Sta.start ek6 (Or.inr ⟨(hw _ (List.mem_of_getElem? (i := 6) rfl)), (hw _ (List.mem_of_getElem? (i := 29) rfl))⟩)
  obtain ⟨k7, ek7⟩ := exa_v nc17
  have E7 := Exa.start ek7 nc17
  have Mi7 := own_feq ek7 nc18
  have Mx7 := own_feq ek7 nc19
  have S7 := Sta.start ek7 (Or.inr ⟨(hw _ (List.mem_of_getElem? (i := 6) rfl)), (hw _ (List.mem_of_getElem? (i := 31) rfl))⟩)
  obtain ⟨k8, ek8⟩ := exa_v nc9
  have E8 := Exa.start ek8 nc9
  have Mi8 := own_feq ek8 nc10
  have Mx8 := own_feq ek8 nc16
  have S8 := Sta.start ek8 (Or.inr ⟨(hw _ (List.mem_of_getElem? (i := 6) rfl)), (hw _ (List.mem_of_getElem? (i := 25) rfl))⟩)
  obtain ⟨k9, ek9⟩ := exa_v nc41
  have E9 := Exa.start ek9 nc41
  have Mi9 := own_feq ek9 nc42
  have Mx9 := own_feq ek9 nc43
  have S9 := Sta.start ek9 (Or.inr ⟨(hw _ (List.mem_of_getElem? (i := 6) rfl)), (hw _ (List.mem_of_getElem? (i := 47) rfl))⟩)
  obtain ⟨k10, ek10⟩ := exa_v nc36
  have E10 := Exa.start ek10 nc36
  have Mi10 := own_feq ek10 nc37
  have Mx10 := own_feq ek10 nc38
  have S10 := Sta.start ek10 (Or.inr ⟨(hw _ (List.mem_of_getElem? (i := 6) rfl)), (hw _ (List.mem_of_getElem? (i := 43) rfl))⟩)
  obtain ⟨k11, ek11⟩ := exa_v nc39
  have E11 := Exa.start ek11 nc39
  have Mi11 := own_feq ek11 nc40
  have Mx11 := own_feq ek11 nc47
  have S11 := Sta.start ek11 (Or.inr ⟨(hw _ (List.mem_of_getElem? (i := 6) rfl)), (hw _ (List.mem_of_getElem? (i := 45) rfl))⟩)
  obtain ⟨k12, ek12⟩ := exa_v nc6
  have E12 := Exa.start ek12 nc6
  have Mi12 := own_feq ek12 nc7
  have Mx12 := own_feq ek12 nc8
  have S12 := Sta.start ek12 (Or.inr ⟨(hw _ (List.mem_of_getElem? (i := 6) rfl)), (hw _ (List.mem_of_getElem? (i := 23) rfl))⟩)
  obtain ⟨k13, ek13⟩ := exa_v nc11
  have E13 := Exa.start ek13 nc11
  have Mi13 := own_feq ek13 nc12
  have Mx13 := own_feq ek13 nc13
  have S13 := Sta.start ek13 (Or.inr ⟨(hw _ (List.mem_of_getElem? (i := 6) rfl)), (hw _ (List.mem_of_getElem? (i := 27) rfl))⟩)
  obtain ⟨k14, ek14⟩ := exa_v nc3
  have E14 := Exa.start ek14 nc3
  have Mi14 := own_feq ek14 nc4
  have Mx14 := own_feq ek14 nc5
  have S14 := Sta.start ek14 (Or.inr ⟨(hw _ (List.mem_of_getElem? (i := 6) rfl)), (hw _ (List.mem_of_getElem? (i := 21) rfl))⟩)
  obtain ⟨k15, ek15⟩ := exa_v nc23
  have E15 := Exa.start ek15 nc23
  have Mi15 := own_feq ek15 nc24
  have Mx15 := own_feq ek15 nc31
  have S15 := Sta.start ek15 (Or.inr ⟨(hw _ (List.mem_of_getElem? (i := 6) rfl)), (hw _ (List.mem_of_getElem? (i := 35) rfl))⟩)
  obtain ⟨n, o, h1, h2, h3, _, L, rfl, ⟨rfl, N⟩, hq⟩ := rm0 l s _ hw tables_1 i0 i1 k0 k1 k2 k3 k4 k5 k6 k7 k8 k9 k10 k11 k12 k13 k14 k15 s.heap s.heap.size (Nat.le_refl _) S0 S1 S2 S3 S4 S5 S6 S7 S8 S9 S10 S11 S12 S13 S14 S15 E0 E1 E2 E3 E4 E5 E6 E7 E8 E9 E10 E11 E12 E13 E14 E15 Mi0 Mi1 Mi2 Mi3 Mi4 Mi5 Mi6 Mi7 Mi8 Mi9 Mi10 Mi11 Mi12 Mi13 Mi14 Mi15 Mx0 Mx1 Mx2 Mx3 Mx4 Mx5 Mx6 Mx7 Mx8 Mx9 Mx10 Mx11 Mx12 Mx13 Mx14 Mx15 p e ha hc hk s m _ below hf ((Spec.applies_iff_loose hf).mp happ).1 ⟨rfl, State.Warmed39.refl s, rfl⟩ trivial
  refine ⟨n, _, h1, h2, h3, hpost _ _ _ _ _ _ ⟨Cond.after_iff.mpr rfl, Cond.after_iff.mpr (eq_i res_at (Term.int_eval (1)) rfl)⟩ ⟨hq.1, hq.2.1, (hq.2.2.sift fun y hy => Or.inr (N y hy)).mono (by decide) (by decide)⟩⟩
theorem main_1_1 : Claimed_1_1 := comes_1 fun _ _ _ _ _ _ h hF => ⟨h.1, hF⟩
theorem main_1_2 : Claimed_1_2 := comes_1 fun _ _ _ _ _ _ h hF => ⟨h.2, hF⟩
end Jvm.Pilot.@@N@@
namespace Jvm.Pilot.@@N@@
open Jvm Jvm.ClassFile Sem Op Lib Jvm.Free Jvm.Stand Jvm.Pilot.@@N@@.Jvm.D
/-! MADE BY PROGRAM (witnessworld.py) out of the Statement's table words and the real class files: 12 classes; the members and pool entries that the words name. The judged class is class 1, her method 1. -/
namespace start1
open Jvm.ClassFile
def u (s : String) : CpInfo := .utf8 (stringToUtf16 s)
/-- a pool by its gaps: so many unusable entries, then the entry; so many at the end -/
def gap : Nat → List CpInfo → List CpInfo
  | 0, r => r
  | n + 1, r => .unusable :: gap n r
def poolList (es : List (Nat × CpInfo)) (last : Nat) : List CpInfo := es.foldr (fun e r => gap e.1 (e.2 :: r)) (gap last [])
def pool (es : List (Nat × CpInfo)) (last : Nat) : Array CpInfo := ⟨poolList es last⟩
def fileOf (pool : Array CpInfo) (this : Nat) (attrs : Array Attribute := #[]) (ms : Array MethodInfo := #[]) (fl : Nat := 33) (sup : Nat := 0) (ifs : Array Nat := #[]) (fds : Array FieldInfo := #[]) : ClassFile where
  minorVersion := 0
  majorVersion := 65
  constantPool := pool
  accessFlags := fl
  thisClass := this
  superClass := sup
  interfaces := ifs
  fields := fds
  methods := ms
  attributes := attrs
def plain (name : String) (sup : Option ClassId) : Class where
  name := name
  kind := .ordinary
  loader := none
  accessFlags := 33
  super := sup
  interfaces := #[]
  cf := none
  fields := #[]
  methods := #[]
  instanceTypes := #[]
  staticTypes := #[]
  resolved := #[]
  callSites := []
  init := .initialized
  statics := none
  mirror := none

def pool0 : Array CpInfo := pool [(5, u "<init>"), (0, u "()V"), (1, .class_ 10), (1, u "java/lang/Object")] 113

def k0m0 : Method := { name := "<init>", desc := "()V", sig := { parameters := [], returnType := none }, accessFlags := 1, code := none }
/-- java/lang/Object -/
def k0 : Class := { plain "java/lang/Object" none with
  accessFlags := 33
  interfaces := #[]
  cf := some (fileOf pool0 8 #[] #[{ accessFlags := 1, nameIndex := 5, descriptorIndex := 6, attributes := #[] }] 33 0 #[] #[])
  fields := #[]
  methods := #[k0m0]
  instanceTypes := #[]
  staticTypes := #[]
  resolved := Array.replicate 124 none
  statics := none }

def pool1 : Array CpInfo := pool [(2, .class_ 4), (1, u "java/lang/Object"), (0, u "<init>"), (0, u "()V"), (0, .integer 2147483647), (0, .methodref 9 10), (0, .class_ 11), (0, .nameAndType 12 13), (0, u "com/example/rollcall/rollcall/ApiServesPinLaw"), (0, u "pick"), (0, u "(I)Lcom/example/rollcall/rollcall/Api;"), (0, .methodref 9 15), (0, .nameAndType 16 17), (0, u "maxOf"), (0, u "(I)I"), (0, .methodref 19 20), (0, .class_ 21), (0, .nameAndType 22 23), (0, u "com/example/rollcall/rollcall/Api"), (0, u "serves"), (0, u "(I)Z"), (0, .fieldref 19 25), (0, .nameAndType 26 27), (0, u "FETCH"), (0, u "Lcom/example/rollcall/rollcall/Api;"), (0, .fieldref 19 29), (0, .nameAndType 30 27), (0, u "LIST_OFFSETS"), (0, .fieldref 19 32), (0, .nameAndType 33 27), (0, u "METADATA"), (0, .fieldref 19 35), (0, .nameAndType 36 27), (0, u "OFFSET_COMMIT"), (0, .fieldref 19 38), (0, .nameAndType 39 27), (0, u "OFFSET_FETCH"), (0, .fieldref 19 41), (0, .nameAndType 42 27), (0, u "FIND_COORDINATOR"), (0, .fieldref 19 44), (0, .nameAndType 45 27), (0, u "JOIN_GROUP"), (0, .fieldref 19 47), (0, .nameAndType 48 27), (0, u "HEARTBEAT"), (0, .fieldref 19 50), (0, .nameAndType 51 27), (0, u "LEAVE_GROUP"), (0, .fieldref 19 53), (0, .nameAndType 54 27), (0, u "SYNC_GROUP"), (0, .fieldref 19 56), (0, .nameAndType 57 27), (0, u "DESCRIBE_GROUPS"), (0, .fieldref 19 59), (0, .nameAndType 60 27), (0, u "LIST_GROUPS"), (0, .fieldref 19 62), (0, .nameAndType 63 27), (0, u "API_VERSIONS"), (0, .fieldref 19 65), (0, .nameAndType 66 27), (0, u "CREATE_PARTITIONS"), (0, .fieldref 19 68), (0, .nameAndType 69 27), (0, u "DELETE_GROUPS"), (0, .fieldref 19 71), (0, .nameAndType 72 27), (0, u "JOURNAL_COPY"), (2, u "law"), (0, u "(II)Z")] 3

def k1m0 : Method := { name := "<init>", desc := "()V", sig := { parameters := [], returnType := none }, accessFlags := 2, code := none }
def k1c1 : Code := { maxStack := 2, maxLocals := 5, code := code, exceptionTable := #[], attributes := #[] }
def k1m1 : Method := { name := "law", desc := "(II)Z", sig := { parameters := [.int, .int], returnType := some .boolean }, accessFlags := 9, code := some k1c1 }
def k1c2 : Code := { maxStack := 2, maxLocals := 1, code := method_3_code, exceptionTable := #[], attributes := #[] }
def k1m2 : Method := { name := "pick", desc := "(I)Lcom/example/rollcall/rollcall/Api;", sig := { parameters := [.int], returnType := some (.object "com/example/rollcall/rollcall/Api") }, accessFlags := 10, code := some k1c2 }
def k1c3 : Code := { maxStack := 2, maxLocals := 1, code := method_4_code, exceptionTable := #[], attributes := #[] }
def k1m3 : Method := { name := "maxOf", desc := "(I)I", sig := { parameters := [.int], returnType := some .int }, accessFlags := 10, code := some k1c3 }
/-- com/example/rollcall/rollcall/ApiServesPinLaw -/
def k1 : Class := { plain "com/example/rollcall/rollcall/ApiServesPinLaw" (some 0) with
  accessFlags := 49
  interfaces := #[]
  cf := some (fileOf pool1 9 #[] #[{ accessFlags := 2, nameIndex := 5, descriptorIndex := 6, attributes := #[] }, { accessFlags := 9, nameIndex := 75, descriptorIndex := 76, attributes := #[] }, { accessFlags := 10, nameIndex := 12, descriptorIndex := 13, attributes := #[] }, { accessFlags := 10, nameIndex := 16, descriptorIndex := 17, attributes := #[] }] 49 2 #[] #[])
  fields := #[]
  methods := #[k1m0, k1m1, k1m2, k1m3]
  instanceTypes := #[]
  staticTypes := #[]
  resolved := Array.replicate 80 none
  statics := none }

def pool2 : Array CpInfo := pool [(1, .class_ 2), (0, u "java/lang/constant/Constable"), (0, .class_ 4), (0, u "java/lang/Object")] 6

/-- java/lang/constant/Constable -/
def k2 : Class := { plain "java/lang/constant/Constable" (some 0) with
  accessFlags := 1537
  interfaces := #[]
  cf := some (fileOf pool2 1 #[] #[] 1537 3 #[] #[])
  fields := #[]
  methods := #[]
  instanceTypes := #[]
  staticTypes := #[]
  resolved := Array.replicate 11 none
  statics := none }

def pool3 : Array CpInfo := pool [(1, .class_ 2), (0, u "java/lang/Comparable"), (0, .class_ 4), (0, u "java/lang/Object")] 7

/-- java/lang/Comparable -/
def k3 : Class := { plain "java/lang/Comparable" (some 0) with
  accessFlags := 1537
  interfaces := #[]
  cf := some (fileOf pool3 1 #[] #[] 1537 3 #[] #[])
  fields := #[]
  methods := #[]
  instanceTypes := #[]
  staticTypes := #[]
  resolved := Array.replicate 12 none
  statics := none }

def pool4 : Array CpInfo := pool [(1, .class_ 2), (0, u "java/io/Serializable"), (0, .class_ 4), (0, u "java/lang/Object")] 2

/-- java/io/Serializable -/
def k4 : Class := { plain "java/io/Serializable" (some 0) with
  accessFlags := 1537
  interfaces := #[]
  cf := some (fileOf pool4 1 #[] #[] 1537 3 #[] #[])
  fields := #[]
  methods := #[]
  instanceTypes := #[]
  staticTypes := #[]
  resolved := Array.replicate 7 none
  statics := none }

def pool5 : Array CpInfo := pool [(2, .class_ 4), (1, u "java/lang/Enum"), (0, u "name"), (0, u "Ljava/lang/String;"), (2, u "ordinal"), (0, u "I"), (1, .class_ 14), (1, u "java/lang/Object"), (4, u "hash"), (86, .class_ 108), (1, u "java/lang/Enum$EnumDesc"), (2, .class_ 112), (0, u "java/lang/constant/Constable"), (0, .class_ 114), (0, u "java/lang/Comparable"), (0, .class_ 116), (0, u "java/io/Serializable")] 87

/-- java/lang/Enum -/
def k5 : Class := { plain "java/lang/Enum" (some 0) with
  accessFlags := 1057
  interfaces := #[2, 3, 4]
  cf := some (fileOf pool5 2 #[.nestMembers #[106]] #[] 1057 12 #[111, 113, 115] #[{ accessFlags := 18, nameIndex := 5, descriptorIndex := 6, attributes := #[] }, { accessFlags := 18, nameIndex := 9, descriptorIndex := 10, attributes := #[] }, { accessFlags := 2, nameIndex := 19, descriptorIndex := 10, attributes := #[] }])
  fields := #[{ name := "name", type := (.object "java/lang/String"), accessFlags := 18, slot := 0, constantValue := 0 }, { name := "ordinal", type := .int, accessFlags := 18, slot := 1, constantValue := 0 }, { name := "hash", type := .int, accessFlags := 2, slot := 2, constantValue := 0 }]
  methods := #[]
  instanceTypes := #[(.object "java/lang/String"), .int, .int]
  staticTypes := #[]
  resolved := Array.replicate 204 none
  statics := none }

def pool6 : Array CpInfo := pool [(1, .class_ 2), (0, u "com/example/rollcall/rollcall/Api"), (2, u "FETCH"), (0, u "Lcom/example/rollcall/rollcall/Api;"), (2, u "LIST_OFFSETS"), (2, u "METADATA"), (2, u "OFFSET_COMMIT"), (2, u "OFFSET_FETCH"), (2, u "FIND_COORDINATOR"), (2, u "JOIN_GROUP"), (2, u "HEARTBEAT"), (2, u "LEAVE_GROUP"), (2, u "SYNC_GROUP"), (2, u "DESCRIBE_GROUPS"), (2, u "LIST_GROUPS"), (2, u "API_VERSIONS"), (2, u "CREATE_PARTITIONS"), (2, u "DELETE_GROUPS"), (2, u "JOURNAL_COPY"), (2, u "$VALUES"), (0, u "[Lcom/example/rollcall/rollcall/Api;"), (6, .class_ 64), (1, u "java/lang/Enum"), (8, u "key"), (0, u "I"), (0, .fieldref 1 76), (0, .nameAndType 77 74), (0, u "minVersion"), (0, .fieldref 1 79), (0, .nameAndType 80 74), (0, u "maxVersion"), (2, u "throttleTimeFrom"), (5, u "ALL"), (2, u "OFFERED"), (0, u "Ljava/util/List;"), (61, u "serves"), (0, u "(I)Z")] 27

def k6c0 : Code := { maxStack := 2, maxLocals := 2, code := prog_1_method_7_code, exceptionTable := #[], attributes := #[] }
def k6m0 : Method := { name := "serves", desc := "(I)Z", sig := { parameters := [.int], returnType := some .boolean }, accessFlags := 0, code := some k6c0 }
/-- com/example/rollcall/rollcall/Api -/
def k6 : Class := { plain "com/example/rollcall/rollcall/Api" (some 5) with
  accessFlags := 16432
  interfaces := #[]
  cf := some (fileOf pool6 1 #[] #[{ accessFlags := 0, nameIndex := 155, descriptorIndex := 156, attributes := #[] }] 16432 62 #[] #[{ accessFlags := 16409, nameIndex := 5, descriptorIndex := 6, attributes := #[] }, { accessFlags := 16409, nameIndex := 9, descriptorIndex := 6, attributes := #[] }, { accessFlags := 16409, nameIndex := 12, descriptorIndex := 6, attributes := #[] }, { accessFlags := 16409, nameIndex := 15, descriptorIndex := 6, attributes := #[] }, { accessFlags := 16409, nameIndex := 18, descriptorIndex := 6, attributes := #[] }, { accessFlags := 16409, nameIndex := 21, descriptorIndex := 6, attributes := #[] }, { accessFlags := 16409, nameIndex := 24, descriptorIndex := 6, attributes := #[] }, { accessFlags := 16409, nameIndex := 27, descriptorIndex := 6, attributes := #[] }, { accessFlags := 16409, nameIndex := 30, descriptorIndex := 6, attributes := #[] }, { accessFlags := 16409, nameIndex := 33, descriptorIndex := 6, attributes := #[] }, { accessFlags := 16409, nameIndex := 36, descriptorIndex := 6, attributes := #[] }, { accessFlags := 16409, nameIndex := 39, descriptorIndex := 6, attributes := #[] }, { accessFlags := 16409, nameIndex := 42, descriptorIndex := 6, attributes := #[] }, { accessFlags := 16409, nameIndex := 45, descriptorIndex := 6, attributes := #[] }, { accessFlags := 16409, nameIndex := 48, descriptorIndex := 6, attributes := #[] }, { accessFlags := 16409, nameIndex := 51, descriptorIndex := 6, attributes := #[] }, { accessFlags := 26, nameIndex := 89, descriptorIndex := 55, attributes := #[] }, { accessFlags := 26, nameIndex := 92, descriptorIndex := 93, attributes := #[] }, { accessFlags := 16, nameIndex := 73, descriptorIndex := 74, attributes := #[] }, { accessFlags := 16, nameIndex := 77, descriptorIndex := 74, attributes := #[] }, { accessFlags := 16, nameIndex := 80, descriptorIndex := 74, attributes := #[] }, { accessFlags := 16, nameIndex := 83, descriptorIndex := 74, attributes := #[] }, { accessFlags := 4122, nameIndex := 54, descriptorIndex := 55, attributes := #[] }])
  fields := #[{ name := "FETCH", type := (.object "com/example/rollcall/rollcall/Api"), accessFlags := 16409, slot := 0, constantValue := 0 }, { name := "LIST_OFFSETS", type := (.object "com/example/rollcall/rollcall/Api"), accessFlags := 16409, slot := 1, constantValue := 0 }, { name := "METADATA", type := (.object "com/example/rollcall/rollcall/Api"), accessFlags := 16409, slot := 2, constantValue := 0 }, { name := "OFFSET_COMMIT", type := (.object "com/example/rollcall/rollcall/Api"), accessFlags := 16409, slot := 3, constantValue := 0 }, { name := "OFFSET_FETCH", type := (.object "com/example/rollcall/rollcall/Api"), accessFlags := 16409, slot := 4, constantValue := 0 }, { name := "FIND_COORDINATOR", type := (.object "com/example/rollcall/rollcall/Api"), accessFlags := 16409, slot := 5, constantValue := 0 }, { name := "JOIN_GROUP", type := (.object "com/example/rollcall/rollcall/Api"), accessFlags := 16409, slot := 6, constantValue := 0 }, { name := "HEARTBEAT", type := (.object "com/example/rollcall/rollcall/Api"), accessFlags := 16409, slot := 7, constantValue := 0 }, { name := "LEAVE_GROUP", type := (.object "com/example/rollcall/rollcall/Api"), accessFlags := 16409, slot := 8, constantValue := 0 }, { name := "SYNC_GROUP", type := (.object "com/example/rollcall/rollcall/Api"), accessFlags := 16409, slot := 9, constantValue := 0 }, { name := "DESCRIBE_GROUPS", type := (.object "com/example/rollcall/rollcall/Api"), accessFlags := 16409, slot := 10, constantValue := 0 }, { name := "LIST_GROUPS", type := (.object "com/example/rollcall/rollcall/Api"), accessFlags := 16409, slot := 11, constantValue := 0 }, { name := "API_VERSIONS", type := (.object "com/example/rollcall/rollcall/Api"), accessFlags := 16409, slot := 12, constantValue := 0 }, { name := "CREATE_PARTITIONS", type := (.object "com/example/rollcall/rollcall/Api"), accessFlags := 16409, slot := 13, constantValue := 0 }, { name := "DELETE_GROUPS", type := (.object "com/example/rollcall/rollcall/Api"), accessFlags := 16409, slot := 14, constantValue := 0 }, { name := "JOURNAL_COPY", type := (.object "com/example/rollcall/rollcall/Api"), accessFlags := 16409, slot := 15, constantValue := 0 }, { name := "ALL", type := (.array (.object "com/example/rollcall/rollcall/Api")), accessFlags := 26, slot := 16, constantValue := 0 }, { name := "OFFERED", type := (.object "java/util/List"), accessFlags := 26, slot := 17, constantValue := 0 }, { name := "key", type := .int, accessFlags := 16, slot := 3, constantValue := 0 }, { name := "minVersion", type := .int, accessFlags := 16, slot := 4, constantValue := 0 }, { name := "maxVersion", type := .int, accessFlags := 16, slot := 5, constantValue := 0 }, { name := "throttleTimeFrom", type := .int, accessFlags := 16, slot := 6, constantValue := 0 }, { name := "$VALUES", type := (.array (.object "com/example/rollcall/rollcall/Api")), accessFlags := 4122, slot := 18, constantValue := 0 }]
  methods := #[k6m0]
  instanceTypes := #[(.object "java/lang/String"), .int, .int, .int, .int, .int, .int]
  staticTypes := #[(.object "com/example/rollcall/rollcall/Api"), (.object "com/example/rollcall/rollcall/Api"), (.object "com/example/rollcall/rollcall/Api"), (.object "com/example/rollcall/rollcall/Api"), (.object "com/example/rollcall/rollcall/Api"), (.object "com/example/rollcall/rollcall/Api"), (.object "com/example/rollcall/rollcall/Api"), (.object "com/example/rollcall/rollcall/Api"), (.object "com/example/rollcall/rollcall/Api"), (.object "com/example/rollcall/rollcall/Api"), (.object "com/example/rollcall/rollcall/Api"), (.object "com/example/rollcall/rollcall/Api"), (.object "com/example/rollcall/rollcall/Api"), (.object "com/example/rollcall/rollcall/Api"), (.object "com/example/rollcall/rollcall/Api"), (.object "com/example/rollcall/rollcall/Api"), (.array (.object "com/example/rollcall/rollcall/Api")), (.object "java/util/List"), (.array (.object "com/example/rollcall/rollcall/Api"))]
  resolved := Array.replicate 184 none
  statics := some 0 }

def pool7 : Array CpInfo := pool [(1, u "java/lang/Cloneable"), (0, .class_ 1), (0, u "java/lang/Object"), (0, .class_ 3)] 3

/-- java/lang/Cloneable -/
def k7 : Class := { plain "java/lang/Cloneable" (some 0) with
  accessFlags := 1537
  interfaces := #[]
  cf := some (fileOf pool7 2 #[] #[] 1537 4 #[] #[])
  fields := #[]
  methods := #[]
  instanceTypes := #[]
  staticTypes := #[]
  resolved := Array.replicate 8 none
  statics := none }

/-- the primitive byte -/
def k8 : Class := { plain "byte" none with kind := .primitive 'B', accessFlags := 0x411 }
/-- [B -/
def k9 : Class := { plain "[B" (some 0) with kind := .array 8 .byte, interfaces := #[7, 4], accessFlags := 1041 }

/-- the primitive int -/
def k10 : Class := { plain "int" none with kind := .primitive 'I', accessFlags := 0x411 }
/-- [I -/
def k11 : Class := { plain "[I" (some 0) with kind := .array 10 .int, interfaces := #[7, 4], accessFlags := 1041 }

def heap : Heap := #[{ cls := 6, slots := #[.ref 1, .ref 2, .ref 3, .ref 4, .ref 5, .ref 6, .ref 7, .ref 8, .ref 9, .ref 10, .ref 11, .ref 12, .ref 13, .ref 14, .ref 15, .ref 16, .null, .null, .null], vm := .statics 6 },
  { cls := 6, slots := #[.null, .int 0, .int 0, .int 0, .int 0, .int 4, .int 0], vm := .none },
  { cls := 6, slots := #[.null, .int 1, .int 0, .int 0, .int 0, .int 1, .int 0], vm := .none },
  { cls := 6, slots := #[.null, .int 2, .int 0, .int 0, .int 0, .int 5, .int 0], vm := .none },
  { cls := 6, slots := #[.null, .int 3, .int 0, .int 0, .int 0, .int 7, .int 0], vm := .none },
  { cls := 6, slots := #[.null, .int 4, .int 0, .int 0, .int 0, .int 5, .int 0], vm := .none },
  { cls := 6, slots := #[.null, .int 5, .int 0, .int 0, .int 0, .int 2, .int 0], vm := .none },
  { cls := 6, slots := #[.null, .int 6, .int 0, .int 0, .int 0, .int 5, .int 0], vm := .none },
  { cls := 6, slots := #[.null, .int 7, .int 0, .int 0, .int 0, .int 3, .int 0], vm := .none },
  { cls := 6, slots := #[.null, .int 8, .int 0, .int 0, .int 0, .int 3, .int 0], vm := .none },
  { cls := 6, slots := #[.null, .int 9, .int 0, .int 0, .int 0, .int 3, .int 0], vm := .none },
  { cls := 6, slots := #[.null, .int 10, .int 0, .int 0, .int 0, .int 1, .int 0], vm := .none },
  { cls := 6, slots := #[.null, .int 11, .int 0, .int 0, .int 0, .int 1, .int 0], vm := .none },
  { cls := 6, slots := #[.null, .int 12, .int 0, .int 0, .int 0, .int 2, .int 0], vm := .none },
  { cls := 6, slots := #[.null, .int 13, .int 0, .int 0, .int 0, .int 1, .int 0], vm := .none },
  { cls := 6, slots := #[.null, .int 14, .int 0, .int 0, .int 0, .int 1, .int 0], vm := .none },
  { cls := 6, slots := #[.null, .int 15, .int 0, .int 0, .int 0, .int 0, .int 0], vm := .none }]
def classes : Array Class := #[k0, k1, k2, k3, k4, k5, k6, k7, k8, k9, k10, k11]
def interned : List (Array UInt16 × Addr) := []
def slotsUsed : Nat := 131
def theMethod : MethodId := ⟨1, 1⟩
def args0 : Array Value := #[.int 5, .int 1]
def aboutOver (below : List Frame) : State where
  vm := { classes := classes, interned := interned.toArray }
  heap := heap
  slotsUsed := slotsUsed
  threads := #[{ frames := .invoking theMethod args0 :: below }]
def below0 : List Frame := [.native { method := ⟨0, 0⟩, args := #[] }]
def about1 : State := aboutOver below0
def p0 : Program := .bare "" "" ""
def e0 : Env := launch0.env 0 0 0
theorem w_frames : about1.frames = Frame.invoking theMethod args0 :: below0 := rfl
set_option maxRecDepth 65536 in
theorem w_args : argsFit about1.vm theMethod args0 = true := by decide +kernel
set_option maxRecDepth 65536 in
theorem w_heap : heapFits about1 = true := by decide +kernel
set_option maxRecDepth 65536 in
theorem w_runnable : about1.curStatus? = some .runnable := by decide +kernel
set_option maxRecDepth 65536 in
theorem w_alone : about1.alone = true := by decide +kernel
set_option maxRecDepth 65536 in
theorem w_named : about1.methodNamed? x = some theMethod := by decide +kernel
set_option maxRecDepth 65536 in
theorem w_hears : about1.hears theMethod below0 = true := by decide +kernel
set_option maxRecDepth 65536 in
theorem w_ripe : about1.ripe theMethod args0 below0 = true := by decide +kernel
theorem w_running : about1.status = .running := rfl
set_option maxRecDepth 65536 in
theorem w_room : about1.hasRoom e0.platform room_1 = true :=
  launch0.hasRoom_least _ room_1 (by decide +kernel) (by decide +kernel) (by decide +kernel) (by decide +kernel) (by decide +kernel) (by decide +kernel)
theorem allAtoms_all (ts : List Jvm.Cond) (a : Array Jvm.Value) (st : Jvm.State) : (allAtoms ts).before a st = ts.all (fun c => c.before a st) := by
  induction ts with
  | nil => rfl
  | cons c t ih =>
    show (Jvm.Cond.and c (allAtoms t)).before a st = _
    rw [Jvm.Cond.before_and, ih, List.all_cons]
def words1 : List Jvm.Cond := Jvm.Cond.code x code maxLocals ret :: tables_1
/-- a 'code' word, met by the world's own term for the bytes: nothing is compared byte by byte -/
theorem code_word {y : MethodName} {bytes : ByteArray} {mx : Nat} {rt : Option FieldType} {a : Array Value} {s : State} {m : MethodId} {meth : Method} {c : Code} (h1 : s.methodNamed? y = some m) (h2 : s.vm.method? m = some meth) (h3 : meth.code = some c) (h4 : c.code = bytes)
    (h5 : (c.maxLocals == mx && c.exceptionTable.isEmpty && decide (c.maxStack ≤ mostOperands) && decide (meth.sig.returnType = rt) && !meth.locks && decide (parseMethodDescriptor y.desc = some meth.sig)) = true) : (Jvm.Cond.code y bytes mx rt).before a s = true := by
  simp only [Bool.and_eq_true, beq_iff_eq, Bool.not_eq_true', decide_eq_true_eq] at h5
  obtain ⟨⟨⟨⟨⟨g1, g2⟩, g3⟩, g4⟩, g5⟩, g6⟩ := h5
  simp [Cond.before, Cond.holds, Cond.value, h1, h2, h3, h4, g1, g2, g3, g4, g5, g6]
def isCode : Jvm.Cond → Bool
  | .code _ _ _ _ => true
  | _ => false
theorem all_split {L : List Jvm.Cond} {P : Jvm.Cond → Bool} (h1 : L.all (fun c => isCode c || P c) = true) (h2 : ∀ c ∈ L.filter isCode, P c = true) : L.all P = true := by
  refine List.all_eq_true.mpr fun c hc => ?_
  have h := List.all_eq_true.mp h1 c hc
  rcases Bool.eq_false_or_eq_true (isCode c) with hi | hi
  · exact h2 c (List.mem_filter.mpr ⟨hc, hi⟩)
  · simpa [hi] using h
set_option maxRecDepth 65536 in
theorem w_c0 : (Jvm.Cond.code x code maxLocals ret).before args0 about1 = true := code_word (m := ⟨1, 1⟩) (meth := k1m1) (c := k1c1) (by decide +kernel) rfl rfl rfl (by decide +kernel)
set_option maxRecDepth 65536 in
theorem w_c1 : (Jvm.Cond.code ({ cls := "com/example/rollcall/rollcall/ApiServesPinLaw", name := "pick", desc := "(I)Lcom/example/rollcall/rollcall/Api;" } : Jvm.MethodName) method_3_code (1 : Nat) (Option.some (Jvm.ClassFile.FieldType.object "com/example/rollcall/rollcall/Api"))).before args0 about1 = true := code_word (m := ⟨1, 2⟩) (meth := k1m2) (c := k1c2) (by decide +kernel) rfl rfl rfl (by decide +kernel)
set_option maxRecDepth 65536 in
theorem w_c2 : (Jvm.Cond.code ({ cls := "com/example/rollcall/rollcall/ApiServesPinLaw", name := "maxOf", desc := "(I)I" } : Jvm.MethodName) method_4_code (1 : Nat) (Option.some Jvm.ClassFile.FieldType.int)).before args0 about1 = true := code_word (m := ⟨1, 3⟩) (meth := k1m3) (c := k1c3) (by decide +kernel) rfl rfl rfl (by decide +kernel)
set_option maxRecDepth 65536 in
theorem w_c3 : (Jvm.Cond.code ({ cls := "com/example/rollcall/rollcall/Api", name := "serves", desc := "(I)Z" } : Jvm.MethodName) prog_1_method_7_code (2 : Nat) (Option.some Jvm.ClassFile.FieldType.boolean)).before args0 about1 = true := code_word (m := ⟨6, 0⟩) (meth := k6m0) (c := k6c0) (by decide +kernel) rfl rfl rfl (by decide +kernel)
def codes1 : List Jvm.Cond := [Jvm.Cond.code x code maxLocals ret, Jvm.Cond.code ({ cls := "com/example/rollcall/rollcall/ApiServesPinLaw", name := "pick", desc := "(I)Lcom/example/rollcall/rollcall/Api;" } : Jvm.MethodName) method_3_code (1 : Nat) (Option.some (Jvm.ClassFile.FieldType.object "com/example/rollcall/rollcall/Api")), Jvm.Cond.code ({ cls := "com/example/rollcall/rollcall/ApiServesPinLaw", name := "maxOf", desc := "(I)I" } : Jvm.MethodName) method_4_code (1 : Nat) (Option.some Jvm.ClassFile.FieldType.int), Jvm.Cond.code ({ cls := "com/example/rollcall/rollcall/Api", name := "serves", desc := "(I)Z" } : Jvm.MethodName) prog_1_method_7_code (2 : Nat) (Option.some Jvm.ClassFile.FieldType.boolean)]
set_option maxRecDepth 65536 in
theorem codes_eq : words1.filter isCode = codes1 := rfl
theorem w_codes : ∀ c ∈ words1.filter isCode, c.before args0 about1 = true := by
  rw [codes_eq]
  intro c hc
  simp only [codes1, List.mem_cons, List.not_mem_nil, or_false] at hc
  rcases hc with rfl | rfl | rfl | rfl
  · exact w_c0
  · exact w_c1
  · exact w_c2
  · exact w_c3
set_option maxRecDepth 65536 in
theorem w_t1 : (words1.take 24).all (fun c => isCode c || c.before args0 about1) = true := by decide +kernel
set_option maxRecDepth 65536 in
theorem w_t2 : ((words1.drop 24).take 24).all (fun c => isCode c || c.before args0 about1) = true := by decide +kernel
set_option maxRecDepth 65536 in
theorem w_t3 : ((words1.drop 24).drop 24).all (fun c => isCode c || c.before args0 about1) = true := by decide +kernel
theorem w_tables : (allAtoms (Jvm.Cond.code x code maxLocals ret :: tables_1)).before args0 about1 = true := by
  rw [allAtoms_all]
  show words1.all (fun c => c.before args0 about1) = true
  refine all_split ?_ w_codes
  rw [← List.take_append_drop 24 words1, List.all_append, w_t1, ← List.take_append_drop 24 (words1.drop 24), List.all_append, w_t2, w_t3]
  rfl
set_option maxRecDepth 65536 in
theorem w_case : (Jvm.Cond.and given_1 narrow_1).before args0 about1 = true := by decide +kernel
theorem w_applies : (headSpec (Jvm.Cond.code x code maxLocals ret :: tables_1) room_1).applies x e0.platform about1 = true :=
  (Spec.applies_iff w_frames).mpr ⟨w_running, w_runnable, w_alone, w_named, w_hears, w_ripe, w_room, w_tables⟩
theorem atStart : AtStart classFile x code maxLocals ret World_1 tables_1 room_1 Calls_1 rest_1 Pre_1 launch0 p0 e0 about1 theMethod args0 below0 :=
  ⟨lists_1, trivial, launch0.admits_env _ _ _, launch0.least_env, fairChoices_fair.cas, fairChoices_fair.clock, w_frames, w_args, w_heap, w_applies, trivial, trivial, w_case⟩
end start1
theorem witness_1 : WitnessClaimed_1 := ⟨start1.p0, start1.e0, start1.about1, start1.theMethod, start1.args0, start1.below0, start1.atStart⟩
end Jvm.Pilot.@@N@@
