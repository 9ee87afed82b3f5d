import JvmDerived
import JvmDerived.Pilot.@@N@@Statement
import JvmDerived.Pilot.@@N@@Code
set_option linter.unusedVariables false
set_option linter.unusedSimpArgs false
namespace Jvm.Pilot.@@N@@
open Jvm Jvm.ClassFile Sem Op Lib Jvm.Free Jvm.Stand Jvm.LawKit Jvm.RoadKit Bundle Jvm.Pilot.@@N@@.Jvm.D
section Own
variable {p : Program} {l : Launch} {e : Env} {R : Room} {s : State} {m : MethodId} {args : Array Value} {below : List Frame} {meth : Method} {c : Code} {T : State} {locs : List Loc} {cells slots : Nat} {Q : Option Value → Heap → List Loc → Prop} {rc rs : Nat} {G : Outcome → State → Prop} {Ls : Array Slot} {st : List Value} {Z : State} {a0 : Array Value} {h : Heap} {pc : Nat}
/-- what is left of a body's walk: from U it comes to its end, of which G holds -/
def OwnW (p : Program) (e : Env) (below : List Frame) (G : Outcome → State → Prop) (U : State) : Prop :=
  ∃ s₂ o, Steps p.tables e below U s₂ ∧ s₂.status = .running ∧ Ended s₂ below o ∧ G o s₂
/-- it returned, Q holds of what it returned, the heap and the written places; the frame -/
def OwnG (s : State) (Q : Option Value → Heap → List Loc → Prop) (rc rs : Nat) (o : Outcome) (t : State) : Prop := ∃ v L, o = .returned v ∧ Q v t.heap L ∧ FrameEnd s o t L rc rs
theorem OwnW.go {U V : State} (k : OwnW p e below G V) (st : ∀ t, Steps p.tables e below V t → Steps p.tables e below U t) : OwnW p e below G U := by
  obtain ⟨s₂, o, h1, h2⟩ := k
  exact ⟨s₂, o, st _ h1, h2⟩
theorem OwnW.tr {U V : State} (k : OwnW p e below G V) (st : Steps p.tables e below U V) : OwnW p e below G U := k.go fun _ h => st.trans h
theorem own_aload (X : Stand p l e R s m args below meth c T locs cells slots) (hx : p.tables.exec = Jvm.exec) {k : Nat} {v : Value} (hd : decode c.code pc = .ok (.aload k, 2)) (hl : Ls[k]? = some (.val v)) (hv : v.isRef = true) (pc' : Nat) (hp : pc + 2 = pc')
    (K : OwnW p e below G (T.setTop (mkF m pc' Ls (v :: st)))) : OwnW p e below G (T.setTop (mkF m pc Ls st)) := by
  subst hp; exact K.go fun _ k => XS.aload X.here hx rfl hd hl hv k
theorem own_aloadN (X : Stand p l e R s m args below meth c T locs cells slots) (hx : p.tables.exec = Jvm.exec) {k : Fin 4} {v : Value} (hd : decode c.code pc = .ok (.aload_n k, 1)) (hl : Ls[k.val]? = some (.val v)) (hv : v.isRef = true) (pc' : Nat) (hp : pc + 1 = pc')
    (K : OwnW p e below G (T.setTop (mkF m pc' Ls (v :: st)))) : OwnW p e below G (T.setTop (mkF m pc Ls st)) := by
  subst hp; exact K.go fun _ k => XS.aloadN X.here hx rfl hd hl hv k
theorem own_iload (X : Stand p l e R s m args below meth c T locs cells slots) (hx : p.tables.exec = Jvm.exec) {k : Nat} {v : Int32} (hd : decode c.code pc = .ok (.iload k, 2)) (hl : Ls[k]? = some (.val (.int v))) (pc' : Nat) (hp : pc + 2 = pc')
    (K : OwnW p e below G (T.setTop (mkF m pc' Ls (.int v :: st)))) : OwnW p e below G (T.setTop (mkF m pc Ls st)) := by
  subst hp; exact K.go fun _ k => XS.iload X.here hx rfl hd hl k
theorem own_iloadN (X : Stand p l e R s m args below meth c T locs cells slots) (hx : p.tables.exec = Jvm.exec) {k : Fin 4} {v : Int32} (hd : decode c.code pc = .ok (.iload_n k, 1)) (hl : Ls[k.val]? = some (.val (.int v))) (pc' : Nat) (hp : pc + 1 = pc')
    (K : OwnW p e below G (T.setTop (mkF m pc' Ls (.int v :: st)))) : OwnW p e below G (T.setTop (mkF m pc Ls st)) := by
  subst hp; exact K.go fun _ k => XS.iloadN X.here hx rfl hd hl k
theorem own_lload (X : Stand p l e R s m args below meth c T locs cells slots) (hx : p.tables.exec = Jvm.exec) {k : Nat} {v : Int64} (hd : decode c.code pc = .ok (.lload k, 2)) (hl : Ls[k]? = some (.val (.long v))) (pc' : Nat) (hp : pc + 2 = pc')
    (K : OwnW p e below G (T.setTop (mkF m pc' Ls (.long v :: st)))) : OwnW p e below G (T.setTop (mkF m pc Ls st)) := by
  subst hp; exact K.go fun _ k => XS.lload X.here hx rfl hd hl k
theorem own_lloadN (X : Stand p l e R s m args below meth c T locs cells slots) (hx : p.tables.exec = Jvm.exec) {k : Fin 4} {v : Int64} (hd : decode c.code pc = .ok (.lload_n k, 1)) (hl : Ls[k.val]? = some (.val (.long v))) (pc' : Nat) (hp : pc + 1 = pc')
    (K : OwnW p e below G (T.setTop (mkF m pc' Ls (.long v :: st)))) : OwnW p e below G (T.setTop (mkF m pc Ls st)) := by
  subst hp; exact K.go fun _ k => XS.lloadN X.here hx rfl hd hl k
theorem own_istore (X : Stand p l e R s m args below meth c T locs cells slots) (hx : p.tables.exec = Jvm.exec) {k : Nat} {x : Int32} (hd : decode c.code pc = .ok (.istore k, 2)) (Ls' : Array Slot) (hl : storeLocals Ls k (.int x) = some Ls') (pc' : Nat) (hp : pc + 2 = pc')
    (K : OwnW p e below G (T.setTop (mkF m pc' Ls' st))) : OwnW p e below G (T.setTop (mkF m pc Ls (.int x :: st))) := by
  subst hp; exact K.go fun _ k => XS.istore X.here hx rfl hd rfl hl k
theorem own_istoreN (X : Stand p l e R s m args below meth c T locs cells slots) (hx : p.tables.exec = Jvm.exec) {k : Fin 4} {x : Int32} (hd : decode c.code pc = .ok (.istore_n k, 1)) (Ls' : Array Slot) (hl : storeLocals Ls k.val (.int x) = some Ls') (pc' : Nat) (hp : pc + 1 = pc')
    (K : OwnW p e below G (T.setTop (mkF m pc' Ls' st))) : OwnW p e below G (T.setTop (mkF m pc Ls (.int x :: st))) := by
  subst hp; exact K.go fun _ k => XS.istoreN X.here hx rfl hd rfl hl k
theorem own_lstore (X : Stand p l e R s m args below meth c T locs cells slots) (hx : p.tables.exec = Jvm.exec) {k : Nat} {x : Int64} (hd : decode c.code pc = .ok (.lstore k, 2)) (Ls' : Array Slot) (hl : storeLocals Ls k (.long x) = some Ls') (pc' : Nat) (hp : pc + 2 = pc')
    (K : OwnW p e below G (T.setTop (mkF m pc' Ls' st))) : OwnW p e below G (T.setTop (mkF m pc Ls (.long x :: st))) := by
  subst hp; exact K.go fun _ k => XS.lstore X.here hx rfl hd rfl hl k
theorem own_lstoreN (X : Stand p l e R s m args below meth c T locs cells slots) (hx : p.tables.exec = Jvm.exec) {k : Fin 4} {x : Int64} (hd : decode c.code pc = .ok (.lstore_n k, 1)) (Ls' : Array Slot) (hl : storeLocals Ls k.val (.long x) = some Ls') (pc' : Nat) (hp : pc + 1 = pc')
    (K : OwnW p e below G (T.setTop (mkF m pc' Ls' st))) : OwnW p e below G (T.setTop (mkF m pc Ls (.long x :: st))) := by
  subst hp; exact K.go fun _ k => XS.lstoreN X.here hx rfl hd rfl hl k
theorem own_astore (X : Stand p l e R s m args below meth c T locs cells slots) (hx : p.tables.exec = Jvm.exec) {k : Nat} {x : Value} (hd : decode c.code pc = .ok (.astore k, 2)) (hv : x.isRef = true) (Ls' : Array Slot) (hl : storeLocals Ls k x = some Ls') (pc' : Nat) (hp : pc + 2 = pc')
    (K : OwnW p e below G (T.setTop (mkF m pc' Ls' st))) : OwnW p e below G (T.setTop (mkF m pc Ls (x :: st))) := by
  subst hp; exact K.go fun _ k => XS.astore X.here hx rfl hd rfl hv hl k
theorem own_astoreN (X : Stand p l e R s m args below meth c T locs cells slots) (hx : p.tables.exec = Jvm.exec) {k : Fin 4} {x : Value} (hd : decode c.code pc = .ok (.astore_n k, 1)) (hv : x.isRef = true) (Ls' : Array Slot) (hl : storeLocals Ls k.val x = some Ls') (pc' : Nat) (hp : pc + 1 = pc')
    (K : OwnW p e below G (T.setTop (mkF m pc' Ls' st))) : OwnW p e below G (T.setTop (mkF m pc Ls (x :: st))) := by
  subst hp; exact K.go fun _ k => XS.astoreN X.here hx rfl hd rfl hv hl k
theorem own_iinc (X : Stand p l e R s m args below meth c T locs cells slots) (hx : p.tables.exec = Jvm.exec) {k : Nat} {cst : Int} {x : Int32} (hd : decode c.code pc = .ok (.iinc k cst, 3)) (hl : Ls[k]? = some (.val (.int x))) (Ls' : Array Slot) (hl' : storeLocals Ls k (.int (x + Int32.ofInt cst)) = some Ls') (pc' : Nat) (hp : pc + 3 = pc')
    (K : OwnW p e below G (T.setTop (mkF m pc' Ls' st))) : OwnW p e below G (T.setTop (mkF m pc Ls st)) := by
  subst hp; exact K.go fun _ k => XS.iinc X.here hx rfl hd hl hl' k
theorem own_iconst (X : Stand p l e R s m args below meth c T locs cells slots) (hx : p.tables.exec = Jvm.exec) {i : Int} (hd : decode c.code pc = .ok (.iconst i, 1)) (v : Int32) (hv : Int32.ofInt i = v) (pc' : Nat) (hp : pc + 1 = pc')
    (K : OwnW p e below G (T.setTop (mkF m pc' Ls (.int v :: st)))) : OwnW p e below G (T.setTop (mkF m pc Ls st)) := by
  subst hp hv; exact K.go fun _ k => XS.iconst X.here hx rfl hd k
theorem own_bipush (X : Stand p l e R s m args below meth c T locs cells slots) (hx : p.tables.exec = Jvm.exec) {i : Int} (hd : decode c.code pc = .ok (.bipush i, 2)) (v : Int32) (hv : (Int8.ofInt i).toInt32 = v) (pc' : Nat) (hp : pc + 2 = pc')
    (K : OwnW p e below G (T.setTop (mkF m pc' Ls (.int v :: st)))) : OwnW p e below G (T.setTop (mkF m pc Ls st)) := by
  subst hp hv; exact K.go fun _ k => XS.bipush X.here hx rfl hd k
theorem own_sipush (X : Stand p l e R s m args below meth c T locs cells slots) (hx : p.tables.exec = Jvm.exec) {i : Int} (hd : decode c.code pc = .ok (.sipush i, 3)) (v : Int32) (hv : (Int16.ofInt i).toInt32 = v) (pc' : Nat) (hp : pc + 3 = pc')
    (K : OwnW p e below G (T.setTop (mkF m pc' Ls (.int v :: st)))) : OwnW p e below G (T.setTop (mkF m pc Ls st)) := by
  subst hp hv; exact K.go fun _ k => XS.sipush X.here hx rfl hd k
theorem own_lconst0 (X : Stand p l e R s m args below meth c T locs cells slots) (hx : p.tables.exec = Jvm.exec) (hd : decode c.code pc = .ok (.lconst 0, 1)) (pc' : Nat) (hp : pc + 1 = pc')
    (K : OwnW p e below G (T.setTop (mkF m pc' Ls (.long (0 : Int64) :: st)))) : OwnW p e below G (T.setTop (mkF m pc Ls st)) := by
  subst hp; exact K.go fun _ k => XS.lconst X.here hx rfl hd k
theorem own_lconst1 (X : Stand p l e R s m args below meth c T locs cells slots) (hx : p.tables.exec = Jvm.exec) (hd : decode c.code pc = .ok (.lconst 1, 1)) (pc' : Nat) (hp : pc + 1 = pc')
    (K : OwnW p e below G (T.setTop (mkF m pc' Ls (.long (1 : Int64) :: st)))) : OwnW p e below G (T.setTop (mkF m pc Ls st)) := by
  subst hp; exact K.go fun _ k => XS.lconst X.here hx rfl hd k
theorem own_null (X : Stand p l e R s m args below meth c T locs cells slots) (hx : p.tables.exec = Jvm.exec) (hd : decode c.code pc = .ok (.aconst_null, 1)) (pc' : Nat) (hp : pc + 1 = pc')
    (K : OwnW p e below G (T.setTop (mkF m pc' Ls (.null :: st)))) : OwnW p e below G (T.setTop (mkF m pc Ls st)) := by
  subst hp; exact K.go fun _ k => XS.aconstNull X.here hx rfl hd k
theorem own_ldcI (X : Stand p l e R s m args below meth c T locs cells slots) (hx : p.tables.exec = Jvm.exec) (hZ : Z.Warmed39 s.vm) {own : String} {index : Nat} {v : Int32} (hown : s.vm.findClass own = some m.cls) (w : (Cond.constant own index v).before a0 Z = true) (hd : decode c.code pc = .ok (.ldc index, 2)) (pc' : Nat) (hp : pc + 2 = pc')
    (K : OwnW p e below G (T.setTop (mkF m pc' Ls (.int v :: st)))) : OwnW p e below G (T.setTop (mkF m pc Ls st)) := by
  subst hp; exact K.go (X.ldcInt hx hown (mvT hZ w) (g := mkF m pc Ls st) rfl hd)
theorem own_ldcJ (X : Stand p l e R s m args below meth c T locs cells slots) (hx : p.tables.exec = Jvm.exec) (hZ : Z.Warmed39 s.vm) {own : String} {index : Nat} {v : Int64} (hown : s.vm.findClass own = some m.cls) (w : (Cond.constantLong own index v).before a0 Z = true) (hd : decode c.code pc = .ok (.ldc2_w index, 3)) (pc' : Nat) (hp : pc + 3 = pc')
    (K : OwnW p e below G (T.setTop (mkF m pc' Ls (.long v :: st)))) : OwnW p e below G (T.setTop (mkF m pc Ls st)) := by
  subst hp; exact K.go (X.ldc2Long hx hown (mvT hZ w) (g := mkF m pc Ls st) rfl hd)
theorem own_irem (X : Stand p l e R s m args below meth c T locs cells slots) (hx : p.tables.exec = Jvm.exec) {x y : Int32} (hd : decode c.code pc = .ok (.irem, 1)) (hy : y ≠ 0) (pc' : Nat) (hp : pc + 1 = pc')
    (K : OwnW p e below G (T.setTop (mkF m pc' Ls (.int (x % y) :: st)))) : OwnW p e below G (T.setTop (mkF m pc Ls (.int y :: .int x :: st))) := by
  subst hp; exact K.go fun _ k => iremM X hx rfl hd rfl hy k
theorem own_iadd (X : Stand p l e R s m args below meth c T locs cells slots) (hx : p.tables.exec = Jvm.exec) {x y : Int32} (hd : decode c.code pc = .ok (.iadd, 1)) (pc' : Nat) (hp : pc + 1 = pc')
    (K : OwnW p e below G (T.setTop (mkF m pc' Ls (.int (x + y) :: st)))) : OwnW p e below G (T.setTop (mkF m pc Ls (.int y :: .int x :: st))) := by
  subst hp; exact K.go fun _ k => XS.iadd X.here hx rfl hd rfl k
theorem own_isub (X : Stand p l e R s m args below meth c T locs cells slots) (hx : p.tables.exec = Jvm.exec) {x y : Int32} (hd : decode c.code pc = .ok (.isub, 1)) (pc' : Nat) (hp : pc + 1 = pc')
    (K : OwnW p e below G (T.setTop (mkF m pc' Ls (.int (x - y) :: st)))) : OwnW p e below G (T.setTop (mkF m pc Ls (.int y :: .int x :: st))) := by
  subst hp; exact K.go fun _ k => XS.isub X.here hx rfl hd rfl k
theorem own_imul (X : Stand p l e R s m args below meth c T locs cells slots) (hx : p.tables.exec = Jvm.exec) {x y : Int32} (hd : decode c.code pc = .ok (.imul, 1)) (pc' : Nat) (hp : pc + 1 = pc')
    (K : OwnW p e below G (T.setTop (mkF m pc' Ls (.int (x * y) :: st)))) : OwnW p e below G (T.setTop (mkF m pc Ls (.int y :: .int x :: st))) := by
  subst hp; exact K.go fun _ k => XS.imul X.here hx rfl hd rfl k
theorem own_iand (X : Stand p l e R s m args below meth c T locs cells slots) (hx : p.tables.exec = Jvm.exec) {x y : Int32} (hd : decode c.code pc = .ok (.iand, 1)) (pc' : Nat) (hp : pc + 1 = pc')
    (K : OwnW p e below G (T.setTop (mkF m pc' Ls (.int (x &&& y) :: st)))) : OwnW p e below G (T.setTop (mkF m pc Ls (.int y :: .int x :: st))) := by
  subst hp; exact K.go fun _ k => XS.iand X.here hx rfl hd rfl k
theorem own_ior (X : Stand p l e R s m args below meth c T locs cells slots) (hx : p.tables.exec = Jvm.exec) {x y : Int32} (hd : decode c.code pc = .ok (.ior, 1)) (pc' : Nat) (hp : pc + 1 = pc')
    (K : OwnW p e below G (T.setTop (mkF m pc' Ls (.int (x ||| y) :: st)))) : OwnW p e below G (T.setTop (mkF m pc Ls (.int y :: .int x :: st))) := by
  subst hp; exact K.go fun _ k => XS.ior X.here hx rfl hd rfl k
theorem own_ixor (X : Stand p l e R s m args below meth c T locs cells slots) (hx : p.tables.exec = Jvm.exec) {x y : Int32} (hd : decode c.code pc = .ok (.ixor, 1)) (pc' : Nat) (hp : pc + 1 = pc')
    (K : OwnW p e below G (T.setTop (mkF m pc' Ls (.int (x ^^^ y) :: st)))) : OwnW p e below G (T.setTop (mkF m pc Ls (.int y :: .int x :: st))) := by
  subst hp; exact K.go fun _ k => XS.ixor X.here hx rfl hd rfl k
theorem own_ladd (X : Stand p l e R s m args below meth c T locs cells slots) (hx : p.tables.exec = Jvm.exec) {x y : Int64} (hd : decode c.code pc = .ok (.ladd, 1)) (pc' : Nat) (hp : pc + 1 = pc')
    (K : OwnW p e below G (T.setTop (mkF m pc' Ls (.long (x + y) :: st)))) : OwnW p e below G (T.setTop (mkF m pc Ls (.long y :: .long x :: st))) := by
  subst hp; exact K.go fun _ k => XS.ladd X.here hx rfl hd rfl k
theorem own_lsub (X : Stand p l e R s m args below meth c T locs cells slots) (hx : p.tables.exec = Jvm.exec) {x y : Int64} (hd : decode c.code pc = .ok (.lsub, 1)) (pc' : Nat) (hp : pc + 1 = pc')
    (K : OwnW p e below G (T.setTop (mkF m pc' Ls (.long (x - y) :: st)))) : OwnW p e below G (T.setTop (mkF m pc Ls (.long y :: .long x :: st))) := by
  subst hp; exact K.go fun _ k => XS.lsub X.here hx rfl hd rfl k
theorem own_lmul (X : Stand p l e R s m args below meth c T locs cells slots) (hx : p.tables.exec = Jvm.exec) {x y : Int64} (hd : decode c.code pc = .ok (.lmul, 1)) (pc' : Nat) (hp : pc + 1 = pc')
    (K : OwnW p e below G (T.setTop (mkF m pc' Ls (.long (x * y) :: st)))) : OwnW p e below G (T.setTop (mkF m pc Ls (.long y :: .long x :: st))) := by
  subst hp; exact K.go fun _ k => XS.lmul X.here hx rfl hd rfl k
theorem own_iushr (X : Stand p l e R s m args below meth c T locs cells slots) (hx : p.tables.exec = Jvm.exec) {x y : Int32} (hd : decode c.code pc = .ok (.iushr, 1)) (pc' : Nat) (hp : pc + 1 = pc')
    (K : OwnW p e below G (T.setTop (mkF m pc' Ls (.int ((x.toUInt32 >>> (y &&& 31).toUInt32).toInt32) :: st)))) : OwnW p e below G (T.setTop (mkF m pc Ls (.int y :: .int x :: st))) := by
  subst hp; exact K.go fun _ k => XS.iushr X.here hx rfl hd rfl k
theorem own_i2l (X : Stand p l e R s m args below meth c T locs cells slots) (hx : p.tables.exec = Jvm.exec) {x : Int32} (hd : decode c.code pc = .ok (.i2l, 1)) (pc' : Nat) (hp : pc + 1 = pc')
    (K : OwnW p e below G (T.setTop (mkF m pc' Ls (.long x.toInt64 :: st)))) : OwnW p e below G (T.setTop (mkF m pc Ls (.int x :: st))) := by
  subst hp; exact K.go fun _ k => XS.i2l X.here hx rfl hd rfl k
theorem own_l2i (X : Stand p l e R s m args below meth c T locs cells slots) (hx : p.tables.exec = Jvm.exec) {x : Int64} (hd : decode c.code pc = .ok (.l2i, 1)) (pc' : Nat) (hp : pc + 1 = pc')
    (K : OwnW p e below G (T.setTop (mkF m pc' Ls (.int x.toInt32 :: st)))) : OwnW p e below G (T.setTop (mkF m pc Ls (.long x :: st))) := by
  subst hp; exact K.go fun _ k => XS.l2i X.here hx rfl hd rfl k
theorem own_lcmp (X : Stand p l e R s m args below meth c T locs cells slots) (hx : p.tables.exec = Jvm.exec) {x y : Int64} (hd : decode c.code pc = .ok (.lcmp, 1)) (pc' : Nat) (hp : pc + 1 = pc')
    (K : OwnW p e below G (T.setTop (mkF m pc' Ls (.int (lcmpW x y) :: st)))) : OwnW p e below G (T.setTop (mkF m pc Ls (.long y :: .long x :: st))) := by
  subst hp; exact K.go fun _ k => XS.lcmp X.here hx rfl hd rfl k
theorem own_dup (X : Stand p l e R s m args below meth c T locs cells slots) (hx : p.tables.exec = Jvm.exec) {x : Value} (hd : decode c.code pc = .ok (.dup, 1)) (hc : x.category = 1) (pc' : Nat) (hp : pc + 1 = pc')
    (K : OwnW p e below G (T.setTop (mkF m pc' Ls (x :: x :: st)))) : OwnW p e below G (T.setTop (mkF m pc Ls (x :: st))) := by
  subst hp; exact K.go fun _ k => XS.dup X.here hx rfl hd rfl hc k
theorem own_dup2 (X : Stand p l e R s m args below meth c T locs cells slots) (hx : p.tables.exec = Jvm.exec) {x y : Value} (hd : decode c.code pc = .ok (.dup2, 1)) (hc : x.category = 1) (hc' : y.category = 1) (pc' : Nat) (hp : pc + 1 = pc')
    (K : OwnW p e below G (T.setTop (mkF m pc' Ls (x :: y :: x :: y :: st)))) : OwnW p e below G (T.setTop (mkF m pc Ls (x :: y :: st))) := by
  subst hp; exact K.go fun _ k => XT.dup2 X.here hx rfl hd rfl hc hc' k
theorem own_pop (X : Stand p l e R s m args below meth c T locs cells slots) (hx : p.tables.exec = Jvm.exec) {x : Value} (hd : decode c.code pc = .ok (.pop, 1)) (hc : x.category = 1) (pc' : Nat) (hp : pc + 1 = pc')
    (K : OwnW p e below G (T.setTop (mkF m pc' Ls st))) : OwnW p e below G (T.setTop (mkF m pc Ls (x :: st))) := by
  subst hp; exact K.go fun _ k => XS.pop X.here hx rfl hd rfl hc k
theorem own_goto (X : Stand p l e R s m args below meth c T locs cells slots) (hx : p.tables.exec = Jvm.exec) {o : Int} (hd : decode c.code pc = .ok (.goto o, 3)) (pc' : Nat) (hp : (pc : Int) + o = (pc' : Nat))
    (K : OwnW p e below G (T.setTop (mkF m pc' Ls st))) : OwnW p e below G (T.setTop (mkF m pc Ls st)) := by
  exact K.go fun _ k => XS.goto X.here hx rfl (pc0 := pc) (pc' := pc') rfl hd (by omega) (by omega) k
theorem own_ifY (X : Stand p l e R s m args below meth c T locs cells slots) (hx : p.tables.exec = Jvm.exec) {cd : ClassFile.Cond} {x : Int32} {o : Int} (hd : decode c.code pc = .ok (.ifCond cd o, 3)) (hc : if_icmp.holds cd x 0 = true) (pc' : Nat) (hp : (pc : Int) + o = (pc' : Nat))
    (K : OwnW p e below G (T.setTop (mkF m pc' Ls st))) : OwnW p e below G (T.setTop (mkF m pc Ls (.int x :: st))) := by
  exact K.go fun _ k => XS.ifYes X.here hx rfl (pc0 := pc) (pc' := pc') rfl hd rfl ((if0 _ _).trans hc) (by omega) (by omega) k
theorem own_ifN (X : Stand p l e R s m args below meth c T locs cells slots) (hx : p.tables.exec = Jvm.exec) {cd : ClassFile.Cond} {x : Int32} {o : Int} (hd : decode c.code pc = .ok (.ifCond cd o, 3)) (hc : if_icmp.holds cd x 0 = false) (pc' : Nat) (hp : pc + 3 = pc')
    (K : OwnW p e below G (T.setTop (mkF m pc' Ls st))) : OwnW p e below G (T.setTop (mkF m pc Ls (.int x :: st))) := by
  subst hp; exact K.go fun _ k => XS.ifNo X.here hx rfl hd rfl ((if0 _ _).trans hc) k
theorem own_icmpY (X : Stand p l e R s m args below meth c T locs cells slots) (hx : p.tables.exec = Jvm.exec) {cd : ClassFile.Cond} {x y : Int32} {o : Int} (hd : decode c.code pc = .ok (.if_icmp cd o, 3)) (hc : if_icmp.holds cd x y = true) (pc' : Nat) (hp : (pc : Int) + o = (pc' : Nat))
    (K : OwnW p e below G (T.setTop (mkF m pc' Ls st))) : OwnW p e below G (T.setTop (mkF m pc Ls (.int y :: .int x :: st))) := by
  exact K.go fun _ k => XS.icmpYes X.here hx rfl (pc0 := pc) (pc' := pc') rfl hd rfl hc (by omega) (by omega) k
theorem own_icmpN (X : Stand p l e R s m args below meth c T locs cells slots) (hx : p.tables.exec = Jvm.exec) {cd : ClassFile.Cond} {x y : Int32} {o : Int} (hd : decode c.code pc = .ok (.if_icmp cd o, 3)) (hc : if_icmp.holds cd x y = false) (pc' : Nat) (hp : pc + 3 = pc')
    (K : OwnW p e below G (T.setTop (mkF m pc' Ls st))) : OwnW p e below G (T.setTop (mkF m pc Ls (.int y :: .int x :: st))) := by
  subst hp; exact K.go fun _ k => XS.icmpNo X.here hx rfl hd rfl hc k
theorem own_acmp (X : Stand p l e R s m args below meth c T locs cells slots) (hx : p.tables.exec = Jvm.exec) {cd : ACond} {x y : Value} (h1 : x.isRef = true) (h2 : y.isRef = true) {o : Int} (hd : decode c.code pc = .ok (.if_acmp cd o, 3)) (same : Bool) (hq : decide (x = y) = same) (ho : 0 ≤ (pc : Int) + o) (pc' : Nat) (hp : pc' = if acV cd same = true then ((pc : Int) + o).toNat else pc + 3)
    (K : OwnW p e below G (T.setTop (mkF m pc' Ls st))) : OwnW p e below G (T.setTop (mkF m pc Ls (y :: x :: st))) := by
  exact K.go fun _ k => Jvm.RoadKit.acmp (g := mkF m pc Ls (y :: x :: st)) X hx rfl h1 h2 (pc0 := pc) (pc' := pc') (same := same) rfl hd rfl hq ho hp k
theorem own_ifnullY (X : Stand p l e R s m args below meth c T locs cells slots) (hx : p.tables.exec = Jvm.exec) {o : Int} (hd : decode c.code pc = .ok (.ifnull o, 3)) (pc' : Nat) (hp : (pc : Int) + o = (pc' : Nat))
    (K : OwnW p e below G (T.setTop (mkF m pc' Ls st))) : OwnW p e below G (T.setTop (mkF m pc Ls (.null :: st))) := by
  exact K.go fun _ k => XS.ifnullYes X.here hx rfl (pc0 := pc) (pc' := pc') rfl hd rfl (by omega) (by omega) k
theorem own_ifnullN (X : Stand p l e R s m args below meth c T locs cells slots) (hx : p.tables.exec = Jvm.exec) {o : Int} {b : Addr} (hd : decode c.code pc = .ok (.ifnull o, 3)) (pc' : Nat) (hp : pc + 3 = pc')
    (K : OwnW p e below G (T.setTop (mkF m pc' Ls st))) : OwnW p e below G (T.setTop (mkF m pc Ls (.ref b :: st))) := by
  subst hp; exact K.go fun _ k => XS.ifnullNo X.here hx rfl hd rfl k
theorem own_getF (X : Stand p l e R s m args below meth c T locs cells slots) (hx : p.tables.exec = Jvm.exec) (hZ : Z.Warmed39 s.vm) {own R0 O n d : String} {index : Nat} (hown : s.vm.findClass own = some m.cls) (w : (Cond.fieldLink own index R0 n d).before a0 Z = true) (via : Via Z R0 O n d) (eT : T.heap = h) {a : Addr} {v : Value} (F : Fld Z h a O n d v) (hd : decode c.code pc = .ok (.getfield index, 3)) (pc' : Nat) (hp : pc + 3 = pc')
    (K : ∀ T', Stand p l e R s m args below meth c T' locs cells slots → T'.heap = h → OwnW p e below G (T'.setTop (mkF m pc' Ls (v :: st)))) : OwnW p e below G (T.setTop (mkF m pc Ls (.ref a :: st))) := by
  subst hp
  obtain ⟨T', X', e', st'⟩ := getF X hx hZ hown (host := "") (Or.inl w) via eT F (g := mkF m pc Ls (.ref a :: st)) rfl rfl hd
  exact (K T' X' e').go st'
theorem own_getS (X : Stand p l e R s m args below meth c T locs cells slots) (hx : p.tables.exec = Jvm.exec) (hZ : Z.Warmed39 s.vm) {own R0 O n d : String} {index : Nat} (hown : s.vm.findClass own = some m.cls) (w : (Cond.fieldLink own index R0 n d).before a0 Z = true) (via : Via Z R0 O n d) (eT : T.heap = h) {v : Value} (F : Sta Z h O n d v) (hd : decode c.code pc = .ok (.getstatic index, 3)) (pc' : Nat) (hp : pc + 3 = pc')
    (K : ∀ T', Stand p l e R s m args below meth c T' locs cells slots → T'.heap = h → OwnW p e below G (T'.setTop (mkF m pc' Ls (v :: st)))) : OwnW p e below G (T.setTop (mkF m pc Ls st)) := by
  subst hp
  obtain ⟨T', X', e', st'⟩ := getS (host := "") X hx hZ hown w via eT F (g := mkF m pc Ls st) rfl hd
  exact (K T' X' e').go st'
theorem own_castY (X : Stand p l e R s m args below meth c T locs cells slots) (hx : p.tables.exec = Jvm.exec) (hZ : Z.Warmed39 s.vm) {own C : String} {index : Nat} (hown : s.vm.findClass own = some m.cls) (w : (Cond.classLink own index C).before a0 Z = true) (eT : T.heap = h) {a : Addr} (F : Ins Z h a C true) (hd : decode c.code pc = .ok (.checkcast index, 3)) (pc' : Nat) (hp : pc + 3 = pc')
    (K : ∀ T', Stand p l e R s m args below meth c T' locs cells slots → T'.heap = h → OwnW p e below G (T'.setTop (mkF m pc' Ls (.ref a :: st)))) : OwnW p e below G (T.setTop (mkF m pc Ls (.ref a :: st))) := by
  subst hp
  obtain ⟨T', X', e', st'⟩ := castY X hx hZ hown w eT F (g := mkF m pc Ls (.ref a :: st)) rfl rfl hd
  exact (K T' X' e').go st'
theorem own_instY (X : Stand p l e R s m args below meth c T locs cells slots) (hx : p.tables.exec = Jvm.exec) (hZ : Z.Warmed39 s.vm) {own C : String} {index : Nat} (hown : s.vm.findClass own = some m.cls) (w : (Cond.classLink own index C).before a0 Z = true) (eT : T.heap = h) {a : Addr} (F : Ins Z h a C true) (hd : decode c.code pc = .ok (.instanceof index, 3)) (pc' : Nat) (hp : pc + 3 = pc')
    (K : ∀ T', Stand p l e R s m args below meth c T' locs cells slots → T'.heap = h → OwnW p e below G (T'.setTop (mkF m pc' Ls (.int (1 : Int32) :: st)))) : OwnW p e below G (T.setTop (mkF m pc Ls (.ref a :: st))) := by
  subst hp
  obtain ⟨T', X', e', st'⟩ := instY X hx hZ hown w eT F (g := mkF m pc Ls (.ref a :: st)) rfl rfl hd
  exact (K T' X' e').go st'
theorem own_putF (X : Stand p l e R s m args below meth c T locs cells slots) (hx : p.tables.exec = Jvm.exec) (hZ : Z.Warmed39 s.vm) {own R0 O n d C : String} {index kk : Nat} {ty : FieldType} (hown : s.vm.findClass own = some m.cls) (w : (Cond.fieldLink own index R0 n d).before a0 Z = true) (via : Via Z R0 O n d)
    (eT : T.heap = h) {a : Addr} {v old : Value} (F : Fld Z h a O n d old) (E : Exa Z h a C) (L : (Cond.lays C O n d).before a0 Z = true ∨ ((Cond.laysFinal C O n d).before a0 Z = true ∧ own = O ∧ meth.name = "<init>")) (wi : (Cond.instantiable C kk).before a0 Z = true)
    (hty : parseFieldDescriptor d = some ty) (hn : narrow ty v = v) (hf : fits ty v = true) (hd : decode c.code pc = .ok (.putfield index, 3)) (pc' : Nat) (hp : pc + 3 = pc')
    (K : ∀ T' h', Stand p l e R s m args below meth c T' (locs ++ [⟨a, Jvm.RoadKit.slotOf Z O n d⟩]) cells slots → T'.heap = h' → Wr h h' a (Jvm.RoadKit.slotOf Z O n d) v → OwnW p e below G (T'.setTop (mkF m pc' Ls st))) : OwnW p e below G (T.setTop (mkF m pc Ls (v :: .ref a :: st))) := by
  subst hp
  obtain ⟨T', h', X', e', W', st'⟩ := putF X hx hZ hown (host := "") (Or.inl w) via eT F E L wi hty hn hf (g := mkF m pc Ls (v :: .ref a :: st)) rfl rfl hd
  exact (K T' h' X' e' W').go st'
theorem own_new (X : Stand p l e R s m args below meth c T locs cells slots) (hx : p.tables.exec = Jvm.exec) (hZ : Z.Warmed39 s.vm) {own C : String} {index n : Nat} (hown : s.vm.findClass own = some m.cls) (w : (Cond.classLink own index C).before a0 Z = true) (wi : (Cond.instantiable C n).before a0 Z = true) (wz : (Cond.initialized C).before a0 Z = true) (eT : T.heap = h)
    (hd : decode c.code pc = .ok (.new index, 3)) (hc : cells + 1 ≤ R.cells) (hl : slots + n ≤ R.slots) (pc' : Nat) (hp : pc + 3 = pc')
    (K : ∀ T' h' b, b = h.size → Stand p l e R s m args below meth c T' locs (cells + 1) (slots + n) → T'.heap = h' → Ext h h' → Exa Z h' b C → (∀ {O nm d : String} {ty : FieldType}, Laid Z a0 C O nm d → parseFieldDescriptor d = some ty → Fld Z h' b O nm d (defaultValue ty)) → OwnW p e below G (T'.setTop (mkF m pc' Ls (.ref b :: st)))) : OwnW p e below G (T.setTop (mkF m pc Ls st)) := by
  subst hp
  obtain ⟨T', h', X', e', E', A', D', -, st'⟩ := newO X hx hZ hown w wi wz eT (g := mkF m pc Ls st) rfl hd hc hl
  exact (K T' h' _ rfl X' e' E' A' D').go st'
theorem own_initO (X : Stand p l e R s m args below meth c T locs cells slots) (hx : p.tables.exec = Jvm.exec) (hZ : Z.Warmed39 s.vm) {own : String} {idx : Nat} (hown : s.vm.findClass own = some m.cls) (w1 : (Cond.methodLink own idx Lib.objectInit).before a0 Z = true) (w2 : (Cond.instanceMethod Lib.objectInit).before a0 Z = true)
    (w3 : (Cond.code Lib.objectInit ⟨#[0xb1]⟩ 1 none).before a0 Z = true) (eT : T.heap = h) (hsize : Ls.size = c.maxLocals) {a : Addr} (hd : decode c.code pc = .ok (.invokespecial idx, 3))
    (hf : 1 ≤ R.frames) (W : Nat) (hW : (st.map fun v => v.category).sum ≤ W) (hl : W + 12 ≤ R.locals) (pc' : Nat) (hp : pc + 3 = pc')
    (K : ∀ T', Stand p l e R s m args below meth c T' locs cells slots → T'.heap = h → OwnW p e below G (T'.setTop (mkF m pc' Ls st))) : OwnW p e below G (T.setTop (mkF m pc Ls (.ref a :: st))) := by
  subst hp
  obtain ⟨T', X', e', st'⟩ := initO X hx hZ hown w1 w2 w3 eT (g := mkF m pc Ls (.ref a :: st)) rfl hsize rfl hd hf (W := W) (by show 2 * 0 + _ ≤ _; omega) hl
  exact (K T' X' e').go st'
theorem own_callI {y : MethodName} {bytes : ByteArray} {maxL : Nat} {rm : Room} {Qc : Option Value → Heap → List Loc → Prop} {own : String} {index : Nat} {a : Addr} {argsL : List Value} {ps : List FieldType} {r : Option FieldType}
    (X : Stand p l e R s m args below meth c T locs cells slots) (hx : p.tables.exec = Jvm.exec) (hZ : Z.Warmed39 s.vm) (hown : s.vm.findClass own = some m.cls) (hy1 : y.name = "<init>") (wl : (Cond.methodLink own index y).before a0 Z = true) (wi : (Cond.instanceMethod y).before a0 Z = true)
    (wc : (Cond.code y bytes maxL none).before a0 Z = true) (wz : (Cond.initialized y.cls).before a0 Z = true) (hy : y.cls ≠ "java/lang/invoke/MethodHandle" ∧ y.cls ≠ "java/lang/invoke/VarHandle")
    (hM : MetFree l y (head1 [Cond.code y bytes maxL none] rm) (fun a' U => a' = (.ref a :: argsL).toArray ∧ Z.Warmed39 U.vm ∧ U.heap = h) (fun _ _ _ _ _ => True) (fun _ U o U' => ∃ v L, o = .returned v ∧ Qc v U'.heap L ∧ FrameEnd U o U' L rm.cells rm.slots))
    (eT : T.heap = h) (hd : decode c.code pc = .ok (.invokespecial index, 3)) (hpd : parseMethodDescriptor y.desc = some ⟨ps, r⟩) (hlen : argsL.length = ps.length) (hsz : Ls.size = c.maxLocals)
    {stk : List Value} (hst : stk = argsL.reverse ++ .ref a :: st) (W : Nat) (hW : (st.map fun v => v.category).sum ≤ W) (hf : rm.frames + 1 ≤ R.frames) (hl : W + (maxL + 11) + rm.locals ≤ R.locals) (hc : cells + rm.cells ≤ R.cells) (hs : slots + rm.slots ≤ R.slots) (pc' : Nat) (hp : pc + 3 = pc')
    (K : ∀ T' v L, Stand p l e R s m args below meth c T' (locs ++ L) (cells + rm.cells) (slots + rm.slots) → Qc v T'.heap L → OwnW p e below G (T'.setTop (mkF m pc' Ls (v.toList ++ st)))) : OwnW p e below G (T.setTop (mkF m pc Ls stk)) := by
  subst hp
  obtain ⟨v, _, ⟨T', L', k', n'⟩, -, X', ⟨Lc, hQ, q1, q2, q3⟩, st'⟩ := X.specialBack hx (y := y) hy1 hown (mvT hZ wl) (mvT hZ wi) (mvT hZ wc) hy (backOf (W := W) hM hZ wc wz hf hl) (g := mkF m pc Ls stk) rfl hsz (Steps.refl _) (a := a) (argsL := argsL) (rest := st) (lenOf hpd hlen) hst (by show 2 * 0 + _ ≤ _; omega) hd (fun _ _ => ⟨rfl, eT, hc, hs⟩)
  dsimp only [Pt.U, Pt.locs, Pt.cells, Pt.slots] at X' q1 q2 q3 st' hQ
  subst q1 q2 q3
  exact (K T' v Lc X' hQ).tr st'
theorem own_callIN {y : MethodName} {bytes : ByteArray} {maxL : Nat} {rm : Room} {Qc : Option Value → Heap → List Loc → Prop} {own host : String} {index : Nat} {a : Addr} {argsL : List Value} {ps : List FieldType} {r : Option FieldType}
    (X : Stand p l e R s m args below meth c T locs cells slots) (hx : p.tables.exec = Jvm.exec) (hZ : Z.Warmed39 s.vm) (hown : s.vm.findClass own = some m.cls) (hy1 : y.name = "<init>") (wl : (Cond.methodLinkNest own index y host).before a0 Z = true) (wi : (Cond.instanceMethod y).before a0 Z = true)
    (wc : (Cond.code y bytes maxL none).before a0 Z = true) (wz : (Cond.initialized y.cls).before a0 Z = true) (hy : y.cls ≠ "java/lang/invoke/MethodHandle" ∧ y.cls ≠ "java/lang/invoke/VarHandle")
    (hM : MetFree l y (head1 [Cond.code y bytes maxL none] rm) (fun a' U => a' = (.ref a :: argsL).toArray ∧ Z.Warmed39 U.vm ∧ U.heap = h) (fun _ _ _ _ _ => True) (fun _ U o U' => ∃ v L, o = .returned v ∧ Qc v U'.heap L ∧ FrameEnd U o U' L rm.cells rm.slots))
    (eT : T.heap = h) (hd : decode c.code pc = .ok (.invokespecial index, 3)) (hpd : parseMethodDescriptor y.desc = some ⟨ps, r⟩) (hlen : argsL.length = ps.length) (hsz : Ls.size = c.maxLocals)
    {stk : List Value} (hst : stk = argsL.reverse ++ .ref a :: st) (W : Nat) (hW : (st.map fun v => v.category).sum ≤ W) (hf : rm.frames + 1 ≤ R.frames) (hl : W + (maxL + 11) + rm.locals ≤ R.locals) (hc : cells + rm.cells ≤ R.cells) (hs : slots + rm.slots ≤ R.slots) (pc' : Nat) (hp : pc + 3 = pc')
    (K : ∀ T' v L, Stand p l e R s m args below meth c T' (locs ++ L) (cells + rm.cells) (slots + rm.slots) → Qc v T'.heap L → OwnW p e below G (T'.setTop (mkF m pc' Ls (v.toList ++ st)))) : OwnW p e below G (T.setTop (mkF m pc Ls stk)) := by
  subst hp
  obtain ⟨v, _, ⟨T', L', k', n'⟩, -, X', ⟨Lc, hQ, q1, q2, q3⟩, st'⟩ := X.specialBackNest hx (y := y) hy1 hown (Cond.methodLinkNest_wide hZ wl) (mvT hZ wi) (mvT hZ wc) hy (backOf (W := W) hM hZ wc wz hf hl) (g := mkF m pc Ls stk) rfl hsz (Steps.refl _) (a := a) (argsL := argsL) (rest := st) (lenOf hpd hlen) hst (by show 2 * 0 + _ ≤ _; omega) hd (fun _ _ => ⟨rfl, eT, hc, hs⟩)
  dsimp only [Pt.U, Pt.locs, Pt.cells, Pt.slots] at X' q1 q2 q3 st' hQ
  subst q1 q2 q3
  exact (K T' v Lc X' hQ).tr st'
theorem own_callV {y : MethodName} {bytes : ByteArray} {maxL : Nat} {ret : Option FieldType} {rm : Room} {Qc : Option Value → Heap → List Loc → Prop} {own C : String} {index : Nat} {a : Addr} {argsL : List Value} {ps : List FieldType} {r : Option FieldType}
    (X : Stand p l e R s m args below meth c T locs cells slots) (hx : p.tables.exec = Jvm.exec) (hZ : Z.Warmed39 s.vm) (hown : s.vm.findClass own = some m.cls) (wl : (Cond.methodLink own index y).before a0 Z = true) (wd : (Cond.declares y).before a0 Z = true) (ws : (Cond.selects C y y).before a0 Z = true) (wi : (Cond.instanceMethod y).before a0 Z = true)
    (wc : (Cond.code y bytes maxL ret).before a0 Z = true) (wz : (Cond.initialized y.cls).before a0 Z = true) (hy : y.cls ≠ "java/lang/invoke/MethodHandle" ∧ y.cls ≠ "java/lang/invoke/VarHandle") (E : Exa Z h a C)
    (hM : MetFree l y (head1 [Cond.code y bytes maxL ret] rm) (fun a' U => a' = (.ref a :: argsL).toArray ∧ Z.Warmed39 U.vm ∧ U.heap = h) (fun _ _ _ _ _ => True) (fun _ U o U' => ∃ v L, o = .returned v ∧ Qc v U'.heap L ∧ FrameEnd U o U' L rm.cells rm.slots))
    (eT : T.heap = h) (hd : decode c.code pc = .ok (.invokevirtual index, 3)) (hpd : parseMethodDescriptor y.desc = some ⟨ps, r⟩) (hlen : argsL.length = ps.length) (hsz : Ls.size = c.maxLocals)
    {stk : List Value} (hst : stk = argsL.reverse ++ .ref a :: st) (W : Nat) (hW : (st.map fun v => v.category).sum ≤ W) (hf : rm.frames + 1 ≤ R.frames) (hl : W + (maxL + 11) + rm.locals ≤ R.locals) (hc : cells + rm.cells ≤ R.cells) (hs : slots + rm.slots ≤ R.slots) (pc' : Nat) (hp : pc + 3 = pc')
    (K : ∀ T' v L, Stand p l e R s m args below meth c T' (locs ++ L) (cells + rm.cells) (slots + rm.slots) → Qc v T'.heap L → OwnW p e below G (T'.setTop (mkF m pc' Ls (v.toList ++ st)))) : OwnW p e below G (T.setTop (mkF m pc Ls stk)) := by
  subst hp
  obtain ⟨cq, kq, qa, qb, qc⟩ := isOf hZ eT E
  obtain ⟨v, _, ⟨T', L', k', n'⟩, -, X', ⟨Lc, hQ, q1, q2, q3⟩, st'⟩ := X.virtualBack hx (y := y) (z := y) hown (mvT hZ wl) (mvT hZ wd) (notFace_of_selects (args := #[]) (mvT hZ ws)) (mvT hZ ws) (mvT hZ wi) hy (backOf (W := W) hM hZ wc wz hf hl) qa qc (g := mkF m pc Ls stk) rfl hsz (Steps.refl _) (argsL := argsL) (rest := st) (lenOf hpd hlen) hst (by show 2 * 0 + _ ≤ _; omega) hd (fun _ _ => ⟨rfl, eT, hc, hs⟩)
  dsimp only [Pt.U, Pt.locs, Pt.cells, Pt.slots] at X' q1 q2 q3 st' hQ
  subst q1 q2 q3
  exact (K T' v Lc X' hQ).tr st'
theorem own_callS {y : MethodName} {bytes : ByteArray} {maxL : Nat} {ret : Option FieldType} {rm : Room} {Qc : Option Value → Heap → List Loc → Prop} {own : String} {index : Nat} {argsL : List Value} {ps : List FieldType} {r : Option FieldType}
    (X : Stand p l e R s m args below meth c T locs cells slots) (hx : p.tables.exec = Jvm.exec) (hZ : Z.Warmed39 s.vm) (hown : s.vm.findClass own = some m.cls) (wl : (Cond.methodLink own index y).before a0 Z = true) (wst : (Cond.static y).before a0 Z = true)
    (wc : (Cond.code y bytes maxL ret).before a0 Z = true) (wz : (Cond.initialized y.cls).before a0 Z = true) (hy : y.cls ≠ "java/lang/invoke/MethodHandle" ∧ y.cls ≠ "java/lang/invoke/VarHandle")
    (hM : MetFree l y (head1 [Cond.code y bytes maxL ret] rm) (fun a' U => a' = argsL.toArray ∧ Z.Warmed39 U.vm ∧ U.heap = h) (fun _ _ _ _ _ => True) (fun _ U o U' => ∃ v L, o = .returned v ∧ Qc v U'.heap L ∧ FrameEnd U o U' L rm.cells rm.slots))
    (eT : T.heap = h) (hd : decode c.code pc = .ok (.invokestatic index, 3)) (hpd : parseMethodDescriptor y.desc = some ⟨ps, r⟩) (hlen : argsL.length = ps.length) (hsz : Ls.size = c.maxLocals)
    {stk : List Value} (hst : stk = argsL.reverse ++ st) (W : Nat) (hW : (st.map fun v => v.category).sum ≤ W) (hf : rm.frames + 1 ≤ R.frames) (hl : W + (maxL + 11) + rm.locals ≤ R.locals) (hc : cells + rm.cells ≤ R.cells) (hs : slots + rm.slots ≤ R.slots) (pc' : Nat) (hp : pc + 3 = pc')
    (K : ∀ T' v L, Stand p l e R s m args below meth c T' (locs ++ L) (cells + rm.cells) (slots + rm.slots) → Qc v T'.heap L → OwnW p e below G (T'.setTop (mkF m pc' Ls (v.toList ++ st)))) : OwnW p e below G (T.setTop (mkF m pc Ls stk)) := by
  subst hp
  obtain ⟨v, _, ⟨T', L', k', n'⟩, -, X', ⟨Lc, hQ, q1, q2, q3⟩, st'⟩ := Jvm.LawKit.callS X hx (y := y) hown (mvT hZ wl) (mvT hZ wst) (mvT hZ wz) (mvT hZ wc) hy (backOf (W := W) hM hZ wc wz hf hl) (g := mkF m pc Ls stk) rfl hsz (argsL := argsL) (rest := st) (lenOf hpd hlen) hst (by show 2 * 0 + _ ≤ _; omega) hd (fun _ _ => ⟨rfl, eT, hc, hs⟩)
  dsimp only [Pt.U, Pt.locs, Pt.cells, Pt.slots] at X' q1 q2 q3 st' hQ
  subst q1 q2 q3
  exact (K T' v Lc X' hQ).go st'
theorem own_ret (X : Stand p l e R s m args below meth c T locs cells slots) (hx : p.tables.exec = Jvm.exec) (hlk : meth.locks = false) {w : Value} {t : FieldType} {i : Instr} (hret : meth.sig.returnType = some t) (hn : narrow t w = w)
    (hi : (i = .ireturn ∧ (t = .int ∨ t = .boolean ∨ t = .byte ∨ t = .char ∨ t = .short) ∧ ∃ z, w = .int z) ∨ (i = .lreturn ∧ t = .long ∧ ∃ z, w = .long z) ∨ (i = .dreturn ∧ t = .double ∧ ∃ z, w = .double z) ∨ (i = .freturn ∧ t = .float ∧ ∃ z, w = .float z) ∨ (i = .areturn ∧ t.isReference = true ∧ w.isRef = true))
    (hd : decode c.code pc = .ok (i, 1)) (hc : cells ≤ rc) (hs : slots ≤ rs) (hQ : Q (some w) T.heap locs) : OwnW p e below (OwnG s Q rc rs) (T.setTop (mkF m pc Ls (w :: st))) := by
  obtain ⟨fs, hr, hrun, hended, hW, hsame⟩ := X.leave (v := some w) (fun h => by rw [hret] at h; cases h) hlk
  exact ⟨_, _, retOut X hx hret hn hi hd hr, hrun, hended, _, _, rfl, hQ, ⟨_, rfl⟩, hW, hsame.mono hc hs⟩
theorem own_retI (X : Stand p l e R s m args below meth c T locs cells slots) (hx : p.tables.exec = Jvm.exec) (hlk : meth.locks = false) {z : Int32} (hret : meth.sig.returnType = some .int) (hd : decode c.code pc = .ok (.ireturn, 1)) (hc : cells ≤ rc) (hs : slots ≤ rs) (hQ : Q (some (.int z)) T.heap locs) : OwnW p e below (OwnG s Q rc rs) (T.setTop (mkF m pc Ls (.int z :: st))) :=
  own_ret X hx hlk hret rfl (Or.inl ⟨rfl, Or.inl rfl, z, rfl⟩) hd hc hs hQ
theorem own_retZ (X : Stand p l e R s m args below meth c T locs cells slots) (hx : p.tables.exec = Jvm.exec) (hlk : meth.locks = false) {z : Int32} (hret : meth.sig.returnType = some .boolean) (hz : z = 0 ∨ z = 1) (hd : decode c.code pc = .ok (.ireturn, 1)) (hc : cells ≤ rc) (hs : slots ≤ rs) (hQ : Q (some (.int z)) T.heap locs) : OwnW p e below (OwnG s Q rc rs) (T.setTop (mkF m pc Ls (.int z :: st))) :=
  own_ret X hx hlk hret (by rcases hz with rfl | rfl <;> rfl) (Or.inl ⟨rfl, Or.inr (Or.inl rfl), z, rfl⟩) hd hc hs hQ
theorem own_retJ (X : Stand p l e R s m args below meth c T locs cells slots) (hx : p.tables.exec = Jvm.exec) (hlk : meth.locks = false) {z : Int64} (hret : meth.sig.returnType = some .long) (hd : decode c.code pc = .ok (.lreturn, 1)) (hc : cells ≤ rc) (hs : slots ≤ rs) (hQ : Q (some (.long z)) T.heap locs) : OwnW p e below (OwnG s Q rc rs) (T.setTop (mkF m pc Ls (.long z :: st))) :=
  own_ret X hx hlk hret rfl (Or.inr (Or.inl ⟨rfl, rfl, z, rfl⟩)) hd hc hs hQ
theorem own_retA (X : Stand p l e R s m args below meth c T locs cells slots) (hx : p.tables.exec = Jvm.exec) (hlk : meth.locks = false) {w : Value} {t : FieldType} (hret : meth.sig.returnType = some t) (ht : t.isReference = true) (hw : w.isRef = true) (hn : narrow t w = w) (hd : decode c.code pc = .ok (.areturn, 1)) (hc : cells ≤ rc) (hs : slots ≤ rs) (hQ : Q (some w) T.heap locs) : OwnW p e below (OwnG s Q rc rs) (T.setTop (mkF m pc Ls (w :: st))) :=
  own_ret X hx hlk hret hn (Or.inr (Or.inr (Or.inr (Or.inr ⟨rfl, ht, hw⟩)))) hd hc hs hQ
theorem own_retV (X : Stand p l e R s m args below meth c T locs cells slots) (hx : p.tables.exec = Jvm.exec) (hlk : meth.locks = false) (hret : meth.sig.returnType = none) (hd : decode c.code pc = .ok (.return_, 1)) (hc : cells ≤ rc) (hs : slots ≤ rs) (hQ : Q none T.heap locs) : OwnW p e below (OwnG s Q rc rs) (T.setTop (mkF m pc Ls [])) := by
  obtain ⟨fs, hr, hrun, hended, hW, hsame⟩ := X.leave (v := none) (fun _ => rfl) hlk
  exact ⟨_, _, X.returnOut hx hret hd hr, hrun, hended, _, _, rfl, hQ, ⟨_, rfl⟩, hW, hsame.mono hc hs⟩
/-- a cell that is no class's statics -/
def OwnP (h : Heap) (x : Addr) : Prop := ∃ cell : Cell, h[x]? = some cell ∧ cell.vm.isStatics = false
theorem own_pE {a : Addr} {C : String} (E : Exa Z h a C) : OwnP h a := by obtain ⟨cell, k, h1, -, -, h4, -⟩ := E; exact ⟨cell, h1, h4⟩
theorem own_pV {a : Addr} {k : ClassId} {ty : FieldType} {n : Int32} {vs : List Value} {dv : Value} (F : Arv Z h a k ty n vs dv) : OwnP h a := by obtain ⟨cl, A, -⟩ := F; exact ⟨cl, A.1, A.plain⟩
theorem own_sta_keep {h' : Heap} {C n d : String} {v : Value} {ws : List Addr} (F : Sta Z h C n d v) (K : Keep h h' ws) (q : ∀ x ∈ ws, OwnP h x) : Sta Z h' C n d v := by
  obtain ⟨cf, i, k, f, st, cell, h1, h2, h3, h4, h5, h6, h7⟩ := F
  refine ⟨cf, i, k, f, st, cell, h1, h2, h3, h4, K.2.1 st cell h5 (fun z => ?_), h6, h7⟩
  obtain ⟨cell', e1, e2⟩ := q st z
  cases h5.symm.trans e1
  rw [h6] at e2; cases e2
theorem own_feq {t : Term} {C n d : String} {k : Int32} {a : Addr} (ht : t.eval args s none [] s = some (.ref a)) (hc : (Jvm.Cond.eq (Jvm.Term.field t C n d) (Jvm.Term.int k)).value args s none s [] = some true) : Fld s s.heap a C n d (.int k) := by
  refine Fld.start ?_
  have e := fld_at (args := args) (first := s) (o := none) (idx := []) (C := C) (n := n) (dd := d) ht
  rw [← e]
  obtain ⟨x, y, hx, hy, -, -⟩ := cmp_v (Or.inl hc)
  have hy' : y = .int k := Option.some.inj (hy.symm.trans rfl)
  subst hy'
  have h2 := hc
  simp only [Cond.value, hx, hy] at h2
  cases x with
  | int z => simp only [Option.some.injEq, decide_eq_true_eq] at h2; rw [hx, h2]
  | _ => simp at h2
theorem own_newP (X : Stand p l e R s m args below meth c T locs cells slots) (hx : p.tables.exec = Jvm.exec) (hZ : Z.Warmed39 s.vm) {aty : ArrayType} (w : (Cond.arrayClass (newarray.typeOf aty)).before a0 Z = true) (eT : T.heap = h) (hd : decode c.code pc = .ok (.newarray aty, 2)) {n : Int32}
    (hn : ¬ n < 0) (cap : Nat) (hcap : n.toNatClampNeg ≤ cap) (hb : cap * 8 ≤ 536870912) (hc : cells + 1 ≤ R.cells) (hl : slots + cap ≤ R.slots) (pc' : Nat) (hp : pc + 2 = pc')
    (K : ∀ T' h' b cA, b = h.size → Stand p l e R s m args below meth c T' locs (cells + 1) (slots + cap) → T'.heap = h' → Ext h h' → Arr Z h' b (newA cA (newarray.typeOf aty) n) (newarray.typeOf aty) → OwnW p e below G (T'.setTop (mkF m pc' Ls (.ref b :: st)))) : OwnW p e below G (T.setTop (mkF m pc Ls (.int n :: st))) := by
  subst hp
  obtain ⟨T', h', cA, X', e', E', A', st'⟩ := newP X hx hZ w eT (g := mkF m pc Ls (.int n :: st)) rfl hd rfl hn hcap hb hc hl
  exact (K T' h' _ cA rfl X' e' E' A').go st'
theorem own_stZ (X : Stand p l e R s m args below meth c T locs cells slots) (hx : p.tables.exec = Jvm.exec) (hZ : Z.Warmed39 s.vm) (eT : T.heap = h) {a : Addr} {cl : Cell} (A : Arr Z h a cl .boolean) {j x : Int32} (hj : ¬ (j < 0 ∨ cl.slots.size ≤ j.toNatClampNeg)) (hd : decode c.code pc = .ok (.bastore, 1)) (pc' : Nat) (hp : pc + 1 = pc')
    (K : ∀ T' h', Stand p l e R s m args below meth c T' (locs ++ [⟨a, j.toNatClampNeg⟩]) cells slots → T'.heap = h' → Wr h h' a j.toNatClampNeg (.int (nar .boolean x)) → OwnW p e below G (T'.setTop (mkF m pc' Ls st))) : OwnW p e below G (T.setTop (mkF m pc Ls (.int x :: .int j :: .ref a :: st))) := by
  subst hp
  obtain ⟨T', h', X', e', W', st'⟩ := stZ X hx hZ eT A hj (g := mkF m pc Ls (.int x :: .int j :: .ref a :: st)) rfl rfl hd
  exact (K T' h' X' e' W').go st'
theorem own_stJ (X : Stand p l e R s m args below meth c T locs cells slots) (hx : p.tables.exec = Jvm.exec) (hZ : Z.Warmed39 s.vm) (eT : T.heap = h) {a : Addr} {cl : Cell} (A : Arr Z h a cl .long) {j : Int32} {x : Int64} (hj : ¬ (j < 0 ∨ cl.slots.size ≤ j.toNatClampNeg)) (hd : decode c.code pc = .ok (.lastore, 1)) (pc' : Nat) (hp : pc + 1 = pc')
    (K : ∀ T' h', Stand p l e R s m args below meth c T' (locs ++ [⟨a, j.toNatClampNeg⟩]) cells slots → T'.heap = h' → Wr h h' a j.toNatClampNeg (.long x) → OwnW p e below G (T'.setTop (mkF m pc' Ls st))) : OwnW p e below G (T.setTop (mkF m pc Ls (.long x :: .int j :: .ref a :: st))) := by
  subst hp
  obtain ⟨T', h', X', e', W', st'⟩ := stJ X hx hZ eT A hj (g := mkF m pc Ls (.long x :: .int j :: .ref a :: st)) rfl rfl hd
  exact (K T' h' X' e' W').go st'
theorem own_stI (X : Stand p l e R s m args below meth c T locs cells slots) (hx : p.tables.exec = Jvm.exec) (hZ : Z.Warmed39 s.vm) (eT : T.heap = h) {a : Addr} {cl : Cell} (A : Arr Z h a cl .int) {j x : Int32} (hj : ¬ (j < 0 ∨ cl.slots.size ≤ j.toNatClampNeg)) (hd : decode c.code pc = .ok (.iastore, 1)) (pc' : Nat) (hp : pc + 1 = pc')
    (K : ∀ T' h', Stand p l e R s m args below meth c T' (locs ++ [⟨a, j.toNatClampNeg⟩]) cells slots → T'.heap = h' → Wr h h' a j.toNatClampNeg (.int x) → OwnW p e below G (T'.setTop (mkF m pc' Ls st))) : OwnW p e below G (T.setTop (mkF m pc Ls (.int x :: .int j :: .ref a :: st))) := by
  subst hp
  obtain ⟨T', h', X', e', W', st'⟩ := stI X hx hZ eT A hj (g := mkF m pc Ls (.int x :: .int j :: .ref a :: st)) rfl rfl hd
  exact (K T' h' X' e' W').go st'
theorem own_ldZ (X : Stand p l e R s m args below meth c T locs cells slots) (hx : p.tables.exec = Jvm.exec) (hZ : Z.Warmed39 s.vm) (eT : T.heap = h) {a : Addr} {k : ClassId} {n : Int32} {vs : List Value} {dv : Value} (F : Arv Z h a k .boolean n vs dv) {j : Int32} (hj : ¬ j < 0 ∧ j < n) (v : Value) (hv : vs.getD j.toNatClampNeg dv = v) (hd : decode c.code pc = .ok (.baload, 1)) (pc' : Nat) (hp : pc + 1 = pc')
    (K : OwnW p e below G (T.setTop (mkF m pc' Ls (v :: st)))) : OwnW p e below G (T.setTop (mkF m pc Ls (.int j :: .ref a :: st))) := by
  subst hp
  obtain ⟨cl, A, -, S, -, H, -⟩ := F
  have hin := inb_of S hj
  exact K.go (X.baloadBooleans hx (j := j) (v := v) (by rw [eT]; exact A.1) (State.isArrayOf_alike hZ.alike A.2.1) A.2.2 hin (H.at hin hv) (g := mkF m pc Ls (.int j :: .ref a :: st)) rfl rfl hd)
theorem own_ldJ (X : Stand p l e R s m args below meth c T locs cells slots) (hx : p.tables.exec = Jvm.exec) (hZ : Z.Warmed39 s.vm) (eT : T.heap = h) {a : Addr} {k : ClassId} {n : Int32} {vs : List Value} {dv : Value} (F : Arv Z h a k .long n vs dv) {j : Int32} (hj : ¬ j < 0 ∧ j < n) (v : Value) (hv : vs.getD j.toNatClampNeg dv = v) (hd : decode c.code pc = .ok (.laload, 1)) (pc' : Nat) (hp : pc + 1 = pc')
    (K : OwnW p e below G (T.setTop (mkF m pc' Ls (v :: st)))) : OwnW p e below G (T.setTop (mkF m pc Ls (.int j :: .ref a :: st))) := by
  subst hp
  obtain ⟨cl, A, -, S, -, H, -⟩ := F
  have hin := inb_of S hj
  exact K.go (X.laload hx (j := j) (v := v) (by rw [eT]; exact A.1) (State.isArrayOf_alike hZ.alike A.2.1) A.2.2 hin (H.at hin hv) (g := mkF m pc Ls (.int j :: .ref a :: st)) rfl rfl hd)
theorem own_len (X : Stand p l e R s m args below meth c T locs cells slots) (hx : p.tables.exec = Jvm.exec) (hZ : Z.Warmed39 s.vm) (eT : T.heap = h) {a : Addr} {k : ClassId} {ty : FieldType} {n : Int32} {vs : List Value} {dv : Value} (F : Arv Z h a k ty n vs dv) (hd : decode c.code pc = .ok (.arraylength, 1)) (pc' : Nat) (hp : pc + 1 = pc')
    (K : OwnW p e below G (T.setTop (mkF m pc' Ls (.int n :: st)))) : OwnW p e below G (T.setTop (mkF m pc Ls (.ref a :: st))) := by
  subst hp
  obtain ⟨cl, A, -, S, N, -, -⟩ := F
  rw [← len_of S N] at K
  exact K.go (X.arraylength hx (by rw [eT]; exact A.1) (State.isArrayOf_alike hZ.alike A.2.1) (g := mkF m pc Ls (.ref a :: st)) rfl rfl hd)
theorem own_instNull (X : Stand p l e R s m args below meth c T locs cells slots) (hx : p.tables.exec = Jvm.exec) {index : Nat} (hd : decode c.code pc = .ok (.instanceof index, 3)) (pc' : Nat) (hp : pc + 3 = pc')
    (K : OwnW p e below G (T.setTop (mkF m pc' Ls (.int (0 : Int32) :: st)))) : OwnW p e below G (T.setTop (mkF m pc Ls (.null :: st))) := by
  subst hp; exact K.go (X.instanceofNull hx (g := mkF m pc Ls (.null :: st)) rfl rfl hd)
theorem own_instNo (X : Stand p l e R s m args below meth c T locs cells slots) (hx : p.tables.exec = Jvm.exec) (hZ : Z.Warmed39 s.vm) {own C D : String} {index : Nat} (hown : s.vm.findClass own = some m.cls) (w : (Cond.classLink own index C).before a0 Z = true) (eT : T.heap = h) {a : Addr} (E : Exa Z h a D) (F : ∃ c t, Z.vm.findClass D = some c ∧ Z.vm.findClass C = some t ∧ Z.vm.assignable c t = false) (hd : decode c.code pc = .ok (.instanceof index, 3)) (pc' : Nat) (hp : pc + 3 = pc')
    (K : ∀ T', Stand p l e R s m args below meth c T' locs cells slots → T'.heap = h → OwnW p e below G (T'.setTop (mkF m pc' Ls (.int (0 : Int32) :: st)))) : OwnW p e below G (T.setTop (mkF m pc Ls (.ref a :: st))) := by
  subst hp
  obtain ⟨T', X', e', st'⟩ := instNo X hx hZ hown w eT E F (g := mkF m pc Ls (.ref a :: st)) rfl rfl hd
  exact (K T' X' e').go st'
theorem own_ldA (X : Stand p l e R s m args below meth c T locs cells slots) (hx : p.tables.exec = Jvm.exec) (hZ : Z.Warmed39 s.vm) (eT : T.heap = h) {a : Addr} {cl : Cell} {ty : FieldType} (A : Arr Z h a cl ty) (hty : ty.isReference = true) {j : Int32} (hin : ¬ (j < 0 ∨ cl.slots.size ≤ j.toNatClampNeg)) {v : Value} (hv : cl.slots[j.toNatClampNeg]? = some v) (hd : decode c.code pc = .ok (.aaload, 1)) (pc' : Nat) (hp : pc + 1 = pc')
    (K : OwnW p e below G (T.setTop (mkF m pc' Ls (v :: st)))) : OwnW p e below G (T.setTop (mkF m pc Ls (.int j :: .ref a :: st))) := by
  subst hp
  exact K.go (X.aaload hx (j := j) (v := v) (by rw [eT]; exact A.1) (State.isArrayOf_alike hZ.alike A.2.1) hty A.2.2 hin hv (g := mkF m pc Ls (.int j :: .ref a :: st)) rfl rfl hd)
theorem own_cp (X : Stand p l e R s m args below meth c T locs cells slots) (hx : p.tables.exec = Jvm.exec) (hZ : Z.Warmed39 s.vm) {own : String} {index : Nat} (hown : s.vm.findClass own = some m.cls)
    (w1 : (Cond.methodLink own index Jvm.Stand.acN).before a0 Z = true) (w2 : (Cond.native Jvm.Stand.acN).before a0 Z = true) (w3 : (Cond.static Jvm.Stand.acN).before a0 Z = true) (w4 : (Cond.initialized "java/lang/System").before a0 Z = true) (eT : T.heap = h)
    {a b : Addr} {k k' : ClassId} {ty : FieldType} {z z' sp dp nn : Int32} {vs vd : List Value} {dv dd : Value} (A : Arv Z h a k ty z vs dv) (B : Arv Z h b k' ty z' vd dd) (hty : refKind ty = false)
    (h1 : ¬ sp < 0) (h2 : ¬ dp < 0) (h3 : ¬ nn < 0) (h4 : sp.toNatClampNeg + nn.toNatClampNeg ≤ z.toNatClampNeg) (h5 : dp.toNatClampNeg + nn.toNatClampNeg ≤ z'.toNatClampNeg)
    (us : List Value) (hus : us = (List.range nn.toNatClampNeg).map fun i => vs.getD (sp.toNatClampNeg + i) dv) (hl : dp.toNatClampNeg + nn.toNatClampNeg ≤ vd.length) {n0 : Nat} (N : Fr n0 locs) (ge : n0 ≤ b)
    (hsize : Ls.size = c.maxLocals) (hd : decode c.code pc = .ok (.invokestatic index, 3)) (hf : 1 ≤ R.frames) (W : Nat) (hW : (st.map fun v => v.category).sum ≤ W) (hlo : W + (nativeFrameWords "java/lang/System" "arraycopy" 5 + 11) ≤ R.locals) (pc' : Nat) (hp : pc + 3 = pc')
    (K : ∀ T' h' L, Stand p l e R s m args below meth c T' L cells slots → T'.heap = h' → Fr n0 L → Keep h h' [b] → Arv Z h' b k' ty z' (vd.take dp.toNatClampNeg ++ us ++ vd.drop (dp.toNatClampNeg + nn.toNatClampNeg)) dd → OwnW p e below G (T'.setTop (mkF m pc' Ls st))) :
    OwnW p e below G (T.setTop (mkF m pc Ls (.int nn :: .int dp :: .ref b :: .int sp :: .ref a :: st))) := by
  subst hp
  obtain ⟨T', h', L', X', e', N', K', V', st'⟩ := cpA X hx hZ hown w1 w2 w3 w4 eT A B (Or.inl ⟨rfl, hty⟩) h1 h2 h3 h4 h5 hus hl N ge (g := mkF m pc Ls (.int nn :: .int dp :: .ref b :: .int sp :: .ref a :: st)) rfl hsize rfl hd hf (W := W) (by show 2 * 0 + _ ≤ _; omega) hlo
  exact (K T' h' L' X' e' N' K' V').go st'
theorem own_nar01 (x : Int32) : nar .boolean x = 0 ∨ nar .boolean x = 1 := and_one x
theorem own_nar {x : Int32} (h : x = 0 ∨ x = 1) : nar .boolean x = x := by rcases h with rfl | rfl <;> rfl
theorem own_newR (X : Stand p l e R s m args below meth c T locs cells slots) (hx : p.tables.exec = Jvm.exec) (hZ : Z.Warmed39 s.vm) {own C : String} {index : Nat} (hown : s.vm.findClass own = some m.cls) (w1 : (Cond.classLink own index C).before a0 Z = true) (w2 : (Cond.arrayOver (.object C)).before a0 Z = true) (eT : T.heap = h) (hd : decode c.code pc = .ok (.anewarray index, 3)) {n : Int32}
    (hn : ¬ n < 0) (cap : Nat) (hcap : n.toNatClampNeg ≤ cap) (hb : cap * 8 ≤ 536870912) (hc : cells + 1 ≤ R.cells) (hl : slots + cap ≤ R.slots) (pc' : Nat) (hp : pc + 3 = pc')
    (K : ∀ T' h' b cA, b = h.size → Stand p l e R s m args below meth c T' locs (cells + 1) (slots + cap) → T'.heap = h' → Ext h h' → Arr Z h' b (newA cA (.object C) n) (.object C) → Ovr Z cA C → OwnW p e below G (T'.setTop (mkF m pc' Ls (.ref b :: st)))) : OwnW p e below G (T.setTop (mkF m pc Ls (.int n :: st))) := by
  subst hp
  obtain ⟨T', h', cA, X', e', E', A', O', st'⟩ := newR X hx hZ hown w1 w2 eT (g := mkF m pc Ls (.int n :: st)) rfl hd rfl hn hcap hb hc hl
  exact (K T' h' _ cA rfl X' e' E' A' O').go st'
theorem own_stR (X : Stand p l e R s m args below meth c T locs cells slots) (hx : p.tables.exec = Jvm.exec) (hZ : Z.Warmed39 s.vm) (eT : T.heap = h) {a : Addr} {cl : Cell} {ty : FieldType} (A : Arr Z h a cl ty) {j : Int32} {v : Value} (hj : ¬ (j < 0 ∨ cl.slots.size ≤ j.toNatClampNeg)) (hty : ty.isReference = true) (F : Sto Z h a v) (hd : decode c.code pc = .ok (.aastore, 1)) (pc' : Nat) (hp : pc + 1 = pc')
    (K : ∀ T' h', Stand p l e R s m args below meth c T' (locs ++ [⟨a, j.toNatClampNeg⟩]) cells slots → T'.heap = h' → Wr h h' a j.toNatClampNeg v → OwnW p e below G (T'.setTop (mkF m pc' Ls st))) : OwnW p e below G (T.setTop (mkF m pc Ls (v :: .int j :: .ref a :: st))) := by
  subst hp
  obtain ⟨T', h', X', e', W', st'⟩ := stR X hx hZ eT A hj hty F (g := mkF m pc Ls (v :: .int j :: .ref a :: st)) rfl rfl hd
  exact (K T' h' X' e' W').go st'
/-- the end of a walk that loaded a String constant -/
def OwnGW (s : State) (Q : Option Value → Heap → List Loc → Prop) (rc rs : Nat) (o : Outcome) (t : State) : Prop := ∃ v L, o = .returned v ∧ Q v t.heap L ∧ ReturnedEndW s o t L rc rs
theorem own_ldcS (X : Stand p l e R s m args below meth c T locs cells slots) (hx : p.tables.exec = Jvm.exec) (hZ : Z.Warmed39 s.vm) {own text : String} {index : Nat} (hown : s.vm.findClass own = some m.cls) (w : (Cond.stringLink own index text).before a0 Z = true) (wS : ∀ a ∈ Bundle.stringAtoms, a.before a0 Z = true) (eT : T.heap = h)
    (hd : decode c.code pc = .ok (.ldc index, 2)) (n : Nat) (hn : 4 * text.toList.length ≤ n) (hbig : n ≤ 536870912) (hc : cells + 2 ≤ R.cells) (hl : slots + (n + 4) ≤ R.slots) (pc' : Nat) (hp : pc + 2 = pc')
    (K : ∀ s' a T' h' k1, Stand p l e R s' m args below meth c T' locs (cells + 2) (slots + (n + 4)) → T'.heap = h' → Ext h h' → k1 ≤ h'.size → Z.Warmed39 s'.vm → s'.vm.findClass own = some m.cls → OwnW p e below (OwnG s' (fun v hh L => Q v hh L ∧ k1 ≤ hh.size) rc rs) (T'.setTop (mkF m pc' Ls (.ref a :: st)))) : OwnW p e below (OwnGW s Q rc rs) (T.setTop (mkF m pc Ls st)) := by
  subst hp
  obtain ⟨a, T', h', k1, X', e', E', hS, hk, hZ', hown', st'⟩ := ldcS (s := s) (vm0 := s.vm) X hx hZ hown w wS eT ((State.WarmedH.refl s).since h.size) (Nat.le_refl _) (g := mkF m pc Ls st) rfl hd hn hbig hc hl
  obtain ⟨s₂, o, h1, h2, h3, v, L, rfl, ⟨hq, hsz⟩, hF⟩ := K (s.setVm T'.vm) a T' h' k1 X' e' E' hk hZ' hown'
  obtain ⟨a1, b1, c1⟩ := hS.ended (U := s₂) hF.2.1 hsz hF.2.2
  exact ⟨s₂, _, st' _ h1, h2, h3, v, L, rfl, hq, ⟨v, rfl⟩, a1, b1, c1⟩
end Own
theorem pd___V : parseMethodDescriptor "()V" = some ⟨[], none⟩ := by decide +kernel
theorem pd__IIIJJ_V : parseMethodDescriptor "(IIIJJ)V" = some ⟨[.int, .int, .int, .long, .long], none⟩ := by decide +kernel
theorem pd__I_Z : parseMethodDescriptor "(I)Z" = some ⟨[.int], some .boolean⟩ := by decide +kernel
theorem pd__III_Z : parseMethodDescriptor "(III)Z" = some ⟨[.int, .int, .int], some .boolean⟩ := by decide +kernel
theorem d2_0 : decode jdk_30_method_1_code 0 = .ok (.aload_n 0, 1) := by decide +kernel
theorem d2_1 : decode jdk_30_method_1_code 1 = .ok (.invokespecial 1, 3) := by decide +kernel
theorem d2_4 : decode jdk_30_method_1_code 4 = .ok (.return_, 1) := by decide +kernel
theorem pn_rm2 : plainName "java/lang/Record" = true := by first | (simp [plainName, overriddenIn]; done) | decide +kernel
theorem ef_rm2 (m : MethodId) (x0 : Addr) : entryFrame m #[(.ref x0)] 1 = mkF m 0 #[.val (.ref x0)] [] := by first | (simp [entryFrame, mkF, argsToLocals, Value.category]; done) | rfl
def Q2 (Z : State) (a1 : Addr) (h0 : Heap) (n0 : Nat) (v : Option Value) (h : Heap) (L : List Loc) : Prop := v = none ∧ Fr n0 L ∧ h = h0
set_option maxRecDepth 65536 in
set_option maxHeartbeats 40000000 in
theorem rm2 (l : Launch) (Z : State) (a0 : Array Value) (hw : ∀ d ∈ tables_1, d.before a0 Z = true) (ws : List Jvm.Cond) (a1 : Addr) (h0 : Heap) (n0 : Nat) (Z0 : n0 ≤ h0.size) :
    MetFree l (⟨"java/lang/Record", "<init>", "()V"⟩ : MethodName) (head1 (Jvm.Cond.code (⟨"java/lang/Record", "<init>", "()V"⟩ : MethodName) jdk_30_method_1_code 1 none :: ws) ({ frames := 1, cells := 0, slots := 0, locals := 12 } : Room)) (fun a U => a = #[(.ref a1)] ∧ Z.Warmed39 U.vm ∧ U.heap = h0) (fun _ _ _ _ _ => True) (fun _ U o U' => ∃ v L, o = .returned v ∧ Q2 Z a1 h0 n0 v U'.heap L ∧ FrameEnd U o U' L ({ frames := 1, cells := 0, slots := 0, locals := 12 } : Room).cells ({ frames := 1, cells := 0, slots := 0, locals := 12 } : Room).slots) := by
  refine MetFree.of_bodySF (plainFor_of_name pn_rm2) hisR ?_
  intro p e s m args below meth c s₁ Bd hml0 hP hK
  obtain ⟨rfl, hZ, hh⟩ := hP
  have hx := Bd.exec
  have hby := Bd.bytes
  have hlk : meth.locks = false := BodyLoose.notSynchronized Bd
  have hml : c.maxLocals = 1 := hml0
  have hown : s.vm.findClass "java/lang/Record" = some m.cls := findClass_of_methodNamed Bd.named
  have hnm := (name_of_methodNamed Bd.named Bd.method).1
  have X0 : Stand p l e ({ frames := 1, cells := 0, slots := 0, locals := 12 } : Room) s m #[(.ref a1)] below meth c s₁ [] 0 0 := Stand.of_body Bd
  have e0 : s₁.heap = h0 := by rw [← hh, Bd.state]; rfl
  have N0 := Fr.nil n0
  show OwnW p e below (OwnG s (Q2 Z a1 h0 n0) ({ frames := 1, cells := 0, slots := 0, locals := 12 } : Room).cells ({ frames := 1, cells := 0, slots := 0, locals := 12 } : Room).slots) (s₁.setTop (entryFrame m #[(.ref a1)] 1))
  rw [ef_rm2]
  refine own_aloadN X0 hx (hb hby d2_0) rfl rfl 1 rfl ?_
  refine own_initO X0 hx hZ hown (hw _ (List.mem_of_getElem? (i := 11) rfl)) (hw _ (List.mem_of_getElem? (i := 12) rfl)) (hw _ (List.mem_of_getElem? (i := 13) rfl)) e0 (by rw [hml]; rfl) (hb hby d2_1) (by decide) 0 (Nat.le_of_eq rfl) (by decide) 4 rfl ?_
  intro T1 X1 e1
  refine own_retV X1 hx hlk Bd.returns (hb hby d2_4) (by decide) (by decide) ?_
  show Q2 Z a1 h0 n0 _ T1.heap _
  rw [e1]
  exact ⟨rfl, N0, rfl⟩
theorem d1_0 : decode prog_36_method_1_code 0 = .ok (.aload_n 0, 1) := by decide +kernel
theorem d1_1 : decode prog_36_method_1_code 1 = .ok (.invokespecial 1, 3) := by decide +kernel
theorem d1_4 : decode prog_36_method_1_code 4 = .ok (.aload_n 0, 1) := by decide +kernel
theorem d1_5 : decode prog_36_method_1_code 5 = .ok (.iload_n 1, 1) := by decide +kernel
theorem d1_6 : decode prog_36_method_1_code 6 = .ok (.putfield 7, 3) := by decide +kernel
theorem d1_9 : decode prog_36_method_1_code 9 = .ok (.aload_n 0, 1) := by decide +kernel
theorem d1_10 : decode prog_36_method_1_code 10 = .ok (.iload_n 2, 1) := by decide +kernel
theorem d1_11 : decode prog_36_method_1_code 11 = .ok (.putfield 13, 3) := by decide +kernel
theorem d1_14 : decode prog_36_method_1_code 14 = .ok (.aload_n 0, 1) := by decide +kernel
theorem d1_15 : decode prog_36_method_1_code 15 = .ok (.iload_n 3, 1) := by decide +kernel
theorem d1_16 : decode prog_36_method_1_code 16 = .ok (.putfield 16, 3) := by decide +kernel
theorem d1_19 : decode prog_36_method_1_code 19 = .ok (.aload_n 0, 1) := by decide +kernel
theorem d1_20 : decode prog_36_method_1_code 20 = .ok (.lload 4, 2) := by decide +kernel
theorem d1_22 : decode prog_36_method_1_code 22 = .ok (.putfield 19, 3) := by decide +kernel
theorem d1_25 : decode prog_36_method_1_code 25 = .ok (.aload_n 0, 1) := by decide +kernel
theorem d1_26 : decode prog_36_method_1_code 26 = .ok (.lload 6, 2) := by decide +kernel
theorem d1_28 : decode prog_36_method_1_code 28 = .ok (.putfield 23, 3) := by decide +kernel
theorem d1_31 : decode prog_36_method_1_code 31 = .ok (.return_, 1) := by decide +kernel
theorem pn_rm1 : plainName "com/example/rollcall/rollcall/Coordinator$Settings" = true := by first | (simp [plainName, overriddenIn]; done) | decide +kernel
theorem ef_rm1 (m : MethodId) (x0 : Addr) (x1 : Int32) (x2 : Int32) (x3 : Int32) (x4 : Int64) (x5 : Int64) : entryFrame m #[(.ref x0), (.int x1), (.int x2), (.int x3), (.long x4), (.long x5)] 8 = mkF m 0 #[.val (.ref x0), .val (.int x1), .val (.int x2), .val (.int x3), .val (.long x4), .second, .val (.long x5), .second] [] := by first | (simp [entryFrame, mkF, argsToLocals, Value.category]; done) | rfl
def Q1 (Z : State) (a1 : Addr) (p2 : Int32) (p3 : Int32) (p4 : Int32) (q5 : Int64) (q6 : Int64) (u0 : Value) (u1 : Value) (u2 : Value) (u3 : Value) (u4 : Value) (h0 : Heap) (n0 : Nat) (v : Option Value) (h : Heap) (L : List Loc) : Prop := v = none ∧ Fr n0 L ∧ Keep h0 h [a1] ∧ Exa Z h a1 "com/example/rollcall/rollcall/Coordinator$Settings" ∧ Fld Z h a1 "com/example/rollcall/rollcall/Coordinator$Settings" "minSessionTimeoutMs" "I" (.int p2) ∧ Fld Z h a1 "com/example/rollcall/rollcall/Coordinator$Settings" "maxSessionTimeoutMs" "I" (.int p3)
set_option maxRecDepth 65536 in
set_option maxHeartbeats 40000000 in
theorem rm1 (l : Launch) (Z : State) (a0 : Array Value) (hw : ∀ d ∈ tables_1, d.before a0 Z = true) (ws : List Jvm.Cond) (a1 : Addr) (p2 : Int32) (p3 : Int32) (p4 : Int32) (q5 : Int64) (q6 : Int64) (u0 : Value) (u1 : Value) (u2 : Value) (u3 : Value) (u4 : Value) (h0 : Heap) (n0 : Nat) (Z0 : n0 ≤ h0.size) (E_a1 : Exa Z h0 a1 "com/example/rollcall/rollcall/Coordinator$Settings") (g_a1 : n0 ≤ a1) (F_minSessionTimeoutMs_a1 : Fld Z h0 a1 "com/example/rollcall/rollcall/Coordinator$Settings" "minSessionTimeoutMs" "I" u0) (F_maxSessionTimeoutMs_a1 : Fld Z h0 a1 "com/example/rollcall/rollcall/Coordinator$Settings" "maxSessionTimeoutMs" "I" u1) (F_joinWindowMs_a1 : Fld Z h0 a1 "com/example/rollcall/rollcall/Coordinator$Settings" "joinWindowMs" "I" u2) (F_retentionMs_a1 : Fld Z h0 a1 "com/example/rollcall/rollcall/Coordinator$Settings" "retentionMs" "J" u3) (F_maxHeldBytes_a1 : Fld Z h0 a1 "com/example/rollcall/rollcall/Coordinator$Settings" "maxHeldBytes" "J" u4) :
    MetFree l (⟨"com/example/rollcall/rollcall/Coordinator$Settings", "<init>", "(IIIJJ)V"⟩ : MethodName) (head1 (Jvm.Cond.code (⟨"com/example/rollcall/rollcall/Coordinator$Settings", "<init>", "(IIIJJ)V"⟩ : MethodName) prog_36_method_1_code 8 none :: ws) ({ frames := 2, cells := 0, slots := 0, locals := 24 } : Room)) (fun a U => a = #[(.ref a1), (.int p2), (.int p3), (.int p4), (.long q5), (.long q6)] ∧ Z.Warmed39 U.vm ∧ U.heap = h0) (fun _ _ _ _ _ => True) (fun _ U o U' => ∃ v L, o = .returned v ∧ Q1 Z a1 p2 p3 p4 q5 q6 u0 u1 u2 u3 u4 h0 n0 v U'.heap L ∧ FrameEnd U o U' L ({ frames := 2, cells := 0, slots := 0, locals := 24 } : Room).cells ({ frames := 2, cells := 0, slots := 0, locals := 24 } : Room).slots) := by
  refine MetFree.of_bodySF (plainFor_of_name pn_rm1) hisR ?_
  intro p e s m args below meth c s₁ Bd hml0 hP hK
  obtain ⟨rfl, hZ, hh⟩ := hP
  have hx := Bd.exec
  have hby := Bd.bytes
  have hlk : meth.locks = false := BodyLoose.notSynchronized Bd
  have hml : c.maxLocals = 8 := hml0
  have hown : s.vm.findClass "com/example/rollcall/rollcall/Coordinator$Settings" = some m.cls := findClass_of_methodNamed Bd.named
  have hnm := (name_of_methodNamed Bd.named Bd.method).1
  have X0 : Stand p l e ({ frames := 2, cells := 0, slots := 0, locals := 24 } : Room) s m #[(.ref a1), (.int p2), (.int p3), (.int p4), (.long q5), (.long q6)] below meth c s₁ [] 0 0 := Stand.of_body Bd
  have e0 : s₁.heap = h0 := by rw [← hh, Bd.state]; rfl
  have N0 := Fr.nil n0
  show OwnW p e below (OwnG s (Q1 Z a1 p2 p3 p4 q5 q6 u0 u1 u2 u3 u4 h0 n0) ({ frames := 2, cells := 0, slots := 0, locals := 24 } : Room).cells ({ frames := 2, cells := 0, slots := 0, locals := 24 } : Room).slots) (s₁.setTop (entryFrame m #[(.ref a1), (.int p2), (.int p3), (.int p4), (.long q5), (.long q6)] 8))
  rw [ef_rm1]
  refine own_aloadN X0 hx (hb hby d1_0) rfl rfl 1 rfl ?_
  refine own_callI X0 hx hZ hown rfl (hw _ (List.mem_of_getElem? (i := 6) rfl)) (hw _ (List.mem_of_getElem? (i := 7) rfl)) (hw _ (List.mem_of_getElem? (i := 10) rfl)) (hw _ (List.mem_of_getElem? (i := 9) rfl)) (by decide) (rm2 l Z a0 hw [] a1 h0 n0 Z0) e0 (hb hby d1_1) pd___V rfl (by rw [hml]; rfl) (st := []) rfl 0 (Nat.le_of_eq rfl) (by decide) (by decide) (by decide) (by decide) 4 rfl ?_
  intro T1 v1 L1 X1 hQ1
  obtain ⟨rfl, N1q, e1⟩ := hQ1
  have N1 := Fr.app N0 N1q
  show OwnW p e below (OwnG s (Q1 Z a1 p2 p3 p4 q5 q6 u0 u1 u2 u3 u4 h0 n0) ({ frames := 2, cells := 0, slots := 0, locals := 24 } : Room).cells ({ frames := 2, cells := 0, slots := 0, locals := 24 } : Room).slots) (T1.setTop (mkF m 4 #[.val (.ref a1), .val (.int p2), .val (.int p3), .val (.int p4), .val (.long q5), .second, .val (.long q6), .second] []))
  refine own_aloadN X1 hx (hb hby d1_4) rfl rfl 5 rfl ?_
  refine own_iloadN X1 hx (hb hby d1_5) rfl 6 rfl ?_
  refine own_putF X1 hx hZ hown (hw _ (List.mem_of_getElem? (i := 14) rfl)) Via.refl e1 F_minSessionTimeoutMs_a1 E_a1 (Or.inr ⟨(hw _ (List.mem_of_getElem? (i := 15) rfl)), rfl, hnm⟩) (hw _ (List.mem_of_getElem? (i := 1) rfl)) (ty := .int) (by decide) rfl rfl (hb hby d1_6) 9 rfl ?_
  intro T2 h2 X2 e2 W2
  have Fw2 := F_minSessionTimeoutMs_a1.same W2
  have N2 := Fr.snoc X2 N1 g_a1
  refine own_aloadN X2 hx (hb hby d1_9) rfl rfl 10 rfl ?_
  refine own_iloadN X2 hx (hb hby d1_10) rfl 11 rfl ?_
  have Fa1_maxSessionTimeoutMs_3 := (F_maxSessionTimeoutMs_a1.other W2 (Or.inr (slot_ne (Or.inr (hw _ (List.mem_of_getElem? (i := 17) rfl))) (Or.inr (hw _ (List.mem_of_getElem? (i := 15) rfl))) (by decide) (t := .int) (t' := .int) (by decide) (by decide))))
  have Ea1_4 := (E_a1.wr W2)
  refine own_putF X2 hx hZ hown (hw _ (List.mem_of_getElem? (i := 16) rfl)) Via.refl e2 Fa1_maxSessionTimeoutMs_3 Ea1_4 (Or.inr ⟨(hw _ (List.mem_of_getElem? (i := 17) rfl)), rfl, hnm⟩) (hw _ (List.mem_of_getElem? (i := 1) rfl)) (ty := .int) (by decide) rfl rfl (hb hby d1_11) 14 rfl ?_
  intro T5 h5 X5 e5 W5
  have Fw5 := Fa1_maxSessionTimeoutMs_3.same W5
  have N5 := Fr.snoc X5 N2 g_a1
  refine own_aloadN X5 hx (hb hby d1_14) rfl rfl 15 rfl ?_
  refine own_iloadN X5 hx (hb hby d1_15) rfl 16 rfl ?_
  have Fa1_joinWindowMs_6 := ((F_joinWindowMs_a1.other W2 (Or.inr (slot_ne (Or.inr (hw _ (List.mem_of_getElem? (i := 19) rfl))) (Or.inr (hw _ (List.mem_of_getElem? (i := 15) rfl))) (by decide) (t := .int) (t' := .int) (by decide) (by decide)))).other W5 (Or.inr (slot_ne (Or.inr (hw _ (List.mem_of_getElem? (i := 19) rfl))) (Or.inr (hw _ (List.mem_of_getElem? (i := 17) rfl))) (by decide) (t := .int) (t' := .int) (by decide) (by decide))))
  have Ea1_7 := (Ea1_4.wr W5)
  refine own_putF X5 hx hZ hown (hw _ (List.mem_of_getElem? (i := 18) rfl)) Via.refl e5 Fa1_joinWindowMs_6 Ea1_7 (Or.inr ⟨(hw _ (List.mem_of_getElem? (i := 19) rfl)), rfl, hnm⟩) (hw _ (List.mem_of_getElem? (i := 1) rfl)) (ty := .int) (by decide) rfl rfl (hb hby d1_16) 19 rfl ?_
  intro T8 h8 X8 e8 W8
  have Fw8 := Fa1_joinWindowMs_6.same W8
  have N8 := Fr.snoc X8 N5 g_a1
  refine own_aloadN X8 hx (hb hby d1_19) rfl rfl 20 rfl ?_
  refine own_lload X8 hx (hb hby d1_20) rfl 22 rfl ?_
  have Fa1_retentionMs_9 := (((F_retentionMs_a1.other W2 (Or.inr (slot_ne (Or.inr (hw _ (List.mem_of_getElem? (i := 21) rfl))) (Or.inr (hw _ (List.mem_of_getElem? (i := 15) rfl))) (by decide) (t := .long) (t' := .int) (by decide) (by decide)))).other W5 (Or.inr (slot_ne (Or.inr (hw _ (List.mem_of_getElem? (i := 21) rfl))) (Or.inr (hw _ (List.mem_of_getElem? (i := 17) rfl))) (by decide) (t := .long) (t' := .int) (by decide) (by decide)))).other W8 (Or.inr (slot_ne (Or.inr (hw _ (List.mem_of_getElem? (i := 21) rfl))) (Or.inr (hw _ (List.mem_of_getElem? (i := 19) rfl))) (by decide) (t := .long) (t' := .int) (by decide) (by decide))))
  have Ea1_10 := (Ea1_7.wr W8)
  refine own_putF X8 hx hZ hown (hw _ (List.mem_of_getElem? (i := 20) rfl)) Via.refl e8 Fa1_retentionMs_9 Ea1_10 (Or.inr ⟨(hw _ (List.mem_of_getElem? (i := 21) rfl)), rfl, hnm⟩) (hw _ (List.mem_of_getElem? (i := 1) rfl)) (ty := .long) (by decide) rfl rfl (hb hby d1_22) 25 rfl ?_
  intro T11 h11 X11 e11 W11
  have Fw11 := Fa1_retentionMs_9.same W11
  have N11 := Fr.snoc X11 N8 g_a1
  refine own_aloadN X11 hx (hb hby d1_25) rfl rfl 26 rfl ?_
  refine own_lload X11 hx (hb hby d1_26) rfl 28 rfl ?_
  have Fa1_maxHeldBytes_12 := ((((F_maxHeldBytes_a1.other W2 (Or.inr (slot_ne (Or.inr (hw _ (List.mem_of_getElem? (i := 23) rfl))) (Or.inr (hw _ (List.mem_of_getElem? (i := 15) rfl))) (by decide) (t := .long) (t' := .int) (by decide) (by decide)))).other W5 (Or.inr (slot_ne (Or.inr (hw _ (List.mem_of_getElem? (i := 23) rfl))) (Or.inr (hw _ (List.mem_of_getElem? (i := 17) rfl))) (by decide) (t := .long) (t' := .int) (by decide) (by decide)))).other W8 (Or.inr (slot_ne (Or.inr (hw _ (List.mem_of_getElem? (i := 23) rfl))) (Or.inr (hw _ (List.mem_of_getElem? (i := 19) rfl))) (by decide) (t := .long) (t' := .int) (by decide) (by decide)))).other W11 (Or.inr (slot_ne (Or.inr (hw _ (List.mem_of_getElem? (i := 23) rfl))) (Or.inr (hw _ (List.mem_of_getElem? (i := 21) rfl))) (by decide) (t := .long) (t' := .long) (by decide) (by decide))))
  have Ea1_13 := (Ea1_10.wr W11)
  refine own_putF X11 hx hZ hown (hw _ (List.mem_of_getElem? (i := 22) rfl)) Via.refl e11 Fa1_maxHeldBytes_12 Ea1_13 (Or.inr ⟨(hw _ (List.mem_of_getElem? (i := 23) rfl)), rfl, hnm⟩) (hw _ (List.mem_of_getElem? (i := 1) rfl)) (ty := .long) (by decide) rfl rfl (hb hby d1_28) 31 rfl ?_
  intro T14 h14 X14 e14 W14
  have Fw14 := Fa1_maxHeldBytes_12.same W14
  have N14 := Fr.snoc X14 N11 g_a1
  refine own_retV X14 hx hlk Bd.returns (hb hby d1_31) (by decide) (by decide) ?_
  have K15 : Keep h0 h14 [a1] := ((((((Keep.refl h0 [a1]).wr W2 (Or.inl (List.mem_of_getElem? (i := 0) rfl))).wr W5 (Or.inl (List.mem_of_getElem? (i := 0) rfl))).wr W8 (Or.inl (List.mem_of_getElem? (i := 0) rfl))).wr W11 (Or.inl (List.mem_of_getElem? (i := 0) rfl))).wr W14 (Or.inl (List.mem_of_getElem? (i := 0) rfl)))
  have Ea1_16 := (Ea1_13.wr W14)
  have Fa1_minSessionTimeoutMs_17 := ((((Fw2.other W5 (Or.inr (slot_ne (Or.inr (hw _ (List.mem_of_getElem? (i := 15) rfl))) (Or.inr (hw _ (List.mem_of_getElem? (i := 17) rfl))) (by decide) (t := .int) (t' := .int) (by decide) (by decide)))).other W8 (Or.inr (slot_ne (Or.inr (hw _ (List.mem_of_getElem? (i := 15) rfl))) (Or.inr (hw _ (List.mem_of_getElem? (i := 19) rfl))) (by decide) (t := .int) (t' := .int) (by decide) (by decide)))).other W11 (Or.inr (slot_ne (Or.inr (hw _ (List.mem_of_getElem? (i := 15) rfl))) (Or.inr (hw _ (List.mem_of_getElem? (i := 21) rfl))) (by decide) (t := .int) (t' := .long) (by decide) (by decide)))).other W14 (Or.inr (slot_ne (Or.inr (hw _ (List.mem_of_getElem? (i := 15) rfl))) (Or.inr (hw _ (List.mem_of_getElem? (i := 23) rfl))) (by decide) (t := .int) (t' := .long) (by decide) (by decide))))
  have Fa1_maxSessionTimeoutMs_18 := (((Fw5.other W8 (Or.inr (slot_ne (Or.inr (hw _ (List.mem_of_getElem? (i := 17) rfl))) (Or.inr (hw _ (List.mem_of_getElem? (i := 19) rfl))) (by decide) (t := .int) (t' := .int) (by decide) (by decide)))).other W11 (Or.inr (slot_ne (Or.inr (hw _ (List.mem_of_getElem? (i := 17) rfl))) (Or.inr (hw _ (List.mem_of_getElem? (i := 21) rfl))) (by decide) (t := .int) (t' := .long) (by decide) (by decide)))).other W14 (Or.inr (slot_ne (Or.inr (hw _ (List.mem_of_getElem? (i := 17) rfl))) (Or.inr (hw _ (List.mem_of_getElem? (i := 23) rfl))) (by decide) (t := .int) (t' := .long) (by decide) (by decide))))
  show Q1 Z a1 p2 p3 p4 q5 q6 u0 u1 u2 u3 u4 h0 n0 _ T14.heap _
  rw [e14]
  exact ⟨rfl, N14, K15, Ea1_16, Fa1_minSessionTimeoutMs_17, Fa1_maxSessionTimeoutMs_18⟩
theorem d4_0 : decode prog_36_method_2_code 0 = .ok (.iload_n 1, 1) := by decide +kernel
theorem d4_1 : decode prog_36_method_2_code 1 = .ok (.aload_n 0, 1) := by decide +kernel
theorem d4_2 : decode prog_36_method_2_code 2 = .ok (.getfield 7, 3) := by decide +kernel
theorem d4_5 : decode prog_36_method_2_code 5 = .ok (.if_icmp .lt 15, 3) := by decide +kernel
theorem d4_8 : decode prog_36_method_2_code 8 = .ok (.iload_n 1, 1) := by decide +kernel
theorem d4_9 : decode prog_36_method_2_code 9 = .ok (.aload_n 0, 1) := by decide +kernel
theorem d4_10 : decode prog_36_method_2_code 10 = .ok (.getfield 13, 3) := by decide +kernel
theorem d4_13 : decode prog_36_method_2_code 13 = .ok (.if_icmp .gt 7, 3) := by decide +kernel
theorem d4_16 : decode prog_36_method_2_code 16 = .ok (.iconst 1, 1) := by decide +kernel
theorem d4_17 : decode prog_36_method_2_code 17 = .ok (.goto 4, 3) := by decide +kernel
theorem d4_20 : decode prog_36_method_2_code 20 = .ok (.iconst 0, 1) := by decide +kernel
theorem d4_21 : decode prog_36_method_2_code 21 = .ok (.ireturn, 1) := by decide +kernel
theorem pn_rm4 : plainName "com/example/rollcall/rollcall/Coordinator$Settings" = true := by first | (simp [plainName, overriddenIn]; done) | decide +kernel
theorem ef_rm4 (m : MethodId) (x0 : Addr) (x1 : Int32) : entryFrame m #[(.ref x0), (.int x1)] 2 = mkF m 0 #[.val (.ref x0), .val (.int x1)] [] := by first | (simp [entryFrame, mkF, argsToLocals, Value.category]; done) | rfl
def own_allows (p2 : Int32) (w3 : Int32) (w5 : Int32) : Int32 := (if p2 < w3 then (0 : Int32) else (if w5 < p2 then (0 : Int32) else (1 : Int32)))
def Q4 (Z : State) (a1 : Addr) (p2 : Int32) (w3 : Int32) (w5 : Int32) (h0 : Heap) (n0 : Nat) (v : Option Value) (h : Heap) (L : List Loc) : Prop := v = some (.int (own_allows p2 w3 w5)) ∧ Fr n0 L ∧ h = h0
set_option maxRecDepth 65536 in
set_option maxHeartbeats 40000000 in
theorem rm4 (l : Launch) (Z : State) (a0 : Array Value) (hw : ∀ d ∈ tables_1, d.before a0 Z = true) (ws : List Jvm.Cond) (a1 : Addr) (p2 : Int32) (w3 : Int32) (w5 : Int32) (h0 : Heap) (n0 : Nat) (Z0 : n0 ≤ h0.size) (F_minSessionTimeoutMs_a1 : Fld Z h0 a1 "com/example/rollcall/rollcall/Coordinator$Settings" "minSessionTimeoutMs" "I" (.int w3)) (F_maxSessionTimeoutMs_a1 : Fld Z h0 a1 "com/example/rollcall/rollcall/Coordinator$Settings" "maxSessionTimeoutMs" "I" (.int w5)) :
    MetFree l (⟨"com/example/rollcall/rollcall/Coordinator$Settings", "allowsSessionTimeout", "(I)Z"⟩ : MethodName) (head1 (Jvm.Cond.code (⟨"com/example/rollcall/rollcall/Coordinator$Settings", "allowsSessionTimeout", "(I)Z"⟩ : MethodName) prog_36_method_2_code 2 (some .boolean) :: ws) ({ frames := 0, cells := 0, slots := 0, locals := 0 } : Room)) (fun a U => a = #[(.ref a1), (.int p2)] ∧ Z.Warmed39 U.vm ∧ U.heap = h0) (fun _ _ _ _ _ => True) (fun _ U o U' => ∃ v L, o = .returned v ∧ Q4 Z a1 p2 w3 w5 h0 n0 v U'.heap L ∧ FrameEnd U o U' L ({ frames := 0, cells := 0, slots := 0, locals := 0 } : Room).cells ({ frames := 0, cells := 0, slots := 0, locals := 0 } : Room).slots) := by
  refine MetFree.of_bodySF (plainFor_of_name pn_rm4) hisR ?_
  intro p e s m args below meth c s₁ Bd hml0 hP hK
  obtain ⟨rfl, hZ, hh⟩ := hP
  have hx := Bd.exec
  have hby := Bd.bytes
  have hlk : meth.locks = false := BodyLoose.notSynchronized Bd
  have hml : c.maxLocals = 2 := hml0
  have hown : s.vm.findClass "com/example/rollcall/rollcall/Coordinator$Settings" = some m.cls := findClass_of_methodNamed Bd.named
  have hnm := (name_of_methodNamed Bd.named Bd.method).1
  have X0 : Stand p l e ({ frames := 0, cells := 0, slots := 0, locals := 0 } : Room) s m #[(.ref a1), (.int p2)] below meth c s₁ [] 0 0 := Stand.of_body Bd
  have e0 : s₁.heap = h0 := by rw [← hh, Bd.state]; rfl
  have N0 := Fr.nil n0
  show OwnW p e below (OwnG s (Q4 Z a1 p2 w3 w5 h0 n0) ({ frames := 0, cells := 0, slots := 0, locals := 0 } : Room).cells ({ frames := 0, cells := 0, slots := 0, locals := 0 } : Room).slots) (s₁.setTop (entryFrame m #[(.ref a1), (.int p2)] 2))
  rw [ef_rm4]
  refine own_iloadN X0 hx (hb hby d4_0) rfl 1 rfl ?_
  refine own_aloadN X0 hx (hb hby d4_1) rfl rfl 2 rfl ?_
  refine own_getF X0 hx hZ hown (hw _ (List.mem_of_getElem? (i := 14) rfl)) Via.refl e0 F_minSessionTimeoutMs_a1 (hb hby d4_2) 5 rfl ?_
  intro T1 X1 e1
  by_cases hc5 : p2 < w3
  · -- hc5
    refine own_icmpY X1 hx (hb hby d4_5) (tlt hc5).1 20 (by decide) ?_
    refine own_iconst X1 hx (hb hby d4_20) (0 : Int32) rfl 21 rfl ?_
    refine own_retZ X1 hx hlk Bd.returns (by decide) (hb hby d4_21) (by decide) (by decide) ?_
    show Q4 Z a1 p2 w3 w5 h0 n0 _ T1.heap _
    rw [e1]
    exact ⟨by rw [own_allows, if_pos hc5], N0, rfl⟩
  · -- not hc5
    refine own_icmpN X1 hx (hb hby d4_5) (flt hc5).1 8 (by decide) ?_
    refine own_iloadN X1 hx (hb hby d4_8) rfl 9 rfl ?_
    refine own_aloadN X1 hx (hb hby d4_9) rfl rfl 10 rfl ?_
    refine own_getF X1 hx hZ hown (hw _ (List.mem_of_getElem? (i := 16) rfl)) Via.refl e1 F_maxSessionTimeoutMs_a1 (hb hby d4_10) 13 rfl ?_
    intro T2 X2 e2
    by_cases hc13 : w5 < p2
    · -- hc13
      refine own_icmpY X2 hx (hb hby d4_13) (tlt hc13).2.2.1 20 (by decide) ?_
      refine own_iconst X2 hx (hb hby d4_20) (0 : Int32) rfl 21 rfl ?_
      refine own_retZ X2 hx hlk Bd.returns (by decide) (hb hby d4_21) (by decide) (by decide) ?_
      show Q4 Z a1 p2 w3 w5 h0 n0 _ T2.heap _
      rw [e2]
      exact ⟨by rw [own_allows, if_neg hc5, if_pos hc13], N0, rfl⟩
    · -- not hc13
      refine own_icmpN X2 hx (hb hby d4_13) (flt hc13).2.2.1 16 (by decide) ?_
      refine own_iconst X2 hx (hb hby d4_16) (1 : Int32) rfl 17 rfl ?_
      refine own_goto X2 hx (hb hby d4_17) 21 (by decide) ?_
      refine own_retZ X2 hx hlk Bd.returns (by decide) (hb hby d4_21) (by decide) (by decide) ?_
      show Q4 Z a1 p2 w3 w5 h0 n0 _ T2.heap _
      rw [e2]
      exact ⟨by rw [own_allows, if_neg hc5, if_neg hc13], N0, rfl⟩
theorem d5_0 : decode method_2_code 0 = .ok (.iload_n 0, 1) := by decide +kernel
theorem d5_1 : decode method_2_code 1 = .ok (.i2l, 1) := by decide +kernel
theorem d5_2 : decode method_2_code 2 = .ok (.iload_n 1, 1) := by decide +kernel
theorem d5_3 : decode method_2_code 3 = .ok (.i2l, 1) := by decide +kernel
theorem d5_4 : decode method_2_code 4 = .ok (.lsub, 1) := by decide +kernel
theorem d5_5 : decode method_2_code 5 = .ok (.lstore_n 3, 1) := by decide +kernel
theorem d5_6 : decode method_2_code 6 = .ok (.iload_n 2, 1) := by decide +kernel
theorem d5_7 : decode method_2_code 7 = .ok (.i2l, 1) := by decide +kernel
theorem d5_8 : decode method_2_code 8 = .ok (.iload_n 0, 1) := by decide +kernel
theorem d5_9 : decode method_2_code 9 = .ok (.i2l, 1) := by decide +kernel
theorem d5_10 : decode method_2_code 10 = .ok (.lsub, 1) := by decide +kernel
theorem d5_11 : decode method_2_code 11 = .ok (.lstore 5, 2) := by decide +kernel
theorem d5_13 : decode method_2_code 13 = .ok (.lload_n 3, 1) := by decide +kernel
theorem d5_14 : decode method_2_code 14 = .ok (.lconst 0, 1) := by decide +kernel
theorem d5_15 : decode method_2_code 15 = .ok (.lcmp, 1) := by decide +kernel
theorem d5_16 : decode method_2_code 16 = .ok (.ifCond .lt 14, 3) := by decide +kernel
theorem d5_19 : decode method_2_code 19 = .ok (.lload 5, 2) := by decide +kernel
theorem d5_21 : decode method_2_code 21 = .ok (.lconst 0, 1) := by decide +kernel
theorem d5_22 : decode method_2_code 22 = .ok (.lcmp, 1) := by decide +kernel
theorem d5_23 : decode method_2_code 23 = .ok (.ifCond .lt 7, 3) := by decide +kernel
theorem d5_26 : decode method_2_code 26 = .ok (.iconst 1, 1) := by decide +kernel
theorem d5_27 : decode method_2_code 27 = .ok (.goto 4, 3) := by decide +kernel
theorem d5_30 : decode method_2_code 30 = .ok (.iconst 0, 1) := by decide +kernel
theorem d5_31 : decode method_2_code 31 = .ok (.ireturn, 1) := by decide +kernel
theorem pn_rm5 : plainName "com/example/rollcall/rollcall/SettingsAllowsSessionTimeoutPinLaw" = true := by first | (simp [plainName, overriddenIn]; done) | decide +kernel
theorem ef_rm5 (m : MethodId) (x0 : Int32) (x1 : Int32) (x2 : Int32) : entryFrame m #[(.int x0), (.int x1), (.int x2)] 7 = mkF m 0 #[.val (.int x0), .val (.int x1), .val (.int x2), .unset, .unset, .unset, .unset] [] := by first | (simp [entryFrame, mkF, argsToLocals, Value.category]; done) | rfl
def own_within (p1 : Int32) (p2 : Int32) (p3 : Int32) : Int32 := (if ((p1.toInt64) - (p2.toInt64)) < (0 : Int64) then (0 : Int32) else (if ((p3.toInt64) - (p1.toInt64)) < (0 : Int64) then (0 : Int32) else (1 : Int32)))
def Q5 (Z : State) (p1 : Int32) (p2 : Int32) (p3 : Int32) (h0 : Heap) (n0 : Nat) (v : Option Value) (h : Heap) (L : List Loc) : Prop := v = some (.int (own_within p1 p2 p3)) ∧ Fr n0 L ∧ h = h0
set_option maxRecDepth 65536 in
set_option maxHeartbeats 40000000 in
theorem rm5 (l : Launch) (Z : State) (a0 : Array Value) (hw : ∀ d ∈ tables_1, d.before a0 Z = true) (ws : List Jvm.Cond) (p1 : Int32) (p2 : Int32) (p3 : Int32) (h0 : Heap) (n0 : Nat) (Z0 : n0 ≤ h0.size) :
    MetFree l (⟨"com/example/rollcall/rollcall/SettingsAllowsSessionTimeoutPinLaw", "within", "(III)Z"⟩ : MethodName) (head1 (Jvm.Cond.code (⟨"com/example/rollcall/rollcall/SettingsAllowsSessionTimeoutPinLaw", "within", "(III)Z"⟩ : MethodName) method_2_code 7 (some .boolean) :: ws) ({ frames := 0, cells := 0, slots := 0, locals := 0 } : Room)) (fun a U => a = #[(.int p1), (.int p2), (.int p3)] ∧ Z.Warmed39 U.vm ∧ U.heap = h0) (fun _ _ _ _ _ => True) (fun _ U o U' => ∃ v L, o = .returned v ∧ Q5 Z p1 p2 p3 h0 n0 v U'.heap L ∧ FrameEnd U o U' L ({ frames := 0, cells := 0, slots := 0, locals := 0 } : Room).cells ({ frames := 0, cells := 0, slots := 0, locals := 0 } : Room).slots) := by
  refine MetFree.of_bodySF (plainFor_of_name pn_rm5) hisR ?_
  intro p e s m args below meth c s₁ Bd hml0 hP hK
  obtain ⟨rfl, hZ, hh⟩ := hP
  have hx := Bd.exec
  have hby := Bd.bytes
  have hlk : meth.locks = false := BodyLoose.notSynchronized Bd
  have hml : c.maxLocals = 7 := hml0
  have hown : s.vm.findClass "com/example/rollcall/rollcall/SettingsAllowsSessionTimeoutPinLaw" = some m.cls := findClass_of_methodNamed Bd.named
  have hnm := (name_of_methodNamed Bd.named Bd.method).1
  have X0 : Stand p l e ({ frames := 0, cells := 0, slots := 0, locals := 0 } : Room) s m #[(.int p1), (.int p2), (.int p3)] below meth c s₁ [] 0 0 := Stand.of_body Bd
  have e0 : s₁.heap = h0 := by rw [← hh, Bd.state]; rfl
  have N0 := Fr.nil n0
  show OwnW p e below (OwnG s (Q5 Z p1 p2 p3 h0 n0) ({ frames := 0, cells := 0, slots := 0, locals := 0 } : Room).cells ({ frames := 0, cells := 0, slots := 0, locals := 0 } : Room).slots) (s₁.setTop (entryFrame m #[(.int p1), (.int p2), (.int p3)] 7))
  rw [ef_rm5]
  refine own_iloadN X0 hx (hb hby d5_0) rfl 1 rfl ?_
  refine own_i2l X0 hx (hb hby d5_1) 2 rfl ?_
  refine own_iloadN X0 hx (hb hby d5_2) rfl 3 rfl ?_
  refine own_i2l X0 hx (hb hby d5_3) 4 rfl ?_
  refine own_lsub X0 hx (hb hby d5_4) 5 rfl ?_
  refine own_lstoreN X0 hx (hb hby d5_5) #[.val (.int p1), .val (.int p2), .val (.int p3), .val (.long ((p1.toInt64) - (p2.toInt64))), .second, .unset, .unset] rfl 6 rfl ?_
  refine own_iloadN X0 hx (hb hby d5_6) rfl 7 rfl ?_
  refine own_i2l X0 hx (hb hby d5_7) 8 rfl ?_
  refine own_iloadN X0 hx (hb hby d5_8) rfl 9 rfl ?_
  refine own_i2l X0 hx (hb hby d5_9) 10 rfl ?_
  refine own_lsub X0 hx (hb hby d5_10) 11 rfl ?_
  refine own_lstore X0 hx (hb hby d5_11) #[.val (.int p1), .val (.int p2), .val (.int p3), .val (.long ((p1.toInt64) - (p2.toInt64))), .second, .val (.long ((p3.toInt64) - (p1.toInt64))), .second] rfl 13 rfl ?_
  refine own_lloadN X0 hx (hb hby d5_13) rfl 14 rfl ?_
  refine own_lconst0 X0 hx (hb hby d5_14) 15 rfl ?_
  refine own_lcmp X0 hx (hb hby d5_15) 16 rfl ?_
  by_cases hc16 : ((p1.toInt64) - (p2.toInt64)) < (0 : Int64)
  · -- hc16
    refine own_ifY X0 hx (hb hby d5_16) (tlt ((lw_lt _ _).mpr hc16)).1 30 (by decide) ?_
    refine own_iconst X0 hx (hb hby d5_30) (0 : Int32) rfl 31 rfl ?_
    refine own_retZ X0 hx hlk Bd.returns (by decide) (hb hby d5_31) (by decide) (by decide) ?_
    show Q5 Z p1 p2 p3 h0 n0 _ s₁.heap _
    rw [e0]
    exact ⟨by rw [own_within, if_pos hc16], N0, rfl⟩
  · -- not hc16
    refine own_ifN X0 hx (hb hby d5_16) (flt (mt (lw_lt _ _).mp hc16)).1 19 (by decide) ?_
    refine own_lload X0 hx (hb hby d5_19) rfl 21 rfl ?_
    refine own_lconst0 X0 hx (hb hby d5_21) 22 rfl ?_
    refine own_lcmp X0 hx (hb hby d5_22) 23 rfl ?_
    by_cases hc23 : ((p3.toInt64) - (p1.toInt64)) < (0 : Int64)
    · -- hc23
      refine own_ifY X0 hx (hb hby d5_23) (tlt ((lw_lt _ _).mpr hc23)).1 30 (by decide) ?_
      refine own_iconst X0 hx (hb hby d5_30) (0 : Int32) rfl 31 rfl ?_
      refine own_retZ X0 hx hlk Bd.returns (by decide) (hb hby d5_31) (by decide) (by decide) ?_
      show Q5 Z p1 p2 p3 h0 n0 _ s₁.heap _
      rw [e0]
      exact ⟨by rw [own_within, if_neg hc16, if_pos hc23], N0, rfl⟩
    · -- not hc23
      refine own_ifN X0 hx (hb hby d5_23) (flt (mt (lw_lt _ _).mp hc23)).1 26 (by decide) ?_
      refine own_iconst X0 hx (hb hby d5_26) (1 : Int32) rfl 27 rfl ?_
      refine own_goto X0 hx (hb hby d5_27) 31 (by decide) ?_
      refine own_retZ X0 hx hlk Bd.returns (by decide) (hb hby d5_31) (by decide) (by decide) ?_
      show Q5 Z p1 p2 p3 h0 n0 _ s₁.heap _
      rw [e0]
      exact ⟨by rw [own_within, if_neg hc16, if_neg hc23], N0, rfl⟩
theorem own_sub (a b : Int32) : (a.toInt64 - b.toInt64).toInt = a.toInt - b.toInt := by
  have h := c_lsub a.toInt64 b.toInt64
  rw [c_i2l, c_i2l] at h
  have h1 := rng32 a; have h2 := rng32 b; have h3 := rng64 (a.toInt64 - b.toInt64)
  omega
theorem own_neg (a b : Int32) : (a.toInt64 - b.toInt64 < (0 : Int64)) ↔ a < b := by
  rw [Int64.lt_iff_toInt_lt, own_sub, Int32.lt_iff_toInt_lt, show (0 : Int64).toInt = 0 from rfl]
  omega
theorem own_law1 (a b c : Int32) : own_allows a b c = own_within a b c := by
  simp only [own_allows, own_within, own_neg]
theorem own_law2 {a b v : Int32} (hv : v = (if (b.toInt64 - a.toInt64) < (0 : Int64) then (0 : Int32) else (1 : Int32))) : own_allows a a b = v := by
  rw [hv]; simp only [own_allows, own_neg, Int32.lt_irrefl, if_false]
theorem own_law3 {a b v : Int32} (hv : v = (if (b.toInt64 - a.toInt64) < (0 : Int64) then (0 : Int32) else (1 : Int32))) : own_allows b a b = v := by
  rw [hv]; simp only [own_allows, own_neg, Int32.lt_irrefl, if_false]
theorem own_law4 {a b : Int32} (h : ¬ (a = (-2147483648 : Int32))) : own_allows (a - (1 : Int32)) a b = (0 : Int32) := by
  have h1 : a - (1 : Int32) < a := by
    rw [Int32.lt_iff_toInt_lt]
    have q := c_isub a 1; have q1 := rng32 a; have q2 := rng32 (a - 1)
    have q3 : a.toInt ≠ -2147483648 := fun e => h (Int32.toInt_inj.mp e)
    rw [show (1 : Int32).toInt = 1 from rfl] at q
    omega
  rw [own_allows, if_pos h1]
theorem own_law5 {a b : Int32} (h : ¬ (b = (2147483647 : Int32))) : own_allows (b + (1 : Int32)) a b = (0 : Int32) := by
  have h1 : b < b + (1 : Int32) := by
    rw [Int32.lt_iff_toInt_lt]
    have q := c_iadd b 1; have q1 := rng32 b; have q2 := rng32 (b + 1)
    have q3 : b.toInt ≠ 2147483647 := fun e => h (Int32.toInt_inj.mp e)
    rw [show (1 : Int32).toInt = 1 from rfl] at q
    omega
  rw [own_allows, if_pos h1]
  split <;> rfl
theorem pn_rm0 : plainName "com/example/rollcall/rollcall/SettingsAllowsSessionTimeoutPinLaw" = true := by first | (simp [plainName, overriddenIn]; done) | decide +kernel
theorem ef_rm0 (m : MethodId) (x0 : Int32) (x1 : Int32) (x2 : Int32) (x3 : Int32) (x4 : Int64) (x5 : Int64) : entryFrame m #[(.int x0), (.int x1), (.int x2), (.int x3), (.long x4), (.long x5)] maxLocals = mkF m 0 #[.val (.int x0), .val (.int x1), .val (.int x2), .val (.int x3), .val (.long x4), .second, .val (.long x5), .second, .unset, .unset, .unset] [] := by first | (simp [entryFrame, mkF, argsToLocals, Value.category, maxLocals]; done) | rfl
def Q0 (Z : State) (i0 : Int32) (i1 : Int32) (i2 : Int32) (i3 : Int32) (j4 : Int64) (j5 : Int64) (h0 : Heap) (n0 : Nat) (v : Option Value) (h : Heap) (L : List Loc) : Prop := v = some (.int (1 : Int32)) ∧ Fr n0 L
set_option maxRecDepth 65536 in
set_option maxHeartbeats 40000000 in
theorem rm0 (l : Launch) (Z : State) (a0 : Array Value) (hw : ∀ d ∈ tables_1, d.before a0 Z = true) (ws : List Jvm.Cond) (i0 : Int32) (i1 : Int32) (i2 : Int32) (i3 : Int32) (j4 : Int64) (j5 : Int64) (h0 : Heap) (n0 : Nat) (Z0 : n0 ≤ h0.size) :
    MetFree l x (head1 (Jvm.Cond.code x code maxLocals ret :: ws) room_1) (fun a U => a = #[(.int i0), (.int i1), (.int i2), (.int i3), (.long j4), (.long j5)] ∧ Z.Warmed39 U.vm ∧ U.heap = h0) (fun _ _ _ _ _ => True) (fun _ U o U' => ∃ v L, o = .returned v ∧ Q0 Z i0 i1 i2 i3 j4 j5 h0 n0 v U'.heap L ∧ FrameEnd U o U' L room_1.cells room_1.slots) := by
  refine MetFree.of_bodySF (plainFor_of_name pn_rm0) hisR ?_
  intro p e s m args below meth c s₁ Bd hml0 hP hK
  obtain ⟨rfl, hZ, hh⟩ := hP
  have hx := Bd.exec
  have hby := Bd.bytes
  have hlk : meth.locks = false := BodyLoose.notSynchronized Bd
  have hml : c.maxLocals = 11 := hml0
  have hown : s.vm.findClass "com/example/rollcall/rollcall/SettingsAllowsSessionTimeoutPinLaw" = some m.cls := findClass_of_methodNamed Bd.named
  have hnm := (name_of_methodNamed Bd.named Bd.method).1
  have X0 : Stand p l e room_1 s m #[(.int i0), (.int i1), (.int i2), (.int i3), (.long j4), (.long j5)] below meth c s₁ [] 0 0 := Stand.of_body Bd
  have e0 : s₁.heap = h0 := by rw [← hh, Bd.state]; rfl
  have N0 := Fr.nil n0
  show OwnW p e below (OwnG s (Q0 Z i0 i1 i2 i3 j4 j5 h0 n0) room_1.cells room_1.slots) (s₁.setTop (entryFrame m #[(.int i0), (.int i1), (.int i2), (.int i3), (.long j4), (.long j5)] maxLocals))
  rw [ef_rm0]
  refine own_new X0 hx hZ hown (hw _ (List.mem_of_getElem? (i := 0) rfl)) (hw _ (List.mem_of_getElem? (i := 1) rfl)) (hw _ (List.mem_of_getElem? (i := 2) rfl)) e0 (hb hby at_0) (by decide) (by decide) 3 rfl ?_
  intro T1 h1 b1 qe1 X1 e1 E1 A1 D1
  have g_b1 : n0 ≤ b1 := Nat.le_trans Z0 (Nat.le_of_eq qe1.symm)
  have F1_minSessionTimeoutMs : Fld Z h1 b1 "com/example/rollcall/rollcall/Coordinator$Settings" "minSessionTimeoutMs" "I" (.int (0 : Int32)) := D1 (Or.inr (hw _ (List.mem_of_getElem? (i := 15) rfl))) (ty := .int) (by decide)
  have F1_maxSessionTimeoutMs : Fld Z h1 b1 "com/example/rollcall/rollcall/Coordinator$Settings" "maxSessionTimeoutMs" "I" (.int (0 : Int32)) := D1 (Or.inr (hw _ (List.mem_of_getElem? (i := 17) rfl))) (ty := .int) (by decide)
  have F1_joinWindowMs : Fld Z h1 b1 "com/example/rollcall/rollcall/Coordinator$Settings" "joinWindowMs" "I" (.int (0 : Int32)) := D1 (Or.inr (hw _ (List.mem_of_getElem? (i := 19) rfl))) (ty := .int) (by decide)
  have F1_retentionMs : Fld Z h1 b1 "com/example/rollcall/rollcall/Coordinator$Settings" "retentionMs" "J" (.long (0 : Int64)) := D1 (Or.inr (hw _ (List.mem_of_getElem? (i := 21) rfl))) (ty := .long) (by decide)
  have F1_maxHeldBytes : Fld Z h1 b1 "com/example/rollcall/rollcall/Coordinator$Settings" "maxHeldBytes" "J" (.long (0 : Int64)) := D1 (Or.inr (hw _ (List.mem_of_getElem? (i := 23) rfl))) (ty := .long) (by decide)
  refine own_dup X1 hx (hb hby at_3) rfl 4 rfl ?_
  refine own_iloadN X1 hx (hb hby at_4) rfl 5 rfl ?_
  refine own_iloadN X1 hx (hb hby at_5) rfl 6 rfl ?_
  refine own_iloadN X1 hx (hb hby at_6) rfl 7 rfl ?_
  refine own_lload X1 hx (hb hby at_7) rfl 9 rfl ?_
  refine own_lload X1 hx (hb hby at_9) rfl 11 rfl ?_
  have Zs2 : n0 ≤ h1.size := (Nat.le_trans Z0 E1.1)
  refine own_callI X1 hx hZ hown rfl (hw _ (List.mem_of_getElem? (i := 3) rfl)) (hw _ (List.mem_of_getElem? (i := 4) rfl)) (hw _ (List.mem_of_getElem? (i := 5) rfl)) (hw _ (List.mem_of_getElem? (i := 2) rfl)) (by decide) (rm1 l Z a0 hw [] b1 i0 i1 i3 j4 j5 (.int (0 : Int32)) (.int (0 : Int32)) (.int (0 : Int32)) (.long (0 : Int64)) (.long (0 : Int64)) h1 n0 Zs2 A1 g_b1 F1_minSessionTimeoutMs F1_maxSessionTimeoutMs F1_joinWindowMs F1_retentionMs F1_maxHeldBytes) e1 (hb hby at_11) pd__IIIJJ_V rfl (by rw [hml]; rfl) (st := [(.ref b1)]) rfl 1 (Nat.le_of_eq rfl) (by decide) (by decide) (by decide) (by decide) 14 rfl ?_
  intro T3 v3 L3 X3 hQ3
  obtain ⟨rfl, N3q, Kc3, P3_0, P3_1, P3_2⟩ := hQ3
  have N3 := Fr.app N0 N3q
  show OwnW p e below (OwnG s (Q0 Z i0 i1 i2 i3 j4 j5 h0 n0) room_1.cells room_1.slots) (T3.setTop (mkF m 14 #[.val (.int i0), .val (.int i1), .val (.int i2), .val (.int i3), .val (.long j4), .second, .val (.long j5), .second, .unset, .unset, .unset] [(.ref b1)]))
  refine own_astore X3 hx (hb hby at_14) rfl #[.val (.int i0), .val (.int i1), .val (.int i2), .val (.int i3), .val (.long j4), .second, .val (.long j5), .second, .val (.ref b1), .unset, .unset] rfl 16 rfl ?_
  refine own_aload X3 hx (hb hby at_16) rfl rfl 18 rfl ?_
  refine own_iloadN X3 hx (hb hby at_18) rfl 19 rfl ?_
  have Zs4 : n0 ≤ T3.heap.size := (Nat.le_trans Zs2 Kc3.1)
  refine own_callV X3 hx hZ hown (hw _ (List.mem_of_getElem? (i := 24) rfl)) (hw _ (List.mem_of_getElem? (i := 25) rfl)) (hw _ (List.mem_of_getElem? (i := 27) rfl)) (hw _ (List.mem_of_getElem? (i := 26) rfl)) (hw _ (List.mem_of_getElem? (i := 28) rfl)) (hw _ (List.mem_of_getElem? (i := 2) rfl)) (by decide) P3_0 (rm4 l Z a0 hw [] b1 i2 i0 i1 T3.heap n0 Zs4 P3_1 P3_2) rfl (hb hby at_19) pd__I_Z rfl (by rw [hml]; rfl) (st := []) rfl 0 (Nat.le_of_eq rfl) (by decide) (by decide) (by decide) (by decide) 22 rfl ?_
  intro T5 v5 L5 X5 hQ5
  obtain ⟨rfl, N5q, e5⟩ := hQ5
  have N5 := Fr.app N3 N5q
  show OwnW p e below (OwnG s (Q0 Z i0 i1 i2 i3 j4 j5 h0 n0) room_1.cells room_1.slots) (T5.setTop (mkF m 22 #[.val (.int i0), .val (.int i1), .val (.int i2), .val (.int i3), .val (.long j4), .second, .val (.long j5), .second, .val (.ref b1), .unset, .unset] [(.int (own_allows i2 i0 i1))]))
  refine own_iloadN X5 hx (hb hby at_22) rfl 23 rfl ?_
  refine own_iloadN X5 hx (hb hby at_23) rfl 24 rfl ?_
  refine own_iloadN X5 hx (hb hby at_24) rfl 25 rfl ?_
  refine own_callS X5 hx hZ hown (hw _ (List.mem_of_getElem? (i := 29) rfl)) (hw _ (List.mem_of_getElem? (i := 30) rfl)) (hw _ (List.mem_of_getElem? (i := 32) rfl)) (hw _ (List.mem_of_getElem? (i := 31) rfl)) (by decide) (rm5 l Z a0 hw [] i2 i0 i1 T3.heap n0 Zs4) e5 (hb hby at_25) pd__III_Z rfl (by rw [hml]; rfl) (st := [(.int (own_allows i2 i0 i1))]) rfl 1 (Nat.le_of_eq rfl) (by decide) (by decide) (by decide) (by decide) 28 rfl ?_
  intro T6 v6 L6 X6 hQ6
  obtain ⟨rfl, N6q, e6⟩ := hQ6
  have N6 := Fr.app N5 N6q
  show OwnW p e below (OwnG s (Q0 Z i0 i1 i2 i3 j4 j5 h0 n0) room_1.cells room_1.slots) (T6.setTop (mkF m 28 #[.val (.int i0), .val (.int i1), .val (.int i2), .val (.int i3), .val (.long j4), .second, .val (.long j5), .second, .val (.ref b1), .unset, .unset] [(.int (own_within i2 i0 i1)), (.int (own_allows i2 i0 i1))]))
  have hc28 : (own_allows i2 i0 i1) = (own_within i2 i0 i1) := own_law1 _ _ _
  refine own_icmpN X6 hx (hb hby at_28) (teq hc28).2 31 (by decide) ?_
  refine own_iconst X6 hx (hb hby at_31) (1 : Int32) rfl 32 rfl ?_
  refine own_goto X6 hx (hb hby at_32) 36 (by decide) ?_
  refine own_istore X6 hx (hb hby at_36) #[.val (.int i0), .val (.int i1), .val (.int i2), .val (.int i3), .val (.long j4), .second, .val (.long j5), .second, .val (.ref b1), .val (.int (1 : Int32)), .unset] rfl 38 rfl ?_
  refine own_iloadN X6 hx (hb hby at_38) rfl 39 rfl ?_
  refine own_i2l X6 hx (hb hby at_39) 40 rfl ?_
  refine own_iloadN X6 hx (hb hby at_40) rfl 41 rfl ?_
  refine own_i2l X6 hx (hb hby at_41) 42 rfl ?_
  refine own_lsub X6 hx (hb hby at_42) 43 rfl ?_
  refine own_lconst0 X6 hx (hb hby at_43) 44 rfl ?_
  refine own_lcmp X6 hx (hb hby at_44) 45 rfl ?_
  suffices J53 : ∀ v53 : Int32, v53 = (if ((i1.toInt64) - (i0.toInt64)) < (0 : Int64) then (0 : Int32) else (1 : Int32)) → OwnW p e below (OwnG s (Q0 Z i0 i1 i2 i3 j4 j5 h0 n0) room_1.cells room_1.slots) (T6.setTop (mkF m 53 #[.val (.int i0), .val (.int i1), .val (.int i2), .val (.int i3), .val (.long j4), .second, .val (.long j5), .second, .val (.ref b1), .val (.int (1 : Int32)), .unset] [(.int v53)])) by
    by_cases hc45 : ((i1.toInt64) - (i0.toInt64)) < (0 : Int64)
    · -- hc45
      refine own_ifY X6 hx (hb hby at_45) (tlt ((lw_lt _ _).mpr hc45)).1 52 (by decide) ?_
      refine own_iconst X6 hx (hb hby at_52) (0 : Int32) rfl 53 rfl ?_
      exact J53 _ (by rw [if_pos hc45])
    · -- not hc45
      refine own_ifN X6 hx (hb hby at_45) (flt (mt (lw_lt _ _).mp hc45)).1 48 (by decide) ?_
      refine own_iconst X6 hx (hb hby at_48) (1 : Int32) rfl 49 rfl ?_
      refine own_goto X6 hx (hb hby at_49) 53 (by decide) ?_
      exact J53 _ (by rw [if_neg hc45])
  intro v53 hv53
  refine own_istore X6 hx (hb hby at_53) #[.val (.int i0), .val (.int i1), .val (.int i2), .val (.int i3), .val (.long j4), .second, .val (.long j5), .second, .val (.ref b1), .val (.int (1 : Int32)), .val (.int v53)] rfl 55 rfl ?_
  refine own_iload X6 hx (hb hby at_55) rfl 57 rfl ?_
  refine own_ifN X6 hx (hb hby at_57) (feq (by decide : ¬ ((1 : Int32) = (0 : Int32)))).1 60 (by decide) ?_
  refine own_aload X6 hx (hb hby at_60) rfl rfl 62 rfl ?_
  refine own_iloadN X6 hx (hb hby at_62) rfl 63 rfl ?_
  refine own_callV X6 hx hZ hown (hw _ (List.mem_of_getElem? (i := 24) rfl)) (hw _ (List.mem_of_getElem? (i := 25) rfl)) (hw _ (List.mem_of_getElem? (i := 27) rfl)) (hw _ (List.mem_of_getElem? (i := 26) rfl)) (hw _ (List.mem_of_getElem? (i := 28) rfl)) (hw _ (List.mem_of_getElem? (i := 2) rfl)) (by decide) P3_0 (rm4 l Z a0 hw [] b1 i0 i0 i1 T3.heap n0 Zs4 P3_1 P3_2) e6 (hb hby at_63) pd__I_Z rfl (by rw [hml]; rfl) (st := []) rfl 0 (Nat.le_of_eq rfl) (by decide) (by decide) (by decide) (by decide) 66 rfl ?_
  intro T7 v7 L7 X7 hQ7
  obtain ⟨rfl, N7q, e7⟩ := hQ7
  have N7 := Fr.app N6 N7q
  show OwnW p e below (OwnG s (Q0 Z i0 i1 i2 i3 j4 j5 h0 n0) room_1.cells room_1.slots) (T7.setTop (mkF m 66 #[.val (.int i0), .val (.int i1), .val (.int i2), .val (.int i3), .val (.long j4), .second, .val (.long j5), .second, .val (.ref b1), .val (.int (1 : Int32)), .val (.int v53)] [(.int (own_allows i0 i0 i1))]))
  refine own_iload X7 hx (hb hby at_66) rfl 68 rfl ?_
  have hc68 : (own_allows i0 i0 i1) = v53 := own_law2 hv53
  refine own_icmpN X7 hx (hb hby at_68) (teq hc68).2 71 (by decide) ?_
  refine own_iconst X7 hx (hb hby at_71) (1 : Int32) rfl 72 rfl ?_
  refine own_goto X7 hx (hb hby at_72) 76 (by decide) ?_
  refine own_istore X7 hx (hb hby at_76) #[.val (.int i0), .val (.int i1), .val (.int i2), .val (.int i3), .val (.long j4), .second, .val (.long j5), .second, .val (.ref b1), .val (.int (1 : Int32)), .val (.int v53)] rfl 78 rfl ?_
  refine own_iload X7 hx (hb hby at_78) rfl 80 rfl ?_
  refine own_ifN X7 hx (hb hby at_80) (feq (by decide : ¬ ((1 : Int32) = (0 : Int32)))).1 83 (by decide) ?_
  refine own_aload X7 hx (hb hby at_83) rfl rfl 85 rfl ?_
  refine own_iloadN X7 hx (hb hby at_85) rfl 86 rfl ?_
  refine own_callV X7 hx hZ hown (hw _ (List.mem_of_getElem? (i := 24) rfl)) (hw _ (List.mem_of_getElem? (i := 25) rfl)) (hw _ (List.mem_of_getElem? (i := 27) rfl)) (hw _ (List.mem_of_getElem? (i := 26) rfl)) (hw _ (List.mem_of_getElem? (i := 28) rfl)) (hw _ (List.mem_of_getElem? (i := 2) rfl)) (by decide) P3_0 (rm4 l Z a0 hw [] b1 i1 i0 i1 T3.heap n0 Zs4 P3_1 P3_2) e7 (hb hby at_86) pd__I_Z rfl (by rw [hml]; rfl) (st := []) rfl 0 (Nat.le_of_eq rfl) (by decide) (by decide) (by decide) (by decide) 89 rfl ?_
  intro T8 v8 L8 X8 hQ8
  obtain ⟨rfl, N8q, e8⟩ := hQ8
  have N8 := Fr.app N7 N8q
  show OwnW p e below (OwnG s (Q0 Z i0 i1 i2 i3 j4 j5 h0 n0) room_1.cells room_1.slots) (T8.setTop (mkF m 89 #[.val (.int i0), .val (.int i1), .val (.int i2), .val (.int i3), .val (.long j4), .second, .val (.long j5), .second, .val (.ref b1), .val (.int (1 : Int32)), .val (.int v53)] [(.int (own_allows i1 i0 i1))]))
  refine own_iload X8 hx (hb hby at_89) rfl 91 rfl ?_
  have hc91 : (own_allows i1 i0 i1) = v53 := own_law3 hv53
  refine own_icmpN X8 hx (hb hby at_91) (teq hc91).2 94 (by decide) ?_
  refine own_iconst X8 hx (hb hby at_94) (1 : Int32) rfl 95 rfl ?_
  refine own_goto X8 hx (hb hby at_95) 99 (by decide) ?_
  refine own_istore X8 hx (hb hby at_99) #[.val (.int i0), .val (.int i1), .val (.int i2), .val (.int i3), .val (.long j4), .second, .val (.long j5), .second, .val (.ref b1), .val (.int (1 : Int32)), .val (.int v53)] rfl 101 rfl ?_
  refine own_iloadN X8 hx (hb hby at_101) rfl 102 rfl ?_
  refine own_ldcI X8 hx hZ hown (hw _ (List.mem_of_getElem? (i := 33) rfl)) (hb hby at_102) 104 rfl ?_
  by_cases hc104 : i0 = (-2147483648 : Int32)
  · -- hc104
    refine own_icmpY X8 hx (hb hby at_104) (teq hc104).1 130 (by decide) ?_
    refine own_iloadN X8 hx (hb hby at_130) rfl 131 rfl ?_
    refine own_ldcI X8 hx hZ hown (hw _ (List.mem_of_getElem? (i := 34) rfl)) (hb hby at_131) 133 rfl ?_
    by_cases hc133 : i1 = (2147483647 : Int32)
    · -- hc133
      refine own_icmpY X8 hx (hb hby at_133) (teq hc133).1 159 (by decide) ?_
      refine own_iload X8 hx (hb hby at_159) rfl 161 rfl ?_
      refine own_retZ X8 hx hlk Bd.returns (by decide) (hb hby at_161) (by decide) (by decide) ?_
      show Q0 Z i0 i1 i2 i3 j4 j5 h0 n0 _ T8.heap _
      rw [e8]
      exact ⟨rfl, N8⟩
    · -- not hc133
      refine own_icmpN X8 hx (hb hby at_133) (feq hc133).1 136 (by decide) ?_
      refine own_iload X8 hx (hb hby at_136) rfl 138 rfl ?_
      refine own_ifN X8 hx (hb hby at_138) (feq (by decide : ¬ ((1 : Int32) = (0 : Int32)))).1 141 (by decide) ?_
      refine own_aload X8 hx (hb hby at_141) rfl rfl 143 rfl ?_
      refine own_iloadN X8 hx (hb hby at_143) rfl 144 rfl ?_
      refine own_iconst X8 hx (hb hby at_144) (1 : Int32) rfl 145 rfl ?_
      refine own_iadd X8 hx (hb hby at_145) 146 rfl ?_
      refine own_callV X8 hx hZ hown (hw _ (List.mem_of_getElem? (i := 24) rfl)) (hw _ (List.mem_of_getElem? (i := 25) rfl)) (hw _ (List.mem_of_getElem? (i := 27) rfl)) (hw _ (List.mem_of_getElem? (i := 26) rfl)) (hw _ (List.mem_of_getElem? (i := 28) rfl)) (hw _ (List.mem_of_getElem? (i := 2) rfl)) (by decide) P3_0 (rm4 l Z a0 hw [] b1 (i1 + (1 : Int32)) i0 i1 T3.heap n0 Zs4 P3_1 P3_2) e8 (hb hby at_146) pd__I_Z rfl (by rw [hml]; rfl) (st := []) rfl 0 (Nat.le_of_eq rfl) (by decide) (by decide) (by decide) (by decide) 149 rfl ?_
      intro T9 v9 L9 X9 hQ9
      obtain ⟨rfl, N9q, e9⟩ := hQ9
      have N9 := Fr.app N8 N9q
      show OwnW p e below (OwnG s (Q0 Z i0 i1 i2 i3 j4 j5 h0 n0) room_1.cells room_1.slots) (T9.setTop (mkF m 149 #[.val (.int i0), .val (.int i1), .val (.int i2), .val (.int i3), .val (.long j4), .second, .val (.long j5), .second, .val (.ref b1), .val (.int (1 : Int32)), .val (.int v53)] [(.int (own_allows (i1 + (1 : Int32)) i0 i1))]))
      have hc149 : (own_allows (i1 + (1 : Int32)) i0 i1) = (0 : Int32) := own_law5 hc133
      refine own_ifN X9 hx (hb hby at_149) (teq hc149).2 152 (by decide) ?_
      refine own_iconst X9 hx (hb hby at_152) (1 : Int32) rfl 153 rfl ?_
      refine own_goto X9 hx (hb hby at_153) 157 (by decide) ?_
      refine own_istore X9 hx (hb hby at_157) #[.val (.int i0), .val (.int i1), .val (.int i2), .val (.int i3), .val (.long j4), .second, .val (.long j5), .second, .val (.ref b1), .val (.int (1 : Int32)), .val (.int v53)] rfl 159 rfl ?_
      refine own_iload X9 hx (hb hby at_159) rfl 161 rfl ?_
      refine own_retZ X9 hx hlk Bd.returns (by decide) (hb hby at_161) (by decide) (by decide) ?_
      show Q0 Z i0 i1 i2 i3 j4 j5 h0 n0 _ T9.heap _
      rw [e9]
      exact ⟨rfl, N9⟩
  · -- not hc104
    refine own_icmpN X8 hx (hb hby at_104) (feq hc104).1 107 (by decide) ?_
    refine own_iload X8 hx (hb hby at_107) rfl 109 rfl ?_
    refine own_ifN X8 hx (hb hby at_109) (feq (by decide : ¬ ((1 : Int32) = (0 : Int32)))).1 112 (by decide) ?_
    refine own_aload X8 hx (hb hby at_112) rfl rfl 114 rfl ?_
    refine own_iloadN X8 hx (hb hby at_114) rfl 115 rfl ?_
    refine own_iconst X8 hx (hb hby at_115) (1 : Int32) rfl 116 rfl ?_
    refine own_isub X8 hx (hb hby at_116) 117 rfl ?_
    refine own_callV X8 hx hZ hown (hw _ (List.mem_of_getElem? (i := 24) rfl)) (hw _ (List.mem_of_getElem? (i := 25) rfl)) (hw _ (List.mem_of_getElem? (i := 27) rfl)) (hw _ (List.mem_of_getElem? (i := 26) rfl)) (hw _ (List.mem_of_getElem? (i := 28) rfl)) (hw _ (List.mem_of_getElem? (i := 2) rfl)) (by decide) P3_0 (rm4 l Z a0 hw [] b1 (i0 - (1 : Int32)) i0 i1 T3.heap n0 Zs4 P3_1 P3_2) e8 (hb hby at_117) pd__I_Z rfl (by rw [hml]; rfl) (st := []) rfl 0 (Nat.le_of_eq rfl) (by decide) (by decide) (by decide) (by decide) 120 rfl ?_
    intro T10 v10 L10 X10 hQ10
    obtain ⟨rfl, N10q, e10⟩ := hQ10
    have N10 := Fr.app N8 N10q
    show OwnW p e below (OwnG s (Q0 Z i0 i1 i2 i3 j4 j5 h0 n0) room_1.cells room_1.slots) (T10.setTop (mkF m 120 #[.val (.int i0), .val (.int i1), .val (.int i2), .val (.int i3), .val (.long j4), .second, .val (.long j5), .second, .val (.ref b1), .val (.int (1 : Int32)), .val (.int v53)] [(.int (own_allows (i0 - (1 : Int32)) i0 i1))]))
    have hc120 : (own_allows (i0 - (1 : Int32)) i0 i1) = (0 : Int32) := own_law4 hc104
    refine own_ifN X10 hx (hb hby at_120) (teq hc120).2 123 (by decide) ?_
    refine own_iconst X10 hx (hb hby at_123) (1 : Int32) rfl 124 rfl ?_
    refine own_goto X10 hx (hb hby at_124) 128 (by decide) ?_
    refine own_istore X10 hx (hb hby at_128) #[.val (.int i0), .val (.int i1), .val (.int i2), .val (.int i3), .val (.long j4), .second, .val (.long j5), .second, .val (.ref b1), .val (.int (1 : Int32)), .val (.int v53)] rfl 130 rfl ?_
    refine own_iloadN X10 hx (hb hby at_130) rfl 131 rfl ?_
    refine own_ldcI X10 hx hZ hown (hw _ (List.mem_of_getElem? (i := 34) rfl)) (hb hby at_131) 133 rfl ?_
    by_cases hc133 : i1 = (2147483647 : Int32)
    · -- hc133
      refine own_icmpY X10 hx (hb hby at_133) (teq hc133).1 159 (by decide) ?_
      refine own_iload X10 hx (hb hby at_159) rfl 161 rfl ?_
      refine own_retZ X10 hx hlk Bd.returns (by decide) (hb hby at_161) (by decide) (by decide) ?_
      show Q0 Z i0 i1 i2 i3 j4 j5 h0 n0 _ T10.heap _
      rw [e10]
      exact ⟨rfl, N10⟩
    · -- not hc133
      refine own_icmpN X10 hx (hb hby at_133) (feq hc133).1 136 (by decide) ?_
      refine own_iload X10 hx (hb hby at_136) rfl 138 rfl ?_
      refine own_ifN X10 hx (hb hby at_138) (feq (by decide : ¬ ((1 : Int32) = (0 : Int32)))).1 141 (by decide) ?_
      refine own_aload X10 hx (hb hby at_141) rfl rfl 143 rfl ?_
      refine own_iloadN X10 hx (hb hby at_143) rfl 144 rfl ?_
      refine own_iconst X10 hx (hb hby at_144) (1 : Int32) rfl 145 rfl ?_
      refine own_iadd X10 hx (hb hby at_145) 146 rfl ?_
      refine own_callV X10 hx hZ hown (hw _ (List.mem_of_getElem? (i := 24) rfl)) (hw _ (List.mem_of_getElem? (i := 25) rfl)) (hw _ (List.mem_of_getElem? (i := 27) rfl)) (hw _ (List.mem_of_getElem? (i := 26) rfl)) (hw _ (List.mem_of_getElem? (i := 28) rfl)) (hw _ (List.mem_of_getElem? (i := 2) rfl)) (by decide) P3_0 (rm4 l Z a0 hw [] b1 (i1 + (1 : Int32)) i0 i1 T3.heap n0 Zs4 P3_1 P3_2) e10 (hb hby at_146) pd__I_Z rfl (by rw [hml]; rfl) (st := []) rfl 0 (Nat.le_of_eq rfl) (by decide) (by decide) (by decide) (by decide) 149 rfl ?_
      intro T11 v11 L11 X11 hQ11
      obtain ⟨rfl, N11q, e11⟩ := hQ11
      have N11 := Fr.app N10 N11q
      show OwnW p e below (OwnG s (Q0 Z i0 i1 i2 i3 j4 j5 h0 n0) room_1.cells room_1.slots) (T11.setTop (mkF m 149 #[.val (.int i0), .val (.int i1), .val (.int i2), .val (.int i3), .val (.long j4), .second, .val (.long j5), .second, .val (.ref b1), .val (.int (1 : Int32)), .val (.int v53)] [(.int (own_allows (i1 + (1 : Int32)) i0 i1))]))
      have hc149 : (own_allows (i1 + (1 : Int32)) i0 i1) = (0 : Int32) := own_law5 hc133
      refine own_ifN X11 hx (hb hby at_149) (teq hc149).2 152 (by decide) ?_
      refine own_iconst X11 hx (hb hby at_152) (1 : Int32) rfl 153 rfl ?_
      refine own_goto X11 hx (hb hby at_153) 157 (by decide) ?_
      refine own_istore X11 hx (hb hby at_157) #[.val (.int i0), .val (.int i1), .val (.int i2), .val (.int i3), .val (.long j4), .second, .val (.long j5), .second, .val (.ref b1), .val (.int (1 : Int32)), .val (.int v53)] rfl 159 rfl ?_
      refine own_iload X11 hx (hb hby at_159) rfl 161 rfl ?_
      refine own_retZ X11 hx hlk Bd.returns (by decide) (hb hby at_161) (by decide) (by decide) ?_
      show Q0 Z i0 i1 i2 i3 j4 j5 h0 n0 _ T11.heap _
      rw [e11]
      exact ⟨rfl, N11⟩
set_option maxRecDepth 65536 in
set_option maxHeartbeats 40000000 in
theorem comes_1 {Post : Tables → Env → Array Value → State → Outcome → State → Prop} (hpost : ∀ tb e args s v u, (limb_1_1.after args s (.returned v) u = true ∧ limb_1_2.after args s (.returned v) u = true) → FrameEnd s (.returned v) u (Jvm.fieldLocs frame_1_writes args s ++ Jvm.arrayLocs frame_1_arrays args s ++ Jvm.staticLocs frame_1_statics s) 16 128 → Post tb e args s (.returned v) u) :
    ArmFor flags0 classFile x code maxLocals ret World_1 tables_1 room_1 Calls_1 rest_1 Pre_1 Post := by
  intro l hfl _ _ p e ha hc hk s m args below hf hA hF happ hP
  obtain ⟨hcalls, hrest, hpre⟩ := hP
  obtain ⟨-, -, -, hnamed, -, -, -, hat⟩ := (Spec.applies_iff hf).mp happ
  obtain ⟨hg, hn⟩ := and_e (Cond.before_iff.mp (show (Jvm.Cond.and given_1 narrow_1).before args s = true from hpre))
  obtain ⟨gc, gr⟩ := and_e hg
  obtain ⟨ga0, gr0⟩ := and_e gr
  obtain ⟨ga1, gr1⟩ := and_e gr0
  obtain ⟨ga2, gr2⟩ := and_e gr1
  obtain ⟨ga3, gr3⟩ := and_e gr2
  obtain ⟨ga4, gr4⟩ := and_e gr3
  have ga5 := gr4
  obtain ⟨w0, w1, w2, w3, w4, w5, rfl⟩ : ∃ w0 w1 w2 w3 w4 w5 : Value, args = #[w0, w1, w2, w3, w4, w5] := by
    have hs : args.size = 6 := by simpa [Cond.value, given_1] using gc
    obtain ⟨L⟩ := args
    match L, hs with
    | [w0, w1, w2, w3, w4, w5], _ => exact ⟨w0, w1, w2, w3, w4, w5, rfl⟩
  have hw := fun d (hd : d ∈ tables_1) => atoms_spec (ws := Jvm.Cond.code x code maxLocals ret :: tables_1) hat d (List.mem_cons_of_mem _ hd)
  have hfit : Fit s := fun {y c} hc i hi => by
    obtain ⟨ha, rfl⟩ := Array.getElem?_eq_some_iff.mp hc
    have q := List.all_eq_true.mp ((Array.all_eq_true_iff_forall_mem.mp hF) _ (Array.getElem_mem ha)) i (List.mem_range.mpr hi)
    simpa [Array.getElem?_eq_getElem hi] using q
  obtain ⟨i0, ei0⟩ := is_v ga0
  obtain rfl : w0 = (.int i0) := Option.some.inj ei0
  obtain ⟨i1, ei1⟩ := is_v ga1
  obtain rfl : w1 = (.int i1) := Option.some.inj ei1
  obtain ⟨i2, ei2⟩ := is_v ga2
  obtain rfl : w2 = (.int i2) := Option.some.inj ei2
  obtain ⟨i3, ei3⟩ := is_v ga3
  obtain rfl : w3 = (.int i3) := Option.some.inj ei3
  obtain ⟨i4, ei4⟩ := isL_v ga4
  obtain rfl : w4 = (.long i4) := Option.some.inj ei4
  obtain ⟨i5, ei5⟩ := isL_v ga5
  obtain rfl : w5 = (.long i5) := Option.some.inj ei5
  obtain ⟨n, o, h1, h2, h3, _, L, rfl, ⟨rfl, N⟩, hq⟩ := rm0 l s _ hw tables_1 i0 i1 i2 i3 i4 i5 s.heap s.heap.size (Nat.le_refl _)  p e ha hc hk s m _ below hf ((Spec.applies_iff_loose hf).mp happ).1 ⟨rfl, State.Warmed39.refl s, rfl⟩ trivial
  refine ⟨n, _, h1, h2, h3, hpost _ _ _ _ _ _ ⟨Cond.after_iff.mpr rfl, Cond.after_iff.mpr (eq_i res_at (Term.int_eval (1)) rfl)⟩ ⟨hq.1, hq.2.1, (hq.2.2.sift fun y hy => Or.inr (N y hy)).mono (by decide) (by decide)⟩⟩
theorem main_1_1 : Claimed_1_1 := comes_1 fun _ _ _ _ _ _ h hF => ⟨h.1, hF⟩
theorem main_1_2 : Claimed_1_2 := comes_1 fun _ _ _ _ _ _ h hF => ⟨h.2, hF⟩
end Jvm.Pilot.@@N@@
namespace Jvm.Pilot.@@N@@
open Jvm Jvm.ClassFile Sem Op Lib Jvm.Free Jvm.Stand Jvm.Pilot.@@N@@.Jvm.D
/-! MADE BY PROGRAM (witnessworld.py) out of the Statement's table words and the real class files: 10 classes; the members and pool entries that the words name. The judged class is class 1, her method 2. -/
namespace start1
open Jvm.ClassFile
def u (s : String) : CpInfo := .utf8 (stringToUtf16 s)
/-- a pool by its gaps: so many unusable entries, then the entry; so many at the end -/
def gap : Nat → List CpInfo → List CpInfo
  | 0, r => r
  | n + 1, r => .unusable :: gap n r
def poolList (es : List (Nat × CpInfo)) (last : Nat) : List CpInfo := es.foldr (fun e r => gap e.1 (e.2 :: r)) (gap last [])
def pool (es : List (Nat × CpInfo)) (last : Nat) : Array CpInfo := ⟨poolList es last⟩
def fileOf (pool : Array CpInfo) (this : Nat) (attrs : Array Attribute := #[]) (ms : Array MethodInfo := #[]) (fl : Nat := 33) (sup : Nat := 0) (ifs : Array Nat := #[]) (fds : Array FieldInfo := #[]) : ClassFile where
  minorVersion := 0
  majorVersion := 65
  constantPool := pool
  accessFlags := fl
  thisClass := this
  superClass := sup
  interfaces := ifs
  fields := fds
  methods := ms
  attributes := attrs
def plain (name : String) (sup : Option ClassId) : Class where
  name := name
  kind := .ordinary
  loader := none
  accessFlags := 33
  super := sup
  interfaces := #[]
  cf := none
  fields := #[]
  methods := #[]
  instanceTypes := #[]
  staticTypes := #[]
  resolved := #[]
  callSites := []
  init := .initialized
  statics := none
  mirror := none

def pool0 : Array CpInfo := pool [(5, u "<init>"), (0, u "()V"), (1, .class_ 10), (1, u "java/lang/Object")] 113

def k0c0 : Code := { maxStack := 0, maxLocals := 1, code := object_method_1_code, exceptionTable := #[], attributes := #[] }
def k0m0 : Method := { name := "<init>", desc := "()V", sig := { parameters := [], returnType := none }, accessFlags := 1, code := some k0c0 }
/-- java/lang/Object -/
def k0 : Class := { plain "java/lang/Object" none with
  accessFlags := 33
  interfaces := #[]
  cf := some (fileOf pool0 8 #[] #[{ accessFlags := 1, nameIndex := 5, descriptorIndex := 6, attributes := #[] }] 33 0 #[] #[])
  fields := #[]
  methods := #[k0m0]
  instanceTypes := #[]
  staticTypes := #[]
  resolved := Array.replicate 124 none
  statics := none }

def pool1 : Array CpInfo := pool [(2, .class_ 4), (1, u "java/lang/Object"), (0, u "<init>"), (0, u "()V"), (0, .class_ 8), (0, u "com/example/rollcall/rollcall/Coordinator$Settings"), (0, .methodref 7 10), (0, .nameAndType 5 11), (0, u "(IIIJJ)V"), (0, .methodref 7 13), (0, .nameAndType 14 15), (0, u "allowsSessionTimeout"), (0, u "(I)Z"), (0, .methodref 17 18), (0, .class_ 19), (0, .nameAndType 20 21), (0, u "com/example/rollcall/rollcall/SettingsAllowsSessionTimeoutPinLaw"), (0, u "within"), (0, u "(III)Z"), (2, .integer 2147483648), (0, .integer 2147483647), (3, u "law"), (0, u "(IIIIJJ)Z")] 6

def k1m0 : Method := { name := "<init>", desc := "()V", sig := { parameters := [], returnType := none }, accessFlags := 2, code := none }
def k1c1 : Code := { maxStack := 4, maxLocals := 7, code := method_2_code, exceptionTable := #[], attributes := #[] }
def k1m1 : Method := { name := "within", desc := "(III)Z", sig := { parameters := [.int, .int, .int], returnType := some .boolean }, accessFlags := 10, code := some k1c1 }
def k1c2 : Code := { maxStack := 9, maxLocals := 11, code := code, exceptionTable := #[], attributes := #[] }
def k1m2 : Method := { name := "law", desc := "(IIIIJJ)Z", sig := { parameters := [.int, .int, .int, .int, .long, .long], returnType := some .boolean }, accessFlags := 9, code := some k1c2 }
/-- com/example/rollcall/rollcall/SettingsAllowsSessionTimeoutPinLaw -/
def k1 : Class := { plain "com/example/rollcall/rollcall/SettingsAllowsSessionTimeoutPinLaw" (some 0) with
  accessFlags := 49
  interfaces := #[]
  cf := some (fileOf pool1 17 #[] #[{ accessFlags := 2, nameIndex := 5, descriptorIndex := 6, attributes := #[] }, { accessFlags := 10, nameIndex := 20, descriptorIndex := 21, attributes := #[] }, { accessFlags := 9, nameIndex := 29, descriptorIndex := 30, attributes := #[] }] 49 2 #[] #[])
  fields := #[]
  methods := #[k1m0, k1m1, k1m2]
  instanceTypes := #[]
  staticTypes := #[]
  resolved := Array.replicate 37 none
  statics := none }

def pool2 : Array CpInfo := pool [(1, .methodref 2 3), (0, .class_ 4), (0, .nameAndType 5 6), (0, u "java/lang/Object"), (0, u "<init>"), (0, u "()V"), (0, .class_ 8), (0, u "java/lang/Record")] 13

def k2c0 : Code := { maxStack := 1, maxLocals := 1, code := jdk_30_method_1_code, exceptionTable := #[], attributes := #[] }
def k2m0 : Method := { name := "<init>", desc := "()V", sig := { parameters := [], returnType := none }, accessFlags := 4, code := some k2c0 }
/-- java/lang/Record -/
def k2 : Class := { plain "java/lang/Record" (some 0) with
  accessFlags := 1057
  interfaces := #[]
  cf := some (fileOf pool2 7 #[] #[{ accessFlags := 4, nameIndex := 5, descriptorIndex := 6, attributes := #[] }] 1057 2 #[] #[])
  fields := #[]
  methods := #[k2m0]
  instanceTypes := #[]
  staticTypes := #[]
  resolved := Array.replicate 22 none
  statics := none }

def pool3 : Array CpInfo := pool [(1, .methodref 2 3), (0, .class_ 4), (0, .nameAndType 5 6), (0, u "java/lang/Record"), (0, u "<init>"), (0, u "()V"), (0, .fieldref 8 9), (0, .class_ 10), (0, .nameAndType 11 12), (0, u "com/example/rollcall/rollcall/Coordinator$Settings"), (0, u "minSessionTimeoutMs"), (0, u "I"), (0, .fieldref 8 14), (0, .nameAndType 15 12), (0, u "maxSessionTimeoutMs"), (0, .fieldref 8 17), (0, .nameAndType 18 12), (0, u "joinWindowMs"), (0, .fieldref 8 20), (0, .nameAndType 21 22), (0, u "retentionMs"), (0, u "J"), (0, .fieldref 8 24), (0, .nameAndType 25 22), (0, u "maxHeldBytes"), (12, u "(IIIJJ)V"), (3, u "allowsSessionTimeout"), (0, u "(I)Z"), (8, .class_ 53), (0, u "com/example/rollcall/rollcall/Coordinator")] 23

def k3c0 : Code := { maxStack := 3, maxLocals := 8, code := prog_36_method_1_code, exceptionTable := #[], attributes := #[] }
def k3m0 : Method := { name := "<init>", desc := "(IIIJJ)V", sig := { parameters := [.int, .int, .int, .long, .long], returnType := none }, accessFlags := 0, code := some k3c0 }
def k3c1 : Code := { maxStack := 2, maxLocals := 2, code := prog_36_method_2_code, exceptionTable := #[], attributes := #[] }
def k3m1 : Method := { name := "allowsSessionTimeout", desc := "(I)Z", sig := { parameters := [.int], returnType := some .boolean }, accessFlags := 0, code := some k3c1 }
/-- com/example/rollcall/rollcall/Coordinator$Settings -/
def k3 : Class := { plain "com/example/rollcall/rollcall/Coordinator$Settings" (some 2) with
  accessFlags := 48
  interfaces := #[]
  cf := some (fileOf pool3 8 #[.nestHost 52] #[{ accessFlags := 0, nameIndex := 5, descriptorIndex := 38, attributes := #[] }, { accessFlags := 0, nameIndex := 42, descriptorIndex := 43, attributes := #[] }] 48 2 #[] #[{ accessFlags := 18, nameIndex := 11, descriptorIndex := 12, attributes := #[] }, { accessFlags := 18, nameIndex := 15, descriptorIndex := 12, attributes := #[] }, { accessFlags := 18, nameIndex := 18, descriptorIndex := 12, attributes := #[] }, { accessFlags := 18, nameIndex := 21, descriptorIndex := 22, attributes := #[] }, { accessFlags := 18, nameIndex := 25, descriptorIndex := 22, attributes := #[] }])
  fields := #[{ name := "minSessionTimeoutMs", type := .int, accessFlags := 18, slot := 0, constantValue := 0 }, { name := "maxSessionTimeoutMs", type := .int, accessFlags := 18, slot := 1, constantValue := 0 }, { name := "joinWindowMs", type := .int, accessFlags := 18, slot := 2, constantValue := 0 }, { name := "retentionMs", type := .long, accessFlags := 18, slot := 3, constantValue := 0 }, { name := "maxHeldBytes", type := .long, accessFlags := 18, slot := 4, constantValue := 0 }]
  methods := #[k3m0, k3m1]
  instanceTypes := #[.int, .int, .int, .long, .long]
  staticTypes := #[]
  resolved := Array.replicate 77 none
  statics := none }

def pool4 : Array CpInfo := pool [(1, u "java/lang/Cloneable"), (0, .class_ 1), (0, u "java/lang/Object"), (0, .class_ 3)] 3

/-- java/lang/Cloneable -/
def k4 : Class := { plain "java/lang/Cloneable" (some 0) with
  accessFlags := 1537
  interfaces := #[]
  cf := some (fileOf pool4 2 #[] #[] 1537 4 #[] #[])
  fields := #[]
  methods := #[]
  instanceTypes := #[]
  staticTypes := #[]
  resolved := Array.replicate 8 none
  statics := none }

def pool5 : Array CpInfo := pool [(1, u "java/io/Serializable"), (0, .class_ 1), (0, u "java/lang/Object"), (0, .class_ 3)] 3

/-- java/io/Serializable -/
def k5 : Class := { plain "java/io/Serializable" (some 0) with
  accessFlags := 1537
  interfaces := #[]
  cf := some (fileOf pool5 2 #[] #[] 1537 4 #[] #[])
  fields := #[]
  methods := #[]
  instanceTypes := #[]
  staticTypes := #[]
  resolved := Array.replicate 8 none
  statics := none }

/-- the primitive byte -/
def k6 : Class := { plain "byte" none with kind := .primitive 'B', accessFlags := 0x411 }
/-- [B -/
def k7 : Class := { plain "[B" (some 0) with kind := .array 6 .byte, interfaces := #[4, 5], accessFlags := 1041 }

/-- the primitive int -/
def k8 : Class := { plain "int" none with kind := .primitive 'I', accessFlags := 0x411 }
/-- [I -/
def k9 : Class := { plain "[I" (some 0) with kind := .array 8 .int, interfaces := #[4, 5], accessFlags := 1041 }

def heap : Heap := #[]
def classes : Array Class := #[k0, k1, k2, k3, k4, k5, k6, k7, k8, k9]
def interned : List (Array UInt16 × Addr) := []
def slotsUsed : Nat := 0
def theMethod : MethodId := ⟨1, 2⟩
def args0 : Array Value := #[.int 5, .int 9, .int 7, .int 1, .long 2, .long 3]
def aboutOver (below : List Frame) : State where
  vm := { classes := classes, interned := interned.toArray }
  heap := heap
  slotsUsed := slotsUsed
  threads := #[{ frames := .invoking theMethod args0 :: below }]
def below0 : List Frame := [.native { method := ⟨0, 0⟩, args := #[] }]
def about1 : State := aboutOver below0
def p0 : Program := .bare "" "" ""
def e0 : Env := launch0.env 0 0 0
theorem w_frames : about1.frames = Frame.invoking theMethod args0 :: below0 := rfl
set_option maxRecDepth 65536 in
theorem w_args : argsFit about1.vm theMethod args0 = true := by decide +kernel
set_option maxRecDepth 65536 in
theorem w_heap : heapFits about1 = true := by decide +kernel
set_option maxRecDepth 65536 in
theorem w_runnable : about1.curStatus? = some .runnable := by decide +kernel
set_option maxRecDepth 65536 in
theorem w_alone : about1.alone = true := by decide +kernel
set_option maxRecDepth 65536 in
theorem w_named : about1.methodNamed? x = some theMethod := by decide +kernel
set_option maxRecDepth 65536 in
theorem w_hears : about1.hears theMethod below0 = true := by decide +kernel
set_option maxRecDepth 65536 in
theorem w_ripe : about1.ripe theMethod args0 below0 = true := by decide +kernel
theorem w_running : about1.status = .running := rfl
set_option maxRecDepth 65536 in
theorem w_room : about1.hasRoom e0.platform room_1 = true :=
  launch0.hasRoom_least _ room_1 (by decide +kernel) (by decide +kernel) (by decide +kernel) (by decide +kernel) (by decide +kernel) (by decide +kernel)
theorem allAtoms_all (ts : List Jvm.Cond) (a : Array Jvm.Value) (st : Jvm.State) : (allAtoms ts).before a st = ts.all (fun c => c.before a st) := by
  induction ts with
  | nil => rfl
  | cons c t ih =>
    show (Jvm.Cond.and c (allAtoms t)).before a st = _
    rw [Jvm.Cond.before_and, ih, List.all_cons]
def words1 : List Jvm.Cond := Jvm.Cond.code x code maxLocals ret :: tables_1
/-- a 'code' word, met by the world's own term for the bytes: nothing is compared byte by byte -/
theorem code_word {y : MethodName} {bytes : ByteArray} {mx : Nat} {rt : Option FieldType} {a : Array Value} {s : State} {m : MethodId} {meth : Method} {c : Code} (h1 : s.methodNamed? y = some m) (h2 : s.vm.method? m = some meth) (h3 : meth.code = some c) (h4 : c.code = bytes)
    (h5 : (c.maxLocals == mx && c.exceptionTable.isEmpty && decide (c.maxStack ≤ mostOperands) && decide (meth.sig.returnType = rt) && !meth.locks && decide (parseMethodDescriptor y.desc = some meth.sig)) = true) : (Jvm.Cond.code y bytes mx rt).before a s = true := by
  simp only [Bool.and_eq_true, beq_iff_eq, Bool.not_eq_true', decide_eq_true_eq] at h5
  obtain ⟨⟨⟨⟨⟨g1, g2⟩, g3⟩, g4⟩, g5⟩, g6⟩ := h5
  simp [Cond.before, Cond.holds, Cond.value, h1, h2, h3, h4, g1, g2, g3, g4, g5, g6]
def isCode : Jvm.Cond → Bool
  | .code _ _ _ _ => true
  | _ => false
theorem all_split {L : List Jvm.Cond} {P : Jvm.Cond → Bool} (h1 : L.all (fun c => isCode c || P c) = true) (h2 : ∀ c ∈ L.filter isCode, P c = true) : L.all P = true := by
  refine List.all_eq_true.mpr fun c hc => ?_
  have h := List.all_eq_true.mp h1 c hc
  rcases Bool.eq_false_or_eq_true (isCode c) with hi | hi
  · exact h2 c (List.mem_filter.mpr ⟨hc, hi⟩)
  · simpa [hi] using h
set_option maxRecDepth 65536 in
theorem w_c0 : (Jvm.Cond.code x code maxLocals ret).before args0 about1 = true := code_word (m := ⟨1, 2⟩) (meth := k1m2) (c := k1c2) (by decide +kernel) rfl rfl rfl (by decide +kernel)
set_option maxRecDepth 65536 in
theorem w_c1 : (Jvm.Cond.code ({ cls := "com/example/rollcall/rollcall/Coordinator$Settings", name := "<init>", desc := "(IIIJJ)V" } : Jvm.MethodName) prog_36_method_1_code (8 : Nat) (Option.none : Option Jvm.ClassFile.FieldType)).before args0 about1 = true := code_word (m := ⟨3, 0⟩) (meth := k3m0) (c := k3c0) (by decide +kernel) rfl rfl rfl (by decide +kernel)
set_option maxRecDepth 65536 in
theorem w_c2 : (Jvm.Cond.code ({ cls := "java/lang/Record", name := "<init>", desc := "()V" } : Jvm.MethodName) jdk_30_method_1_code (1 : Nat) (Option.none : Option Jvm.ClassFile.FieldType)).before args0 about1 = true := code_word (m := ⟨2, 0⟩) (meth := k2m0) (c := k2c0) (by decide +kernel) rfl rfl rfl (by decide +kernel)
set_option maxRecDepth 65536 in
theorem w_c3 : (Jvm.Cond.code ({ cls := "java/lang/Object", name := "<init>", desc := "()V" } : Jvm.MethodName) object_method_1_code (1 : Nat) (Option.none : Option Jvm.ClassFile.FieldType)).before args0 about1 = true := code_word (m := ⟨0, 0⟩) (meth := k0m0) (c := k0c0) (by decide +kernel) rfl rfl rfl (by decide +kernel)
set_option maxRecDepth 65536 in
theorem w_c4 : (Jvm.Cond.code ({ cls := "com/example/rollcall/rollcall/Coordinator$Settings", name := "allowsSessionTimeout", desc := "(I)Z" } : Jvm.MethodName) prog_36_method_2_code (2 : Nat) (Option.some Jvm.ClassFile.FieldType.boolean)).before args0 about1 = true := code_word (m := ⟨3, 1⟩) (meth := k3m1) (c := k3c1) (by decide +kernel) rfl rfl rfl (by decide +kernel)
set_option maxRecDepth 65536 in
theorem w_c5 : (Jvm.Cond.code ({ cls := "com/example/rollcall/rollcall/SettingsAllowsSessionTimeoutPinLaw", name := "within", desc := "(III)Z" } : Jvm.MethodName) method_2_code (7 : Nat) (Option.some Jvm.ClassFile.FieldType.boolean)).before args0 about1 = true := code_word (m := ⟨1, 1⟩) (meth := k1m1) (c := k1c1) (by decide +kernel) rfl rfl rfl (by decide +kernel)
def codes1 : List Jvm.Cond := [Jvm.Cond.code x code maxLocals ret, Jvm.Cond.code ({ cls := "com/example/rollcall/rollcall/Coordinator$Settings", name := "<init>", desc := "(IIIJJ)V" } : Jvm.MethodName) prog_36_method_1_code (8 : Nat) (Option.none : Option Jvm.ClassFile.FieldType), Jvm.Cond.code ({ cls := "java/lang/Record", name := "<init>", desc := "()V" } : Jvm.MethodName) jdk_30_method_1_code (1 : Nat) (Option.none : Option Jvm.ClassFile.FieldType), Jvm.Cond.code ({ cls := "java/lang/Object", name := "<init>", desc := "()V" } : Jvm.MethodName) object_method_1_code (1 : Nat) (Option.none : Option Jvm.ClassFile.FieldType), Jvm.Cond.code ({ cls := "com/example/rollcall/rollcall/Coordinator$Settings", name := "allowsSessionTimeout", desc := "(I)Z" } : Jvm.MethodName) prog_36_method_2_code (2 : Nat) (Option.some Jvm.ClassFile.FieldType.boolean), Jvm.Cond.code ({ cls := "com/example/rollcall/rollcall/SettingsAllowsSessionTimeoutPinLaw", name := "within", desc := "(III)Z" } : Jvm.MethodName) method_2_code (7 : Nat) (Option.some Jvm.ClassFile.FieldType.boolean)]
set_option maxRecDepth 65536 in
theorem codes_eq : words1.filter isCode = codes1 := rfl
theorem w_codes : ∀ c ∈ words1.filter isCode, c.before args0 about1 = true := by
  rw [codes_eq]
  intro c hc
  simp only [codes1, List.mem_cons, List.not_mem_nil, or_false] at hc
  rcases hc with rfl | rfl | rfl | rfl | rfl | rfl
  · exact w_c0
  · exact w_c1
  · exact w_c2
  · exact w_c3
  · exact w_c4
  · exact w_c5
set_option maxRecDepth 65536 in
theorem w_t1 : (words1.take 24).all (fun c => isCode c || c.before args0 about1) = true := by decide +kernel
set_option maxRecDepth 65536 in
theorem w_t2 : (words1.drop 24).all (fun c => isCode c || c.before args0 about1) = true := by decide +kernel
theorem w_tables : (allAtoms (Jvm.Cond.code x code maxLocals ret :: tables_1)).before args0 about1 = true := by
  rw [allAtoms_all]
  show words1.all (fun c => c.before args0 about1) = true
  refine all_split ?_ w_codes
  rw [← List.take_append_drop 24 words1, List.all_append, w_t1, w_t2]
  rfl
set_option maxRecDepth 65536 in
theorem w_case : (Jvm.Cond.and given_1 narrow_1).before args0 about1 = true := by decide +kernel
theorem w_applies : (headSpec (Jvm.Cond.code x code maxLocals ret :: tables_1) room_1).applies x e0.platform about1 = true :=
  (Spec.applies_iff w_frames).mpr ⟨w_running, w_runnable, w_alone, w_named, w_hears, w_ripe, w_room, w_tables⟩
theorem atStart : AtStart classFile x code maxLocals ret World_1 tables_1 room_1 Calls_1 rest_1 Pre_1 launch0 p0 e0 about1 theMethod args0 below0 :=
  ⟨lists_1, trivial, launch0.admits_env _ _ _, launch0.least_env, fairChoices_fair.cas, fairChoices_fair.clock, w_frames, w_args, w_heap, w_applies, trivial, trivial, w_case⟩
end start1
theorem witness_1 : WitnessClaimed_1 := ⟨start1.p0, start1.e0, start1.about1, start1.theMethod, start1.args0, start1.below0, start1.atStart⟩
end Jvm.Pilot.@@N@@
