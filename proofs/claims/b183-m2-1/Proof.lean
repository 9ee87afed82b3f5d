import JvmDerived
import JvmDerived.Pilot.@@N@@Statement
import JvmDerived.Pilot.@@N@@Code
set_option linter.unusedVariables false
set_option linter.unusedSimpArgs false
namespace Jvm.Pilot.@@N@@
open Jvm Jvm.ClassFile Sem Op Lib Jvm.Free Jvm.Stand Jvm.LawKit Jvm.RoadKit Bundle Jvm.Pilot.@@N@@.Jvm.D
section Own
variable {p : Program} {l : Launch} {e : Env} {R : Room} {s : State} {m : MethodId} {args : Array Value} {below : List Frame} {meth : Method} {c : Code} {T : State} {locs : List Loc} {cells slots : Nat} {Q : Option Value → Heap → List Loc → Prop} {rc rs : Nat} {G : Outcome → State → Prop} {Ls : Array Slot} {st : List Value} {Z : State} {a0 : Array Value} {h : Heap} {pc : Nat}
/-- what is left of a body's walk: from U it comes to its end, of which G holds -/
def OwnW (p : Program) (e : Env) (below : List Frame) (G : Outcome → State → Prop) (U : State) : Prop :=
  ∃ s₂ o, Steps p.tables e below U s₂ ∧ s₂.status = .running ∧ Ended s₂ below o ∧ G o s₂
/-- it returned, Q holds of what it returned, the heap and the written places; the frame -/
def OwnG (s : State) (Q : Option Value → Heap → List Loc → Prop) (rc rs : Nat) (o : Outcome) (t : State) : Prop := ∃ v L, o = .returned v ∧ Q v t.heap L ∧ FrameEnd s o t L rc rs
theorem OwnW.go {U V : State} (k : OwnW p e below G V) (st : ∀ t, Steps p.tables e below V t → Steps p.tables e below U t) : OwnW p e below G U := by
  obtain ⟨s₂, o, h1, h2⟩ := k
  exact ⟨s₂, o, st _ h1, h2⟩
theorem OwnW.tr {U V : State} (k : OwnW p e below G V) (st : Steps p.tables e below U V) : OwnW p e below G U := k.go fun _ h => st.trans h
theorem own_aload (X : Stand p l e R s m args below meth c T locs cells slots) (hx : p.tables.exec = Jvm.exec) {k : Nat} {v : Value} (hd : decode c.code pc = .ok (.aload k, 2)) (hl : Ls[k]? = some (.val v)) (hv : v.isRef = true) (pc' : Nat) (hp : pc + 2 = pc')
    (K : OwnW p e below G (T.setTop (mkF m pc' Ls (v :: st)))) : OwnW p e below G (T.setTop (mkF m pc Ls st)) := by
  subst hp; exact K.go fun _ k => XS.aload X.here hx rfl hd hl hv k
theorem own_aloadN (X : Stand p l e R s m args below meth c T locs cells slots) (hx : p.tables.exec = Jvm.exec) {k : Fin 4} {v : Value} (hd : decode c.code pc = .ok (.aload_n k, 1)) (hl : Ls[k.val]? = some (.val v)) (hv : v.isRef = true) (pc' : Nat) (hp : pc + 1 = pc')
    (K : OwnW p e below G (T.setTop (mkF m pc' Ls (v :: st)))) : OwnW p e below G (T.setTop (mkF m pc Ls st)) := by
  subst hp; exact K.go fun _ k => XS.aloadN X.here hx rfl hd hl hv k
theorem own_iload (X : Stand p l e R s m args below meth c T locs cells slots) (hx : p.tables.exec = Jvm.exec) {k : Nat} {v : Int32} (hd : decode c.code pc = .ok (.iload k, 2)) (hl : Ls[k]? = some (.val (.int v))) (pc' : Nat) (hp : pc + 2 = pc')
    (K : OwnW p e below G (T.setTop (mkF m pc' Ls (.int v :: st)))) : OwnW p e below G (T.setTop (mkF m pc Ls st)) := by
  subst hp; exact K.go fun _ k => XS.iload X.here hx rfl hd hl k
theorem own_iloadN (X : Stand p l e R s m args below meth c T locs cells slots) (hx : p.tables.exec = Jvm.exec) {k : Fin 4} {v : Int32} (hd : decode c.code pc = .ok (.iload_n k, 1)) (hl : Ls[k.val]? = some (.val (.int v))) (pc' : Nat) (hp : pc + 1 = pc')
    (K : OwnW p e below G (T.setTop (mkF m pc' Ls (.int v :: st)))) : OwnW p e below G (T.setTop (mkF m pc Ls st)) := by
  subst hp; exact K.go fun _ k => XS.iloadN X.here hx rfl hd hl k
theorem own_lload (X : Stand p l e R s m args below meth c T locs cells slots) (hx : p.tables.exec = Jvm.exec) {k : Nat} {v : Int64} (hd : decode c.code pc = .ok (.lload k, 2)) (hl : Ls[k]? = some (.val (.long v))) (pc' : Nat) (hp : pc + 2 = pc')
    (K : OwnW p e below G (T.setTop (mkF m pc' Ls (.long v :: st)))) : OwnW p e below G (T.setTop (mkF m pc Ls st)) := by
  subst hp; exact K.go fun _ k => XS.lload X.here hx rfl hd hl k
theorem own_lloadN (X : Stand p l e R s m args below meth c T locs cells slots) (hx : p.tables.exec = Jvm.exec) {k : Fin 4} {v : Int64} (hd : decode c.code pc = .ok (.lload_n k, 1)) (hl : Ls[k.val]? = some (.val (.long v))) (pc' : Nat) (hp : pc + 1 = pc')
    (K : OwnW p e below G (T.setTop (mkF m pc' Ls (.long v :: st)))) : OwnW p e below G (T.setTop (mkF m pc Ls st)) := by
  subst hp; exact K.go fun _ k => XS.lloadN X.here hx rfl hd hl k
theorem own_istore (X : Stand p l e R s m args below meth c T locs cells slots) (hx : p.tables.exec = Jvm.exec) {k : Nat} {x : Int32} (hd : decode c.code pc = .ok (.istore k, 2)) (Ls' : Array Slot) (hl : storeLocals Ls k (.int x) = some Ls') (pc' : Nat) (hp : pc + 2 = pc')
    (K : OwnW p e below G (T.setTop (mkF m pc' Ls' st))) : OwnW p e below G (T.setTop (mkF m pc Ls (.int x :: st))) := by
  subst hp; exact K.go fun _ k => XS.istore X.here hx rfl hd rfl hl k
theorem own_istoreN (X : Stand p l e R s m args below meth c T locs cells slots) (hx : p.tables.exec = Jvm.exec) {k : Fin 4} {x : Int32} (hd : decode c.code pc = .ok (.istore_n k, 1)) (Ls' : Array Slot) (hl : storeLocals Ls k.val (.int x) = some Ls') (pc' : Nat) (hp : pc + 1 = pc')
    (K : OwnW p e below G (T.setTop (mkF m pc' Ls' st))) : OwnW p e below G (T.setTop (mkF m pc Ls (.int x :: st))) := by
  subst hp; exact K.go fun _ k => XS.istoreN X.here hx rfl hd rfl hl k
theorem own_lstore (X : Stand p l e R s m args below meth c T locs cells slots) (hx : p.tables.exec = Jvm.exec) {k : Nat} {x : Int64} (hd : decode c.code pc = .ok (.lstore k, 2)) (Ls' : Array Slot) (hl : storeLocals Ls k (.long x) = some Ls') (pc' : Nat) (hp : pc + 2 = pc')
    (K : OwnW p e below G (T.setTop (mkF m pc' Ls' st))) : OwnW p e below G (T.setTop (mkF m pc Ls (.long x :: st))) := by
  subst hp; exact K.go fun _ k => XS.lstore X.here hx rfl hd rfl hl k
theorem own_lstoreN (X : Stand p l e R s m args below meth c T locs cells slots) (hx : p.tables.exec = Jvm.exec) {k : Fin 4} {x : Int64} (hd : decode c.code pc = .ok (.lstore_n k, 1)) (Ls' : Array Slot) (hl : storeLocals Ls k.val (.long x) = some Ls') (pc' : Nat) (hp : pc + 1 = pc')
    (K : OwnW p e below G (T.setTop (mkF m pc' Ls' st))) : OwnW p e below G (T.setTop (mkF m pc Ls (.long x :: st))) := by
  subst hp; exact K.go fun _ k => XS.lstoreN X.here hx rfl hd rfl hl k
theorem own_astore (X : Stand p l e R s m args below meth c T locs cells slots) (hx : p.tables.exec = Jvm.exec) {k : Nat} {x : Value} (hd : decode c.code pc = .ok (.astore k, 2)) (hv : x.isRef = true) (Ls' : Array Slot) (hl : storeLocals Ls k x = some Ls') (pc' : Nat) (hp : pc + 2 = pc')
    (K : OwnW p e below G (T.setTop (mkF m pc' Ls' st))) : OwnW p e below G (T.setTop (mkF m pc Ls (x :: st))) := by
  subst hp; exact K.go fun _ k => XS.astore X.here hx rfl hd rfl hv hl k
theorem own_astoreN (X : Stand p l e R s m args below meth c T locs cells slots) (hx : p.tables.exec = Jvm.exec) {k : Fin 4} {x : Value} (hd : decode c.code pc = .ok (.astore_n k, 1)) (hv : x.isRef = true) (Ls' : Array Slot) (hl : storeLocals Ls k.val x = some Ls') (pc' : Nat) (hp : pc + 1 = pc')
    (K : OwnW p e below G (T.setTop (mkF m pc' Ls' st))) : OwnW p e below G (T.setTop (mkF m pc Ls (x :: st))) := by
  subst hp; exact K.go fun _ k => XS.astoreN X.here hx rfl hd rfl hv hl k
theorem own_iinc (X : Stand p l e R s m args below meth c T locs cells slots) (hx : p.tables.exec = Jvm.exec) {k : Nat} {cst : Int} {x : Int32} (hd : decode c.code pc = .ok (.iinc k cst, 3)) (hl : Ls[k]? = some (.val (.int x))) (Ls' : Array Slot) (hl' : storeLocals Ls k (.int (x + Int32.ofInt cst)) = some Ls') (pc' : Nat) (hp : pc + 3 = pc')
    (K : OwnW p e below G (T.setTop (mkF m pc' Ls' st))) : OwnW p e below G (T.setTop (mkF m pc Ls st)) := by
  subst hp; exact K.go fun _ k => XS.iinc X.here hx rfl hd hl hl' k
theorem own_iconst (X : Stand p l e R s m args below meth c T locs cells slots) (hx : p.tables.exec = Jvm.exec) {i : Int} (hd : decode c.code pc = .ok (.iconst i, 1)) (v : Int32) (hv : Int32.ofInt i = v) (pc' : Nat) (hp : pc + 1 = pc')
    (K : OwnW p e below G (T.setTop (mkF m pc' Ls (.int v :: st)))) : OwnW p e below G (T.setTop (mkF m pc Ls st)) := by
  subst hp hv; exact K.go fun _ k => XS.iconst X.here hx rfl hd k
theorem own_bipush (X : Stand p l e R s m args below meth c T locs cells slots) (hx : p.tables.exec = Jvm.exec) {i : Int} (hd : decode c.code pc = .ok (.bipush i, 2)) (v : Int32) (hv : (Int8.ofInt i).toInt32 = v) (pc' : Nat) (hp : pc + 2 = pc')
    (K : OwnW p e below G (T.setTop (mkF m pc' Ls (.int v :: st)))) : OwnW p e below G (T.setTop (mkF m pc Ls st)) := by
  subst hp hv; exact K.go fun _ k => XS.bipush X.here hx rfl hd k
theorem own_sipush (X : Stand p l e R s m args below meth c T locs cells slots) (hx : p.tables.exec = Jvm.exec) {i : Int} (hd : decode c.code pc = .ok (.sipush i, 3)) (v : Int32) (hv : (Int16.ofInt i).toInt32 = v) (pc' : Nat) (hp : pc + 3 = pc')
    (K : OwnW p e below G (T.setTop (mkF m pc' Ls (.int v :: st)))) : OwnW p e below G (T.setTop (mkF m pc Ls st)) := by
  subst hp hv; exact K.go fun _ k => XS.sipush X.here hx rfl hd k
theorem own_lconst0 (X : Stand p l e R s m args below meth c T locs cells slots) (hx : p.tables.exec = Jvm.exec) (hd : decode c.code pc = .ok (.lconst 0, 1)) (pc' : Nat) (hp : pc + 1 = pc')
    (K : OwnW p e below G (T.setTop (mkF m pc' Ls (.long (0 : Int64) :: st)))) : OwnW p e below G (T.setTop (mkF m pc Ls st)) := by
  subst hp; exact K.go fun _ k => XS.lconst X.here hx rfl hd k
theorem own_lconst1 (X : Stand p l e R s m args below meth c T locs cells slots) (hx : p.tables.exec = Jvm.exec) (hd : decode c.code pc = .ok (.lconst 1, 1)) (pc' : Nat) (hp : pc + 1 = pc')
    (K : OwnW p e below G (T.setTop (mkF m pc' Ls (.long (1 : Int64) :: st)))) : OwnW p e below G (T.setTop (mkF m pc Ls st)) := by
  subst hp; exact K.go fun _ k => XS.lconst X.here hx rfl hd k
theorem own_null (X : Stand p l e R s m args below meth c T locs cells slots) (hx : p.tables.exec = Jvm.exec) (hd : decode c.code pc = .ok (.aconst_null, 1)) (pc' : Nat) (hp : pc + 1 = pc')
    (K : OwnW p e below G (T.setTop (mkF m pc' Ls (.null :: st)))) : OwnW p e below G (T.setTop (mkF m pc Ls st)) := by
  subst hp; exact K.go fun _ k => XS.aconstNull X.here hx rfl hd k
theorem own_ldcI (X : Stand p l e R s m args below meth c T locs cells slots) (hx : p.tables.exec = Jvm.exec) (hZ : Z.Warmed39 s.vm) {own : String} {index : Nat} {v : Int32} (hown : s.vm.findClass own = some m.cls) (w : (Cond.constant own index v).before a0 Z = true) (hd : decode c.code pc = .ok (.ldc index, 2)) (pc' : Nat) (hp : pc + 2 = pc')
    (K : OwnW p e below G (T.setTop (mkF m pc' Ls (.int v :: st)))) : OwnW p e below G (T.setTop (mkF m pc Ls st)) := by
  subst hp; exact K.go (X.ldcInt hx hown (mvT hZ w) (g := mkF m pc Ls st) rfl hd)
theorem own_ldcJ (X : Stand p l e R s m args below meth c T locs cells slots) (hx : p.tables.exec = Jvm.exec) (hZ : Z.Warmed39 s.vm) {own : String} {index : Nat} {v : Int64} (hown : s.vm.findClass own = some m.cls) (w : (Cond.constantLong own index v).before a0 Z = true) (hd : decode c.code pc = .ok (.ldc2_w index, 3)) (pc' : Nat) (hp : pc + 3 = pc')
    (K : OwnW p e below G (T.setTop (mkF m pc' Ls (.long v :: st)))) : OwnW p e below G (T.setTop (mkF m pc Ls st)) := by
  subst hp; exact K.go (X.ldc2Long hx hown (mvT hZ w) (g := mkF m pc Ls st) rfl hd)
theorem own_irem (X : Stand p l e R s m args below meth c T locs cells slots) (hx : p.tables.exec = Jvm.exec) {x y : Int32} (hd : decode c.code pc = .ok (.irem, 1)) (hy : y ≠ 0) (pc' : Nat) (hp : pc + 1 = pc')
    (K : OwnW p e below G (T.setTop (mkF m pc' Ls (.int (x % y) :: st)))) : OwnW p e below G (T.setTop (mkF m pc Ls (.int y :: .int x :: st))) := by
  subst hp; exact K.go fun _ k => iremM X hx rfl hd rfl hy k
theorem own_iadd (X : Stand p l e R s m args below meth c T locs cells slots) (hx : p.tables.exec = Jvm.exec) {x y : Int32} (hd : decode c.code pc = .ok (.iadd, 1)) (pc' : Nat) (hp : pc + 1 = pc')
    (K : OwnW p e below G (T.setTop (mkF m pc' Ls (.int (x + y) :: st)))) : OwnW p e below G (T.setTop (mkF m pc Ls (.int y :: .int x :: st))) := by
  subst hp; exact K.go fun _ k => XS.iadd X.here hx rfl hd rfl k
theorem own_isub (X : Stand p l e R s m args below meth c T locs cells slots) (hx : p.tables.exec = Jvm.exec) {x y : Int32} (hd : decode c.code pc = .ok (.isub, 1)) (pc' : Nat) (hp : pc + 1 = pc')
    (K : OwnW p e below G (T.setTop (mkF m pc' Ls (.int (x - y) :: st)))) : OwnW p e below G (T.setTop (mkF m pc Ls (.int y :: .int x :: st))) := by
  subst hp; exact K.go fun _ k => XS.isub X.here hx rfl hd rfl k
theorem own_imul (X : Stand p l e R s m args below meth c T locs cells slots) (hx : p.tables.exec = Jvm.exec) {x y : Int32} (hd : decode c.code pc = .ok (.imul, 1)) (pc' : Nat) (hp : pc + 1 = pc')
    (K : OwnW p e below G (T.setTop (mkF m pc' Ls (.int (x * y) :: st)))) : OwnW p e below G (T.setTop (mkF m pc Ls (.int y :: .int x :: st))) := by
  subst hp; exact K.go fun _ k => XS.imul X.here hx rfl hd rfl k
theorem own_iand (X : Stand p l e R s m args below meth c T locs cells slots) (hx : p.tables.exec = Jvm.exec) {x y : Int32} (hd : decode c.code pc = .ok (.iand, 1)) (pc' : Nat) (hp : pc + 1 = pc')
    (K : OwnW p e below G (T.setTop (mkF m pc' Ls (.int (x &&& y) :: st)))) : OwnW p e below G (T.setTop (mkF m pc Ls (.int y :: .int x :: st))) := by
  subst hp; exact K.go fun _ k => XS.iand X.here hx rfl hd rfl k
theorem own_ior (X : Stand p l e R s m args below meth c T locs cells slots) (hx : p.tables.exec = Jvm.exec) {x y : Int32} (hd : decode c.code pc = .ok (.ior, 1)) (pc' : Nat) (hp : pc + 1 = pc')
    (K : OwnW p e below G (T.setTop (mkF m pc' Ls (.int (x ||| y) :: st)))) : OwnW p e below G (T.setTop (mkF m pc Ls (.int y :: .int x :: st))) := by
  subst hp; exact K.go fun _ k => XS.ior X.here hx rfl hd rfl k
theorem own_ixor (X : Stand p l e R s m args below meth c T locs cells slots) (hx : p.tables.exec = Jvm.exec) {x y : Int32} (hd : decode c.code pc = .ok (.ixor, 1)) (pc' : Nat) (hp : pc + 1 = pc')
    (K : OwnW p e below G (T.setTop (mkF m pc' Ls (.int (x ^^^ y) :: st)))) : OwnW p e below G (T.setTop (mkF m pc Ls (.int y :: .int x :: st))) := by
  subst hp; exact K.go fun _ k => XS.ixor X.here hx rfl hd rfl k
theorem own_ladd (X : Stand p l e R s m args below meth c T locs cells slots) (hx : p.tables.exec = Jvm.exec) {x y : Int64} (hd : decode c.code pc = .ok (.ladd, 1)) (pc' : Nat) (hp : pc + 1 = pc')
    (K : OwnW p e below G (T.setTop (mkF m pc' Ls (.long (x + y) :: st)))) : OwnW p e below G (T.setTop (mkF m pc Ls (.long y :: .long x :: st))) := by
  subst hp; exact K.go fun _ k => XS.ladd X.here hx rfl hd rfl k
theorem own_lsub (X : Stand p l e R s m args below meth c T locs cells slots) (hx : p.tables.exec = Jvm.exec) {x y : Int64} (hd : decode c.code pc = .ok (.lsub, 1)) (pc' : Nat) (hp : pc + 1 = pc')
    (K : OwnW p e below G (T.setTop (mkF m pc' Ls (.long (x - y) :: st)))) : OwnW p e below G (T.setTop (mkF m pc Ls (.long y :: .long x :: st))) := by
  subst hp; exact K.go fun _ k => XS.lsub X.here hx rfl hd rfl k
theorem own_lmul (X : Stand p l e R s m args below meth c T locs cells slots) (hx : p.tables.exec = Jvm.exec) {x y : Int64} (hd : decode c.code pc = .ok (.lmul, 1)) (pc' : Nat) (hp : pc + 1 = pc')
    (K : OwnW p e below G (T.setTop (mkF m pc' Ls (.long (x * y) :: st)))) : OwnW p e below G (T.setTop (mkF m pc Ls (.long y :: .long x :: st))) := by
  subst hp; exact K.go fun _ k => XS.lmul X.here hx rfl hd rfl k
theorem own_iushr (X : Stand p l e R s m args below meth c T locs cells slots) (hx : p.tables.exec = Jvm.exec) {x y : Int32} (hd : decode c.code pc = .ok (.iushr, 1)) (pc' : Nat) (hp : pc + 1 = pc')
    (K : OwnW p e below G (T.setTop (mkF m pc' Ls (.int ((x.toUInt32 >>> (y &&& 31).toUInt32).toInt32) :: st)))) : OwnW p e below G (T.setTop (mkF m pc Ls (.int y :: .int x :: st))) := by
  subst hp; exact K.go fun _ k => XS.iushr X.here hx rfl hd rfl k
theorem own_i2l (X : Stand p l e R s m args below meth c T locs cells slots) (hx : p.tables.exec = Jvm.exec) {x : Int32} (hd : decode c.code pc = .ok (.i2l, 1)) (pc' : Nat) (hp : pc + 1 = pc')
    (K : OwnW p e below G (T.setTop (mkF m pc' Ls (.long x.toInt64 :: st)))) : OwnW p e below G (T.setTop (mkF m pc Ls (.int x :: st))) := by
  subst hp; exact K.go fun _ k => XS.i2l X.here hx rfl hd rfl k
theorem own_l2i (X : Stand p l e R s m args below meth c T locs cells slots) (hx : p.tables.exec = Jvm.exec) {x : Int64} (hd : decode c.code pc = .ok (.l2i, 1)) (pc' : Nat) (hp : pc + 1 = pc')
    (K : OwnW p e below G (T.setTop (mkF m pc' Ls (.int x.toInt32 :: st)))) : OwnW p e below G (T.setTop (mkF m pc Ls (.long x :: st))) := by
  subst hp; exact K.go fun _ k => XS.l2i X.here hx rfl hd rfl k
theorem own_lcmp (X : Stand p l e R s m args below meth c T locs cells slots) (hx : p.tables.exec = Jvm.exec) {x y : Int64} (hd : decode c.code pc = .ok (.lcmp, 1)) (pc' : Nat) (hp : pc + 1 = pc')
    (K : OwnW p e below G (T.setTop (mkF m pc' Ls (.int (lcmpW x y) :: st)))) : OwnW p e below G (T.setTop (mkF m pc Ls (.long y :: .long x :: st))) := by
  subst hp; exact K.go fun _ k => XS.lcmp X.here hx rfl hd rfl k
theorem own_dup (X : Stand p l e R s m args below meth c T locs cells slots) (hx : p.tables.exec = Jvm.exec) {x : Value} (hd : decode c.code pc = .ok (.dup, 1)) (hc : x.category = 1) (pc' : Nat) (hp : pc + 1 = pc')
    (K : OwnW p e below G (T.setTop (mkF m pc' Ls (x :: x :: st)))) : OwnW p e below G (T.setTop (mkF m pc Ls (x :: st))) := by
  subst hp; exact K.go fun _ k => XS.dup X.here hx rfl hd rfl hc k
theorem own_dup2 (X : Stand p l e R s m args below meth c T locs cells slots) (hx : p.tables.exec = Jvm.exec) {x y : Value} (hd : decode c.code pc = .ok (.dup2, 1)) (hc : x.category = 1) (hc' : y.category = 1) (pc' : Nat) (hp : pc + 1 = pc')
    (K : OwnW p e below G (T.setTop (mkF m pc' Ls (x :: y :: x :: y :: st)))) : OwnW p e below G (T.setTop (mkF m pc Ls (x :: y :: st))) := by
  subst hp; exact K.go fun _ k => XT.dup2 X.here hx rfl hd rfl hc hc' k
theorem own_pop (X : Stand p l e R s m args below meth c T locs cells slots) (hx : p.tables.exec = Jvm.exec) {x : Value} (hd : decode c.code pc = .ok (.pop, 1)) (hc : x.category = 1) (pc' : Nat) (hp : pc + 1 = pc')
    (K : OwnW p e below G (T.setTop (mkF m pc' Ls st))) : OwnW p e below G (T.setTop (mkF m pc Ls (x :: st))) := by
  subst hp; exact K.go fun _ k => XS.pop X.here hx rfl hd rfl hc k
theorem own_goto (X : Stand p l e R s m args below meth c T locs cells slots) (hx : p.tables.exec = Jvm.exec) {o : Int} (hd : decode c.code pc = .ok (.goto o, 3)) (pc' : Nat) (hp : (pc : Int) + o = (pc' : Nat))
    (K : OwnW p e below G (T.setTop (mkF m pc' Ls st))) : OwnW p e below G (T.setTop (mkF m pc Ls st)) := by
  exact K.go fun _ k => XS.goto X.here hx rfl (pc0 := pc) (pc' := pc') rfl hd (by omega) (by omega) k
theorem own_ifY (X : Stand p l e R s m args below meth c T locs cells slots) (hx : p.tables.exec = Jvm.exec) {cd : ClassFile.Cond} {x : Int32} {o : Int} (hd : decode c.code pc = .ok (.ifCond cd o, 3)) (hc : if_icmp.holds cd x 0 = true) (pc' : Nat) (hp : (pc : Int) + o = (pc' : Nat))
    (K : OwnW p e below G (T.setTop (mkF m pc' Ls st))) : OwnW p e below G (T.setTop (mkF m pc Ls (.int x :: st))) := by
  exact K.go fun _ k => XS.ifYes X.here hx rfl (pc0 := pc) (pc' := pc') rfl hd rfl ((if0 _ _).trans hc) (by omega) (by omega) k
theorem own_ifN (X : Stand p l e R s m args below meth c T locs cells slots) (hx : p.tables.exec = Jvm.exec) {cd : ClassFile.Cond} {x : Int32} {o : Int} (hd : decode c.code pc = .ok (.ifCond cd o, 3)) (hc : if_icmp.holds cd x 0 = false) (pc' : Nat) (hp : pc + 3 = pc')
    (K : OwnW p e below G (T.setTop (mkF m pc' Ls st))) : OwnW p e below G (T.setTop (mkF m pc Ls (.int x :: st))) := by
  subst hp; exact K.go fun _ k => XS.ifNo X.here hx rfl hd rfl ((if0 _ _).trans hc) k
theorem own_icmpY (X : Stand p l e R s m args below meth c T locs cells slots) (hx : p.tables.exec = Jvm.exec) {cd : ClassFile.Cond} {x y : Int32} {o : Int} (hd : decode c.code pc = .ok (.if_icmp cd o, 3)) (hc : if_icmp.holds cd x y = true) (pc' : Nat) (hp : (pc : Int) + o = (pc' : Nat))
    (K : OwnW p e below G (T.setTop (mkF m pc' Ls st))) : OwnW p e below G (T.setTop (mkF m pc Ls (.int y :: .int x :: st))) := by
  exact K.go fun _ k => XS.icmpYes X.here hx rfl (pc0 := pc) (pc' := pc') rfl hd rfl hc (by omega) (by omega) k
theorem own_icmpN (X : Stand p l e R s m args below meth c T locs cells slots) (hx : p.tables.exec = Jvm.exec) {cd : ClassFile.Cond} {x y : Int32} {o : Int} (hd : decode c.code pc = .ok (.if_icmp cd o, 3)) (hc : if_icmp.holds cd x y = false) (pc' : Nat) (hp : pc + 3 = pc')
    (K : OwnW p e below G (T.setTop (mkF m pc' Ls st))) : OwnW p e below G (T.setTop (mkF m pc Ls (.int y :: .int x :: st))) := by
  subst hp; exact K.go fun _ k => XS.icmpNo X.here hx rfl hd rfl hc k
theorem own_acmp (X : Stand p l e R s m args below meth c T locs cells slots) (hx : p.tables.exec = Jvm.exec) {cd : ACond} {x y : Value} (h1 : x.isRef = true) (h2 : y.isRef = true) {o : Int} (hd : decode c.code pc = .ok (.if_acmp cd o, 3)) (same : Bool) (hq : decide (x = y) = same) (ho : 0 ≤ (pc : Int) + o) (pc' : Nat) (hp : pc' = if acV cd same = true then ((pc : Int) + o).toNat else pc + 3)
    (K : OwnW p e below G (T.setTop (mkF m pc' Ls st))) : OwnW p e below G (T.setTop (mkF m pc Ls (y :: x :: st))) := by
  exact K.go fun _ k => Jvm.RoadKit.acmp (g := mkF m pc Ls (y :: x :: st)) X hx rfl h1 h2 (pc0 := pc) (pc' := pc') (same := same) rfl hd rfl hq ho hp k
theorem own_ifnullY (X : Stand p l e R s m args below meth c T locs cells slots) (hx : p.tables.exec = Jvm.exec) {o : Int} (hd : decode c.code pc = .ok (.ifnull o, 3)) (pc' : Nat) (hp : (pc : Int) + o = (pc' : Nat))
    (K : OwnW p e below G (T.setTop (mkF m pc' Ls st))) : OwnW p e below G (T.setTop (mkF m pc Ls (.null :: st))) := by
  exact K.go fun _ k => XS.ifnullYes X.here hx rfl (pc0 := pc) (pc' := pc') rfl hd rfl (by omega) (by omega) k
theorem own_ifnullN (X : Stand p l e R s m args below meth c T locs cells slots) (hx : p.tables.exec = Jvm.exec) {o : Int} {b : Addr} (hd : decode c.code pc = .ok (.ifnull o, 3)) (pc' : Nat) (hp : pc + 3 = pc')
    (K : OwnW p e below G (T.setTop (mkF m pc' Ls st))) : OwnW p e below G (T.setTop (mkF m pc Ls (.ref b :: st))) := by
  subst hp; exact K.go fun _ k => XS.ifnullNo X.here hx rfl hd rfl k
theorem own_getF (X : Stand p l e R s m args below meth c T locs cells slots) (hx : p.tables.exec = Jvm.exec) (hZ : Z.Warmed39 s.vm) {own R0 O n d : String} {index : Nat} (hown : s.vm.findClass own = some m.cls) (w : (Cond.fieldLink own index R0 n d).before a0 Z = true) (via : Via Z R0 O n d) (eT : T.heap = h) {a : Addr} {v : Value} (F : Fld Z h a O n d v) (hd : decode c.code pc = .ok (.getfield index, 3)) (pc' : Nat) (hp : pc + 3 = pc')
    (K : ∀ T', Stand p l e R s m args below meth c T' locs cells slots → T'.heap = h → OwnW p e below G (T'.setTop (mkF m pc' Ls (v :: st)))) : OwnW p e below G (T.setTop (mkF m pc Ls (.ref a :: st))) := by
  subst hp
  obtain ⟨T', X', e', st'⟩ := getF X hx hZ hown (host := "") (Or.inl w) via eT F (g := mkF m pc Ls (.ref a :: st)) rfl rfl hd
  exact (K T' X' e').go st'
theorem own_getS (X : Stand p l e R s m args below meth c T locs cells slots) (hx : p.tables.exec = Jvm.exec) (hZ : Z.Warmed39 s.vm) {own R0 O n d : String} {index : Nat} (hown : s.vm.findClass own = some m.cls) (w : (Cond.fieldLink own index R0 n d).before a0 Z = true) (via : Via Z R0 O n d) (eT : T.heap = h) {v : Value} (F : Sta Z h O n d v) (hd : decode c.code pc = .ok (.getstatic index, 3)) (pc' : Nat) (hp : pc + 3 = pc')
    (K : ∀ T', Stand p l e R s m args below meth c T' locs cells slots → T'.heap = h → OwnW p e below G (T'.setTop (mkF m pc' Ls (v :: st)))) : OwnW p e below G (T.setTop (mkF m pc Ls st)) := by
  subst hp
  obtain ⟨T', X', e', st'⟩ := getS (host := "") X hx hZ hown w via eT F (g := mkF m pc Ls st) rfl hd
  exact (K T' X' e').go st'
theorem own_castY (X : Stand p l e R s m args below meth c T locs cells slots) (hx : p.tables.exec = Jvm.exec) (hZ : Z.Warmed39 s.vm) {own C : String} {index : Nat} (hown : s.vm.findClass own = some m.cls) (w : (Cond.classLink own index C).before a0 Z = true) (eT : T.heap = h) {a : Addr} (F : Ins Z h a C true) (hd : decode c.code pc = .ok (.checkcast index, 3)) (pc' : Nat) (hp : pc + 3 = pc')
    (K : ∀ T', Stand p l e R s m args below meth c T' locs cells slots → T'.heap = h → OwnW p e below G (T'.setTop (mkF m pc' Ls (.ref a :: st)))) : OwnW p e below G (T.setTop (mkF m pc Ls (.ref a :: st))) := by
  subst hp
  obtain ⟨T', X', e', st'⟩ := castY X hx hZ hown w eT F (g := mkF m pc Ls (.ref a :: st)) rfl rfl hd
  exact (K T' X' e').go st'
theorem own_instY (X : Stand p l e R s m args below meth c T locs cells slots) (hx : p.tables.exec = Jvm.exec) (hZ : Z.Warmed39 s.vm) {own C : String} {index : Nat} (hown : s.vm.findClass own = some m.cls) (w : (Cond.classLink own index C).before a0 Z = true) (eT : T.heap = h) {a : Addr} (F : Ins Z h a C true) (hd : decode c.code pc = .ok (.instanceof index, 3)) (pc' : Nat) (hp : pc + 3 = pc')
    (K : ∀ T', Stand p l e R s m args below meth c T' locs cells slots → T'.heap = h → OwnW p e below G (T'.setTop (mkF m pc' Ls (.int (1 : Int32) :: st)))) : OwnW p e below G (T.setTop (mkF m pc Ls (.ref a :: st))) := by
  subst hp
  obtain ⟨T', X', e', st'⟩ := instY X hx hZ hown w eT F (g := mkF m pc Ls (.ref a :: st)) rfl rfl hd
  exact (K T' X' e').go st'
theorem own_putF (X : Stand p l e R s m args below meth c T locs cells slots) (hx : p.tables.exec = Jvm.exec) (hZ : Z.Warmed39 s.vm) {own R0 O n d C : String} {index kk : Nat} {ty : FieldType} (hown : s.vm.findClass own = some m.cls) (w : (Cond.fieldLink own index R0 n d).before a0 Z = true) (via : Via Z R0 O n d)
    (eT : T.heap = h) {a : Addr} {v old : Value} (F : Fld Z h a O n d old) (E : Exa Z h a C) (L : (Cond.lays C O n d).before a0 Z = true ∨ ((Cond.laysFinal C O n d).before a0 Z = true ∧ own = O ∧ meth.name = "<init>")) (wi : (Cond.instantiable C kk).before a0 Z = true)
    (hty : parseFieldDescriptor d = some ty) (hn : narrow ty v = v) (hf : fits ty v = true) (hd : decode c.code pc = .ok (.putfield index, 3)) (pc' : Nat) (hp : pc + 3 = pc')
    (K : ∀ T' h', Stand p l e R s m args below meth c T' (locs ++ [⟨a, Jvm.RoadKit.slotOf Z O n d⟩]) cells slots → T'.heap = h' → Wr h h' a (Jvm.RoadKit.slotOf Z O n d) v → OwnW p e below G (T'.setTop (mkF m pc' Ls st))) : OwnW p e below G (T.setTop (mkF m pc Ls (v :: .ref a :: st))) := by
  subst hp
  obtain ⟨T', h', X', e', W', st'⟩ := putF X hx hZ hown (host := "") (Or.inl w) via eT F E L wi hty hn hf (g := mkF m pc Ls (v :: .ref a :: st)) rfl rfl hd
  exact (K T' h' X' e' W').go st'
theorem own_new (X : Stand p l e R s m args below meth c T locs cells slots) (hx : p.tables.exec = Jvm.exec) (hZ : Z.Warmed39 s.vm) {own C : String} {index n : Nat} (hown : s.vm.findClass own = some m.cls) (w : (Cond.classLink own index C).before a0 Z = true) (wi : (Cond.instantiable C n).before a0 Z = true) (wz : (Cond.initialized C).before a0 Z = true) (eT : T.heap = h)
    (hd : decode c.code pc = .ok (.new index, 3)) (hc : cells + 1 ≤ R.cells) (hl : slots + n ≤ R.slots) (pc' : Nat) (hp : pc + 3 = pc')
    (K : ∀ T' h' b, b = h.size → Stand p l e R s m args below meth c T' locs (cells + 1) (slots + n) → T'.heap = h' → Ext h h' → Exa Z h' b C → (∀ {O nm d : String} {ty : FieldType}, Laid Z a0 C O nm d → parseFieldDescriptor d = some ty → Fld Z h' b O nm d (defaultValue ty)) → OwnW p e below G (T'.setTop (mkF m pc' Ls (.ref b :: st)))) : OwnW p e below G (T.setTop (mkF m pc Ls st)) := by
  subst hp
  obtain ⟨T', h', X', e', E', A', D', -, st'⟩ := newO X hx hZ hown w wi wz eT (g := mkF m pc Ls st) rfl hd hc hl
  exact (K T' h' _ rfl X' e' E' A' D').go st'
theorem own_initO (X : Stand p l e R s m args below meth c T locs cells slots) (hx : p.tables.exec = Jvm.exec) (hZ : Z.Warmed39 s.vm) {own : String} {idx : Nat} (hown : s.vm.findClass own = some m.cls) (w1 : (Cond.methodLink own idx Lib.objectInit).before a0 Z = true) (w2 : (Cond.instanceMethod Lib.objectInit).before a0 Z = true)
    (w3 : (Cond.code Lib.objectInit ⟨#[0xb1]⟩ 1 none).before a0 Z = true) (eT : T.heap = h) (hsize : Ls.size = c.maxLocals) {a : Addr} (hd : decode c.code pc = .ok (.invokespecial idx, 3))
    (hf : 1 ≤ R.frames) (W : Nat) (hW : (st.map fun v => v.category).sum ≤ W) (hl : W + 12 ≤ R.locals) (pc' : Nat) (hp : pc + 3 = pc')
    (K : ∀ T', Stand p l e R s m args below meth c T' locs cells slots → T'.heap = h → OwnW p e below G (T'.setTop (mkF m pc' Ls st))) : OwnW p e below G (T.setTop (mkF m pc Ls (.ref a :: st))) := by
  subst hp
  obtain ⟨T', X', e', st'⟩ := initO X hx hZ hown w1 w2 w3 eT (g := mkF m pc Ls (.ref a :: st)) rfl hsize rfl hd hf (W := W) (by show 2 * 0 + _ ≤ _; omega) hl
  exact (K T' X' e').go st'
theorem own_callI {y : MethodName} {bytes : ByteArray} {maxL : Nat} {rm : Room} {Qc : Option Value → Heap → List Loc → Prop} {own : String} {index : Nat} {a : Addr} {argsL : List Value} {ps : List FieldType} {r : Option FieldType}
    (X : Stand p l e R s m args below meth c T locs cells slots) (hx : p.tables.exec = Jvm.exec) (hZ : Z.Warmed39 s.vm) (hown : s.vm.findClass own = some m.cls) (hy1 : y.name = "<init>") (wl : (Cond.methodLink own index y).before a0 Z = true) (wi : (Cond.instanceMethod y).before a0 Z = true)
    (wc : (Cond.code y bytes maxL none).before a0 Z = true) (wz : (Cond.initialized y.cls).before a0 Z = true) (hy : y.cls ≠ "java/lang/invoke/MethodHandle" ∧ y.cls ≠ "java/lang/invoke/VarHandle")
    (hM : MetFree l y (head1 [Cond.code y bytes maxL none] rm) (fun a' U => a' = (.ref a :: argsL).toArray ∧ Z.Warmed39 U.vm ∧ U.heap = h) (fun _ _ _ _ _ => True) (fun _ U o U' => ∃ v L, o = .returned v ∧ Qc v U'.heap L ∧ FrameEnd U o U' L rm.cells rm.slots))
    (eT : T.heap = h) (hd : decode c.code pc = .ok (.invokespecial index, 3)) (hpd : parseMethodDescriptor y.desc = some ⟨ps, r⟩) (hlen : argsL.length = ps.length) (hsz : Ls.size = c.maxLocals)
    {stk : List Value} (hst : stk = argsL.reverse ++ .ref a :: st) (W : Nat) (hW : (st.map fun v => v.category).sum ≤ W) (hf : rm.frames + 1 ≤ R.frames) (hl : W + (maxL + 11) + rm.locals ≤ R.locals) (hc : cells + rm.cells ≤ R.cells) (hs : slots + rm.slots ≤ R.slots) (pc' : Nat) (hp : pc + 3 = pc')
    (K : ∀ T' v L, Stand p l e R s m args below meth c T' (locs ++ L) (cells + rm.cells) (slots + rm.slots) → Qc v T'.heap L → OwnW p e below G (T'.setTop (mkF m pc' Ls (v.toList ++ st)))) : OwnW p e below G (T.setTop (mkF m pc Ls stk)) := by
  subst hp
  obtain ⟨v, _, ⟨T', L', k', n'⟩, -, X', ⟨Lc, hQ, q1, q2, q3⟩, st'⟩ := X.specialBack hx (y := y) hy1 hown (mvT hZ wl) (mvT hZ wi) (mvT hZ wc) hy (backOf (W := W) hM hZ wc wz hf hl) (g := mkF m pc Ls stk) rfl hsz (Steps.refl _) (a := a) (argsL := argsL) (rest := st) (lenOf hpd hlen) hst (by show 2 * 0 + _ ≤ _; omega) hd (fun _ _ => ⟨rfl, eT, hc, hs⟩)
  dsimp only [Pt.U, Pt.locs, Pt.cells, Pt.slots] at X' q1 q2 q3 st' hQ
  subst q1 q2 q3
  exact (K T' v Lc X' hQ).tr st'
theorem own_callIN {y : MethodName} {bytes : ByteArray} {maxL : Nat} {rm : Room} {Qc : Option Value → Heap → List Loc → Prop} {own host : String} {index : Nat} {a : Addr} {argsL : List Value} {ps : List FieldType} {r : Option FieldType}
    (X : Stand p l e R s m args below meth c T locs cells slots) (hx : p.tables.exec = Jvm.exec) (hZ : Z.Warmed39 s.vm) (hown : s.vm.findClass own = some m.cls) (hy1 : y.name = "<init>") (wl : (Cond.methodLinkNest own index y host).before a0 Z = true) (wi : (Cond.instanceMethod y).before a0 Z = true)
    (wc : (Cond.code y bytes maxL none).before a0 Z = true) (wz : (Cond.initialized y.cls).before a0 Z = true) (hy : y.cls ≠ "java/lang/invoke/MethodHandle" ∧ y.cls ≠ "java/lang/invoke/VarHandle")
    (hM : MetFree l y (head1 [Cond.code y bytes maxL none] rm) (fun a' U => a' = (.ref a :: argsL).toArray ∧ Z.Warmed39 U.vm ∧ U.heap = h) (fun _ _ _ _ _ => True) (fun _ U o U' => ∃ v L, o = .returned v ∧ Qc v U'.heap L ∧ FrameEnd U o U' L rm.cells rm.slots))
    (eT : T.heap = h) (hd : decode c.code pc = .ok (.invokespecial index, 3)) (hpd : parseMethodDescriptor y.desc = some ⟨ps, r⟩) (hlen : argsL.length = ps.length) (hsz : Ls.size = c.maxLocals)
    {stk : List Value} (hst : stk = argsL.reverse ++ .ref a :: st) (W : Nat) (hW : (st.map fun v => v.category).sum ≤ W) (hf : rm.frames + 1 ≤ R.frames) (hl : W + (maxL + 11) + rm.locals ≤ R.locals) (hc : cells + rm.cells ≤ R.cells) (hs : slots + rm.slots ≤ R.slots) (pc' : Nat) (hp : pc + 3 = pc')
    (K : ∀ T' v L, Stand p l e R s m args below meth c T' (locs ++ L) (cells + rm.cells) (slots + rm.slots) → Qc v T'.heap L → OwnW p e below G (T'.setTop (mkF m pc' Ls (v.toList ++ st)))) : OwnW p e below G (T.setTop (mkF m pc Ls stk)) := by
  subst hp
  obtain ⟨v, _, ⟨T', L', k', n'⟩, -, X', ⟨Lc, hQ, q1, q2, q3⟩, st'⟩ := X.specialBackNest hx (y := y) hy1 hown (Cond.methodLinkNest_wide hZ wl) (mvT hZ wi) (mvT hZ wc) hy (backOf (W := W) hM hZ wc wz hf hl) (g := mkF m pc Ls stk) rfl hsz (Steps.refl _) (a := a) (argsL := argsL) (rest := st) (lenOf hpd hlen) hst (by show 2 * 0 + _ ≤ _; omega) hd (fun _ _ => ⟨rfl, eT, hc, hs⟩)
  dsimp only [Pt.U, Pt.locs, Pt.cells, Pt.slots] at X' q1 q2 q3 st' hQ
  subst q1 q2 q3
  exact (K T' v Lc X' hQ).tr st'
theorem own_callV {y : MethodName} {bytes : ByteArray} {maxL : Nat} {ret : Option FieldType} {rm : Room} {Qc : Option Value → Heap → List Loc → Prop} {own C : String} {index : Nat} {a : Addr} {argsL : List Value} {ps : List FieldType} {r : Option FieldType}
    (X : Stand p l e R s m args below meth c T locs cells slots) (hx : p.tables.exec = Jvm.exec) (hZ : Z.Warmed39 s.vm) (hown : s.vm.findClass own = some m.cls) (wl : (Cond.methodLink own index y).before a0 Z = true) (wd : (Cond.declares y).before a0 Z = true) (ws : (Cond.selects C y y).before a0 Z = true) (wi : (Cond.instanceMethod y).before a0 Z = true)
    (wc : (Cond.code y bytes maxL ret).before a0 Z = true) (wz : (Cond.initialized y.cls).before a0 Z = true) (hy : y.cls ≠ "java/lang/invoke/MethodHandle" ∧ y.cls ≠ "java/lang/invoke/VarHandle") (E : Exa Z h a C)
    (hM : MetFree l y (head1 [Cond.code y bytes maxL ret] rm) (fun a' U => a' = (.ref a :: argsL).toArray ∧ Z.Warmed39 U.vm ∧ U.heap = h) (fun _ _ _ _ _ => True) (fun _ U o U' => ∃ v L, o = .returned v ∧ Qc v U'.heap L ∧ FrameEnd U o U' L rm.cells rm.slots))
    (eT : T.heap = h) (hd : decode c.code pc = .ok (.invokevirtual index, 3)) (hpd : parseMethodDescriptor y.desc = some ⟨ps, r⟩) (hlen : argsL.length = ps.length) (hsz : Ls.size = c.maxLocals)
    {stk : List Value} (hst : stk = argsL.reverse ++ .ref a :: st) (W : Nat) (hW : (st.map fun v => v.category).sum ≤ W) (hf : rm.frames + 1 ≤ R.frames) (hl : W + (maxL + 11) + rm.locals ≤ R.locals) (hc : cells + rm.cells ≤ R.cells) (hs : slots + rm.slots ≤ R.slots) (pc' : Nat) (hp : pc + 3 = pc')
    (K : ∀ T' v L, Stand p l e R s m args below meth c T' (locs ++ L) (cells + rm.cells) (slots + rm.slots) → Qc v T'.heap L → OwnW p e below G (T'.setTop (mkF m pc' Ls (v.toList ++ st)))) : OwnW p e below G (T.setTop (mkF m pc Ls stk)) := by
  subst hp
  obtain ⟨cq, kq, qa, qb, qc⟩ := isOf hZ eT E
  obtain ⟨v, _, ⟨T', L', k', n'⟩, -, X', ⟨Lc, hQ, q1, q2, q3⟩, st'⟩ := X.virtualBack hx (y := y) (z := y) hown (mvT hZ wl) (mvT hZ wd) (notFace_of_selects (args := #[]) (mvT hZ ws)) (mvT hZ ws) (mvT hZ wi) hy (backOf (W := W) hM hZ wc wz hf hl) qa qc (g := mkF m pc Ls stk) rfl hsz (Steps.refl _) (argsL := argsL) (rest := st) (lenOf hpd hlen) hst (by show 2 * 0 + _ ≤ _; omega) hd (fun _ _ => ⟨rfl, eT, hc, hs⟩)
  dsimp only [Pt.U, Pt.locs, Pt.cells, Pt.slots] at X' q1 q2 q3 st' hQ
  subst q1 q2 q3
  exact (K T' v Lc X' hQ).tr st'
theorem own_callS {y : MethodName} {bytes : ByteArray} {maxL : Nat} {ret : Option FieldType} {rm : Room} {Qc : Option Value → Heap → List Loc → Prop} {own : String} {index : Nat} {argsL : List Value} {ps : List FieldType} {r : Option FieldType}
    (X : Stand p l e R s m args below meth c T locs cells slots) (hx : p.tables.exec = Jvm.exec) (hZ : Z.Warmed39 s.vm) (hown : s.vm.findClass own = some m.cls) (wl : (Cond.methodLink own index y).before a0 Z = true) (wst : (Cond.static y).before a0 Z = true)
    (wc : (Cond.code y bytes maxL ret).before a0 Z = true) (wz : (Cond.initialized y.cls).before a0 Z = true) (hy : y.cls ≠ "java/lang/invoke/MethodHandle" ∧ y.cls ≠ "java/lang/invoke/VarHandle")
    (hM : MetFree l y (head1 [Cond.code y bytes maxL ret] rm) (fun a' U => a' = argsL.toArray ∧ Z.Warmed39 U.vm ∧ U.heap = h) (fun _ _ _ _ _ => True) (fun _ U o U' => ∃ v L, o = .returned v ∧ Qc v U'.heap L ∧ FrameEnd U o U' L rm.cells rm.slots))
    (eT : T.heap = h) (hd : decode c.code pc = .ok (.invokestatic index, 3)) (hpd : parseMethodDescriptor y.desc = some ⟨ps, r⟩) (hlen : argsL.length = ps.length) (hsz : Ls.size = c.maxLocals)
    {stk : List Value} (hst : stk = argsL.reverse ++ st) (W : Nat) (hW : (st.map fun v => v.category).sum ≤ W) (hf : rm.frames + 1 ≤ R.frames) (hl : W + (maxL + 11) + rm.locals ≤ R.locals) (hc : cells + rm.cells ≤ R.cells) (hs : slots + rm.slots ≤ R.slots) (pc' : Nat) (hp : pc + 3 = pc')
    (K : ∀ T' v L, Stand p l e R s m args below meth c T' (locs ++ L) (cells + rm.cells) (slots + rm.slots) → Qc v T'.heap L → OwnW p e below G (T'.setTop (mkF m pc' Ls (v.toList ++ st)))) : OwnW p e below G (T.setTop (mkF m pc Ls stk)) := by
  subst hp
  obtain ⟨v, _, ⟨T', L', k', n'⟩, -, X', ⟨Lc, hQ, q1, q2, q3⟩, st'⟩ := Jvm.LawKit.callS X hx (y := y) hown (mvT hZ wl) (mvT hZ wst) (mvT hZ wz) (mvT hZ wc) hy (backOf (W := W) hM hZ wc wz hf hl) (g := mkF m pc Ls stk) rfl hsz (argsL := argsL) (rest := st) (lenOf hpd hlen) hst (by show 2 * 0 + _ ≤ _; omega) hd (fun _ _ => ⟨rfl, eT, hc, hs⟩)
  dsimp only [Pt.U, Pt.locs, Pt.cells, Pt.slots] at X' q1 q2 q3 st' hQ
  subst q1 q2 q3
  exact (K T' v Lc X' hQ).go st'
theorem own_ret (X : Stand p l e R s m args below meth c T locs cells slots) (hx : p.tables.exec = Jvm.exec) (hlk : meth.locks = false) {w : Value} {t : FieldType} {i : Instr} (hret : meth.sig.returnType = some t) (hn : narrow t w = w)
    (hi : (i = .ireturn ∧ (t = .int ∨ t = .boolean ∨ t = .byte ∨ t = .char ∨ t = .short) ∧ ∃ z, w = .int z) ∨ (i = .lreturn ∧ t = .long ∧ ∃ z, w = .long z) ∨ (i = .dreturn ∧ t = .double ∧ ∃ z, w = .double z) ∨ (i = .freturn ∧ t = .float ∧ ∃ z, w = .float z) ∨ (i = .areturn ∧ t.isReference = true ∧ w.isRef = true))
    (hd : decode c.code pc = .ok (i, 1)) (hc : cells ≤ rc) (hs : slots ≤ rs) (hQ : Q (some w) T.heap locs) : OwnW p e below (OwnG s Q rc rs) (T.setTop (mkF m pc Ls (w :: st))) := by
  obtain ⟨fs, hr, hrun, hended, hW, hsame⟩ := X.leave (v := some w) (fun h => by rw [hret] at h; cases h) hlk
  exact ⟨_, _, retOut X hx hret hn hi hd hr, hrun, hended, _, _, rfl, hQ, ⟨_, rfl⟩, hW, hsame.mono hc hs⟩
theorem own_retI (X : Stand p l e R s m args below meth c T locs cells slots) (hx : p.tables.exec = Jvm.exec) (hlk : meth.locks = false) {z : Int32} (hret : meth.sig.returnType = some .int) (hd : decode c.code pc = .ok (.ireturn, 1)) (hc : cells ≤ rc) (hs : slots ≤ rs) (hQ : Q (some (.int z)) T.heap locs) : OwnW p e below (OwnG s Q rc rs) (T.setTop (mkF m pc Ls (.int z :: st))) :=
  own_ret X hx hlk hret rfl (Or.inl ⟨rfl, Or.inl rfl, z, rfl⟩) hd hc hs hQ
theorem own_retZ (X : Stand p l e R s m args below meth c T locs cells slots) (hx : p.tables.exec = Jvm.exec) (hlk : meth.locks = false) {z : Int32} (hret : meth.sig.returnType = some .boolean) (hz : z = 0 ∨ z = 1) (hd : decode c.code pc = .ok (.ireturn, 1)) (hc : cells ≤ rc) (hs : slots ≤ rs) (hQ : Q (some (.int z)) T.heap locs) : OwnW p e below (OwnG s Q rc rs) (T.setTop (mkF m pc Ls (.int z :: st))) :=
  own_ret X hx hlk hret (by rcases hz with rfl | rfl <;> rfl) (Or.inl ⟨rfl, Or.inr (Or.inl rfl), z, rfl⟩) hd hc hs hQ
theorem own_retJ (X : Stand p l e R s m args below meth c T locs cells slots) (hx : p.tables.exec = Jvm.exec) (hlk : meth.locks = false) {z : Int64} (hret : meth.sig.returnType = some .long) (hd : decode c.code pc = .ok (.lreturn, 1)) (hc : cells ≤ rc) (hs : slots ≤ rs) (hQ : Q (some (.long z)) T.heap locs) : OwnW p e below (OwnG s Q rc rs) (T.setTop (mkF m pc Ls (.long z :: st))) :=
  own_ret X hx hlk hret rfl (Or.inr (Or.inl ⟨rfl, rfl, z, rfl⟩)) hd hc hs hQ
theorem own_retA (X : Stand p l e R s m args below meth c T locs cells slots) (hx : p.tables.exec = Jvm.exec) (hlk : meth.locks = false) {w : Value} {t : FieldType} (hret : meth.sig.returnType = some t) (ht : t.isReference = true) (hw : w.isRef = true) (hn : narrow t w = w) (hd : decode c.code pc = .ok (.areturn, 1)) (hc : cells ≤ rc) (hs : slots ≤ rs) (hQ : Q (some w) T.heap locs) : OwnW p e below (OwnG s Q rc rs) (T.setTop (mkF m pc Ls (w :: st))) :=
  own_ret X hx hlk hret hn (Or.inr (Or.inr (Or.inr (Or.inr ⟨rfl, ht, hw⟩)))) hd hc hs hQ
theorem own_retV (X : Stand p l e R s m args below meth c T locs cells slots) (hx : p.tables.exec = Jvm.exec) (hlk : meth.locks = false) (hret : meth.sig.returnType = none) (hd : decode c.code pc = .ok (.return_, 1)) (hc : cells ≤ rc) (hs : slots ≤ rs) (hQ : Q none T.heap locs) : OwnW p e below (OwnG s Q rc rs) (T.setTop (mkF m pc Ls [])) := by
  obtain ⟨fs, hr, hrun, hended, hW, hsame⟩ := X.leave (v := none) (fun _ => rfl) hlk
  exact ⟨_, _, X.returnOut hx hret hd hr, hrun, hended, _, _, rfl, hQ, ⟨_, rfl⟩, hW, hsame.mono hc hs⟩
/-- a cell that is no class's statics -/
def OwnP (h : Heap) (x : Addr) : Prop := ∃ cell : Cell, h[x]? = some cell ∧ cell.vm.isStatics = false
theorem own_pE {a : Addr} {C : String} (E : Exa Z h a C) : OwnP h a := by obtain ⟨cell, k, h1, -, -, h4, -⟩ := E; exact ⟨cell, h1, h4⟩
theorem own_pV {a : Addr} {k : ClassId} {ty : FieldType} {n : Int32} {vs : List Value} {dv : Value} (F : Arv Z h a k ty n vs dv) : OwnP h a := by obtain ⟨cl, A, -⟩ := F; exact ⟨cl, A.1, A.plain⟩
theorem own_sta_keep {h' : Heap} {C n d : String} {v : Value} {ws : List Addr} (F : Sta Z h C n d v) (K : Keep h h' ws) (q : ∀ x ∈ ws, OwnP h x) : Sta Z h' C n d v := by
  obtain ⟨cf, i, k, f, st, cell, h1, h2, h3, h4, h5, h6, h7⟩ := F
  refine ⟨cf, i, k, f, st, cell, h1, h2, h3, h4, K.2.1 st cell h5 (fun z => ?_), h6, h7⟩
  obtain ⟨cell', e1, e2⟩ := q st z
  cases h5.symm.trans e1
  rw [h6] at e2; cases e2
theorem own_feq {t : Term} {C n d : String} {k : Int32} {a : Addr} (ht : t.eval args s none [] s = some (.ref a)) (hc : (Jvm.Cond.eq (Jvm.Term.field t C n d) (Jvm.Term.int k)).value args s none s [] = some true) : Fld s s.heap a C n d (.int k) := by
  refine Fld.start ?_
  have e := fld_at (args := args) (first := s) (o := none) (idx := []) (C := C) (n := n) (dd := d) ht
  rw [← e]
  obtain ⟨x, y, hx, hy, -, -⟩ := cmp_v (Or.inl hc)
  have hy' : y = .int k := Option.some.inj (hy.symm.trans rfl)
  subst hy'
  have h2 := hc
  simp only [Cond.value, hx, hy] at h2
  cases x with
  | int z => simp only [Option.some.injEq, decide_eq_true_eq] at h2; rw [hx, h2]
  | _ => simp at h2
theorem own_newP (X : Stand p l e R s m args below meth c T locs cells slots) (hx : p.tables.exec = Jvm.exec) (hZ : Z.Warmed39 s.vm) {aty : ArrayType} (w : (Cond.arrayClass (newarray.typeOf aty)).before a0 Z = true) (eT : T.heap = h) (hd : decode c.code pc = .ok (.newarray aty, 2)) {n : Int32}
    (hn : ¬ n < 0) (cap : Nat) (hcap : n.toNatClampNeg ≤ cap) (hb : cap * 8 ≤ 536870912) (hc : cells + 1 ≤ R.cells) (hl : slots + cap ≤ R.slots) (pc' : Nat) (hp : pc + 2 = pc')
    (K : ∀ T' h' b cA, b = h.size → Stand p l e R s m args below meth c T' locs (cells + 1) (slots + cap) → T'.heap = h' → Ext h h' → Arr Z h' b (newA cA (newarray.typeOf aty) n) (newarray.typeOf aty) → OwnW p e below G (T'.setTop (mkF m pc' Ls (.ref b :: st)))) : OwnW p e below G (T.setTop (mkF m pc Ls (.int n :: st))) := by
  subst hp
  obtain ⟨T', h', cA, X', e', E', A', st'⟩ := newP X hx hZ w eT (g := mkF m pc Ls (.int n :: st)) rfl hd rfl hn hcap hb hc hl
  exact (K T' h' _ cA rfl X' e' E' A').go st'
theorem own_stZ (X : Stand p l e R s m args below meth c T locs cells slots) (hx : p.tables.exec = Jvm.exec) (hZ : Z.Warmed39 s.vm) (eT : T.heap = h) {a : Addr} {cl : Cell} (A : Arr Z h a cl .boolean) {j x : Int32} (hj : ¬ (j < 0 ∨ cl.slots.size ≤ j.toNatClampNeg)) (hd : decode c.code pc = .ok (.bastore, 1)) (pc' : Nat) (hp : pc + 1 = pc')
    (K : ∀ T' h', Stand p l e R s m args below meth c T' (locs ++ [⟨a, j.toNatClampNeg⟩]) cells slots → T'.heap = h' → Wr h h' a j.toNatClampNeg (.int (nar .boolean x)) → OwnW p e below G (T'.setTop (mkF m pc' Ls st))) : OwnW p e below G (T.setTop (mkF m pc Ls (.int x :: .int j :: .ref a :: st))) := by
  subst hp
  obtain ⟨T', h', X', e', W', st'⟩ := stZ X hx hZ eT A hj (g := mkF m pc Ls (.int x :: .int j :: .ref a :: st)) rfl rfl hd
  exact (K T' h' X' e' W').go st'
theorem own_stJ (X : Stand p l e R s m args below meth c T locs cells slots) (hx : p.tables.exec = Jvm.exec) (hZ : Z.Warmed39 s.vm) (eT : T.heap = h) {a : Addr} {cl : Cell} (A : Arr Z h a cl .long) {j : Int32} {x : Int64} (hj : ¬ (j < 0 ∨ cl.slots.size ≤ j.toNatClampNeg)) (hd : decode c.code pc = .ok (.lastore, 1)) (pc' : Nat) (hp : pc + 1 = pc')
    (K : ∀ T' h', Stand p l e R s m args below meth c T' (locs ++ [⟨a, j.toNatClampNeg⟩]) cells slots → T'.heap = h' → Wr h h' a j.toNatClampNeg (.long x) → OwnW p e below G (T'.setTop (mkF m pc' Ls st))) : OwnW p e below G (T.setTop (mkF m pc Ls (.long x :: .int j :: .ref a :: st))) := by
  subst hp
  obtain ⟨T', h', X', e', W', st'⟩ := stJ X hx hZ eT A hj (g := mkF m pc Ls (.long x :: .int j :: .ref a :: st)) rfl rfl hd
  exact (K T' h' X' e' W').go st'
theorem own_stI (X : Stand p l e R s m args below meth c T locs cells slots) (hx : p.tables.exec = Jvm.exec) (hZ : Z.Warmed39 s.vm) (eT : T.heap = h) {a : Addr} {cl : Cell} (A : Arr Z h a cl .int) {j x : Int32} (hj : ¬ (j < 0 ∨ cl.slots.size ≤ j.toNatClampNeg)) (hd : decode c.code pc = .ok (.iastore, 1)) (pc' : Nat) (hp : pc + 1 = pc')
    (K : ∀ T' h', Stand p l e R s m args below meth c T' (locs ++ [⟨a, j.toNatClampNeg⟩]) cells slots → T'.heap = h' → Wr h h' a j.toNatClampNeg (.int x) → OwnW p e below G (T'.setTop (mkF m pc' Ls st))) : OwnW p e below G (T.setTop (mkF m pc Ls (.int x :: .int j :: .ref a :: st))) := by
  subst hp
  obtain ⟨T', h', X', e', W', st'⟩ := stI X hx hZ eT A hj (g := mkF m pc Ls (.int x :: .int j :: .ref a :: st)) rfl rfl hd
  exact (K T' h' X' e' W').go st'
theorem own_ldZ (X : Stand p l e R s m args below meth c T locs cells slots) (hx : p.tables.exec = Jvm.exec) (hZ : Z.Warmed39 s.vm) (eT : T.heap = h) {a : Addr} {k : ClassId} {n : Int32} {vs : List Value} {dv : Value} (F : Arv Z h a k .boolean n vs dv) {j : Int32} (hj : ¬ j < 0 ∧ j < n) (v : Value) (hv : vs.getD j.toNatClampNeg dv = v) (hd : decode c.code pc = .ok (.baload, 1)) (pc' : Nat) (hp : pc + 1 = pc')
    (K : OwnW p e below G (T.setTop (mkF m pc' Ls (v :: st)))) : OwnW p e below G (T.setTop (mkF m pc Ls (.int j :: .ref a :: st))) := by
  subst hp
  obtain ⟨cl, A, -, S, -, H, -⟩ := F
  have hin := inb_of S hj
  exact K.go (X.baloadBooleans hx (j := j) (v := v) (by rw [eT]; exact A.1) (State.isArrayOf_alike hZ.alike A.2.1) A.2.2 hin (H.at hin hv) (g := mkF m pc Ls (.int j :: .ref a :: st)) rfl rfl hd)
theorem own_ldJ (X : Stand p l e R s m args below meth c T locs cells slots) (hx : p.tables.exec = Jvm.exec) (hZ : Z.Warmed39 s.vm) (eT : T.heap = h) {a : Addr} {k : ClassId} {n : Int32} {vs : List Value} {dv : Value} (F : Arv Z h a k .long n vs dv) {j : Int32} (hj : ¬ j < 0 ∧ j < n) (v : Value) (hv : vs.getD j.toNatClampNeg dv = v) (hd : decode c.code pc = .ok (.laload, 1)) (pc' : Nat) (hp : pc + 1 = pc')
    (K : OwnW p e below G (T.setTop (mkF m pc' Ls (v :: st)))) : OwnW p e below G (T.setTop (mkF m pc Ls (.int j :: .ref a :: st))) := by
  subst hp
  obtain ⟨cl, A, -, S, -, H, -⟩ := F
  have hin := inb_of S hj
  exact K.go (X.laload hx (j := j) (v := v) (by rw [eT]; exact A.1) (State.isArrayOf_alike hZ.alike A.2.1) A.2.2 hin (H.at hin hv) (g := mkF m pc Ls (.int j :: .ref a :: st)) rfl rfl hd)
theorem own_len (X : Stand p l e R s m args below meth c T locs cells slots) (hx : p.tables.exec = Jvm.exec) (hZ : Z.Warmed39 s.vm) (eT : T.heap = h) {a : Addr} {k : ClassId} {ty : FieldType} {n : Int32} {vs : List Value} {dv : Value} (F : Arv Z h a k ty n vs dv) (hd : decode c.code pc = .ok (.arraylength, 1)) (pc' : Nat) (hp : pc + 1 = pc')
    (K : OwnW p e below G (T.setTop (mkF m pc' Ls (.int n :: st)))) : OwnW p e below G (T.setTop (mkF m pc Ls (.ref a :: st))) := by
  subst hp
  obtain ⟨cl, A, -, S, N, -, -⟩ := F
  rw [← len_of S N] at K
  exact K.go (X.arraylength hx (by rw [eT]; exact A.1) (State.isArrayOf_alike hZ.alike A.2.1) (g := mkF m pc Ls (.ref a :: st)) rfl rfl hd)
theorem own_instNull (X : Stand p l e R s m args below meth c T locs cells slots) (hx : p.tables.exec = Jvm.exec) {index : Nat} (hd : decode c.code pc = .ok (.instanceof index, 3)) (pc' : Nat) (hp : pc + 3 = pc')
    (K : OwnW p e below G (T.setTop (mkF m pc' Ls (.int (0 : Int32) :: st)))) : OwnW p e below G (T.setTop (mkF m pc Ls (.null :: st))) := by
  subst hp; exact K.go (X.instanceofNull hx (g := mkF m pc Ls (.null :: st)) rfl rfl hd)
theorem own_instNo (X : Stand p l e R s m args below meth c T locs cells slots) (hx : p.tables.exec = Jvm.exec) (hZ : Z.Warmed39 s.vm) {own C D : String} {index : Nat} (hown : s.vm.findClass own = some m.cls) (w : (Cond.classLink own index C).before a0 Z = true) (eT : T.heap = h) {a : Addr} (E : Exa Z h a D) (F : ∃ c t, Z.vm.findClass D = some c ∧ Z.vm.findClass C = some t ∧ Z.vm.assignable c t = false) (hd : decode c.code pc = .ok (.instanceof index, 3)) (pc' : Nat) (hp : pc + 3 = pc')
    (K : ∀ T', Stand p l e R s m args below meth c T' locs cells slots → T'.heap = h → OwnW p e below G (T'.setTop (mkF m pc' Ls (.int (0 : Int32) :: st)))) : OwnW p e below G (T.setTop (mkF m pc Ls (.ref a :: st))) := by
  subst hp
  obtain ⟨T', X', e', st'⟩ := instNo X hx hZ hown w eT E F (g := mkF m pc Ls (.ref a :: st)) rfl rfl hd
  exact (K T' X' e').go st'
theorem own_ldA (X : Stand p l e R s m args below meth c T locs cells slots) (hx : p.tables.exec = Jvm.exec) (hZ : Z.Warmed39 s.vm) (eT : T.heap = h) {a : Addr} {cl : Cell} {ty : FieldType} (A : Arr Z h a cl ty) (hty : ty.isReference = true) {j : Int32} (hin : ¬ (j < 0 ∨ cl.slots.size ≤ j.toNatClampNeg)) {v : Value} (hv : cl.slots[j.toNatClampNeg]? = some v) (hd : decode c.code pc = .ok (.aaload, 1)) (pc' : Nat) (hp : pc + 1 = pc')
    (K : OwnW p e below G (T.setTop (mkF m pc' Ls (v :: st)))) : OwnW p e below G (T.setTop (mkF m pc Ls (.int j :: .ref a :: st))) := by
  subst hp
  exact K.go (X.aaload hx (j := j) (v := v) (by rw [eT]; exact A.1) (State.isArrayOf_alike hZ.alike A.2.1) hty A.2.2 hin hv (g := mkF m pc Ls (.int j :: .ref a :: st)) rfl rfl hd)
theorem own_cp (X : Stand p l e R s m args below meth c T locs cells slots) (hx : p.tables.exec = Jvm.exec) (hZ : Z.Warmed39 s.vm) {own : String} {index : Nat} (hown : s.vm.findClass own = some m.cls)
    (w1 : (Cond.methodLink own index Jvm.Stand.acN).before a0 Z = true) (w2 : (Cond.native Jvm.Stand.acN).before a0 Z = true) (w3 : (Cond.static Jvm.Stand.acN).before a0 Z = true) (w4 : (Cond.initialized "java/lang/System").before a0 Z = true) (eT : T.heap = h)
    {a b : Addr} {k k' : ClassId} {ty : FieldType} {z z' sp dp nn : Int32} {vs vd : List Value} {dv dd : Value} (A : Arv Z h a k ty z vs dv) (B : Arv Z h b k' ty z' vd dd) (hty : refKind ty = false)
    (h1 : ¬ sp < 0) (h2 : ¬ dp < 0) (h3 : ¬ nn < 0) (h4 : sp.toNatClampNeg + nn.toNatClampNeg ≤ z.toNatClampNeg) (h5 : dp.toNatClampNeg + nn.toNatClampNeg ≤ z'.toNatClampNeg)
    (us : List Value) (hus : us = (List.range nn.toNatClampNeg).map fun i => vs.getD (sp.toNatClampNeg + i) dv) (hl : dp.toNatClampNeg + nn.toNatClampNeg ≤ vd.length) {n0 : Nat} (N : Fr n0 locs) (ge : n0 ≤ b)
    (hsize : Ls.size = c.maxLocals) (hd : decode c.code pc = .ok (.invokestatic index, 3)) (hf : 1 ≤ R.frames) (W : Nat) (hW : (st.map fun v => v.category).sum ≤ W) (hlo : W + (nativeFrameWords "java/lang/System" "arraycopy" 5 + 11) ≤ R.locals) (pc' : Nat) (hp : pc + 3 = pc')
    (K : ∀ T' h' L, Stand p l e R s m args below meth c T' L cells slots → T'.heap = h' → Fr n0 L → Keep h h' [b] → Arv Z h' b k' ty z' (vd.take dp.toNatClampNeg ++ us ++ vd.drop (dp.toNatClampNeg + nn.toNatClampNeg)) dd → OwnW p e below G (T'.setTop (mkF m pc' Ls st))) :
    OwnW p e below G (T.setTop (mkF m pc Ls (.int nn :: .int dp :: .ref b :: .int sp :: .ref a :: st))) := by
  subst hp
  obtain ⟨T', h', L', X', e', N', K', V', st'⟩ := cpA X hx hZ hown w1 w2 w3 w4 eT A B (Or.inl ⟨rfl, hty⟩) h1 h2 h3 h4 h5 hus hl N ge (g := mkF m pc Ls (.int nn :: .int dp :: .ref b :: .int sp :: .ref a :: st)) rfl hsize rfl hd hf (W := W) (by show 2 * 0 + _ ≤ _; omega) hlo
  exact (K T' h' L' X' e' N' K' V').go st'
theorem own_nar01 (x : Int32) : nar .boolean x = 0 ∨ nar .boolean x = 1 := and_one x
theorem own_nar {x : Int32} (h : x = 0 ∨ x = 1) : nar .boolean x = x := by rcases h with rfl | rfl <;> rfl
theorem own_newR (X : Stand p l e R s m args below meth c T locs cells slots) (hx : p.tables.exec = Jvm.exec) (hZ : Z.Warmed39 s.vm) {own C : String} {index : Nat} (hown : s.vm.findClass own = some m.cls) (w1 : (Cond.classLink own index C).before a0 Z = true) (w2 : (Cond.arrayOver (.object C)).before a0 Z = true) (eT : T.heap = h) (hd : decode c.code pc = .ok (.anewarray index, 3)) {n : Int32}
    (hn : ¬ n < 0) (cap : Nat) (hcap : n.toNatClampNeg ≤ cap) (hb : cap * 8 ≤ 536870912) (hc : cells + 1 ≤ R.cells) (hl : slots + cap ≤ R.slots) (pc' : Nat) (hp : pc + 3 = pc')
    (K : ∀ T' h' b cA, b = h.size → Stand p l e R s m args below meth c T' locs (cells + 1) (slots + cap) → T'.heap = h' → Ext h h' → Arr Z h' b (newA cA (.object C) n) (.object C) → Ovr Z cA C → OwnW p e below G (T'.setTop (mkF m pc' Ls (.ref b :: st)))) : OwnW p e below G (T.setTop (mkF m pc Ls (.int n :: st))) := by
  subst hp
  obtain ⟨T', h', cA, X', e', E', A', O', st'⟩ := newR X hx hZ hown w1 w2 eT (g := mkF m pc Ls (.int n :: st)) rfl hd rfl hn hcap hb hc hl
  exact (K T' h' _ cA rfl X' e' E' A' O').go st'
theorem own_stR (X : Stand p l e R s m args below meth c T locs cells slots) (hx : p.tables.exec = Jvm.exec) (hZ : Z.Warmed39 s.vm) (eT : T.heap = h) {a : Addr} {cl : Cell} {ty : FieldType} (A : Arr Z h a cl ty) {j : Int32} {v : Value} (hj : ¬ (j < 0 ∨ cl.slots.size ≤ j.toNatClampNeg)) (hty : ty.isReference = true) (F : Sto Z h a v) (hd : decode c.code pc = .ok (.aastore, 1)) (pc' : Nat) (hp : pc + 1 = pc')
    (K : ∀ T' h', Stand p l e R s m args below meth c T' (locs ++ [⟨a, j.toNatClampNeg⟩]) cells slots → T'.heap = h' → Wr h h' a j.toNatClampNeg v → OwnW p e below G (T'.setTop (mkF m pc' Ls st))) : OwnW p e below G (T.setTop (mkF m pc Ls (v :: .int j :: .ref a :: st))) := by
  subst hp
  obtain ⟨T', h', X', e', W', st'⟩ := stR X hx hZ eT A hj hty F (g := mkF m pc Ls (v :: .int j :: .ref a :: st)) rfl rfl hd
  exact (K T' h' X' e' W').go st'
/-- the end of a walk that loaded a String constant -/
def OwnGW (s : State) (Q : Option Value → Heap → List Loc → Prop) (rc rs : Nat) (o : Outcome) (t : State) : Prop := ∃ v L, o = .returned v ∧ Q v t.heap L ∧ ReturnedEndW s o t L rc rs
theorem own_ldcS (X : Stand p l e R s m args below meth c T locs cells slots) (hx : p.tables.exec = Jvm.exec) (hZ : Z.Warmed39 s.vm) {own text : String} {index : Nat} (hown : s.vm.findClass own = some m.cls) (w : (Cond.stringLink own index text).before a0 Z = true) (wS : ∀ a ∈ Bundle.stringAtoms, a.before a0 Z = true) (eT : T.heap = h)
    (hd : decode c.code pc = .ok (.ldc index, 2)) (n : Nat) (hn : 4 * text.toList.length ≤ n) (hbig : n ≤ 536870912) (hc : cells + 2 ≤ R.cells) (hl : slots + (n + 4) ≤ R.slots) (pc' : Nat) (hp : pc + 2 = pc')
    (K : ∀ s' a T' h' k1, Stand p l e R s' m args below meth c T' locs (cells + 2) (slots + (n + 4)) → T'.heap = h' → Ext h h' → k1 ≤ h'.size → Z.Warmed39 s'.vm → s'.vm.findClass own = some m.cls → OwnW p e below (OwnG s' (fun v hh L => Q v hh L ∧ k1 ≤ hh.size) rc rs) (T'.setTop (mkF m pc' Ls (.ref a :: st)))) : OwnW p e below (OwnGW s Q rc rs) (T.setTop (mkF m pc Ls st)) := by
  subst hp
  obtain ⟨a, T', h', k1, X', e', E', hS, hk, hZ', hown', st'⟩ := ldcS (s := s) (vm0 := s.vm) X hx hZ hown w wS eT ((State.WarmedH.refl s).since h.size) (Nat.le_refl _) (g := mkF m pc Ls st) rfl hd hn hbig hc hl
  obtain ⟨s₂, o, h1, h2, h3, v, L, rfl, ⟨hq, hsz⟩, hF⟩ := K (s.setVm T'.vm) a T' h' k1 X' e' E' hk hZ' hown'
  obtain ⟨a1, b1, c1⟩ := hS.ended (U := s₂) hF.2.1 hsz hF.2.2
  exact ⟨s₂, _, st' _ h1, h2, h3, v, L, rfl, hq, ⟨v, rfl⟩, a1, b1, c1⟩
end Own
theorem pd__I_Lcom_example_uscio_uscio_core_PrimitiveKind_ : parseMethodDescriptor "(I)Lcom/example/uscio/uscio/core/PrimitiveKind;" = some ⟨[.int], some (.object "com/example/uscio/uscio/core/PrimitiveKind")⟩ := by decide +kernel
theorem pd___Z : parseMethodDescriptor "()Z" = some ⟨[], some .boolean⟩ := by decide +kernel
theorem d1_0 : decode method_2_code 0 = .ok (.iload_n 0, 1) := by decide +kernel
theorem d1_1 : decode method_2_code 1 = .ok (.ifCond .ne 7, 3) := by decide +kernel
theorem d1_4 : decode method_2_code 4 = .ok (.getstatic 7, 3) := by decide +kernel
theorem d1_7 : decode method_2_code 7 = .ok (.areturn, 1) := by decide +kernel
theorem d1_8 : decode method_2_code 8 = .ok (.iload_n 0, 1) := by decide +kernel
theorem d1_9 : decode method_2_code 9 = .ok (.iconst 1, 1) := by decide +kernel
theorem d1_10 : decode method_2_code 10 = .ok (.if_icmp .ne 7, 3) := by decide +kernel
theorem d1_13 : decode method_2_code 13 = .ok (.getstatic 13, 3) := by decide +kernel
theorem d1_16 : decode method_2_code 16 = .ok (.areturn, 1) := by decide +kernel
theorem d1_17 : decode method_2_code 17 = .ok (.iload_n 0, 1) := by decide +kernel
theorem d1_18 : decode method_2_code 18 = .ok (.iconst 2, 1) := by decide +kernel
theorem d1_19 : decode method_2_code 19 = .ok (.if_icmp .ne 7, 3) := by decide +kernel
theorem d1_22 : decode method_2_code 22 = .ok (.getstatic 16, 3) := by decide +kernel
theorem d1_25 : decode method_2_code 25 = .ok (.areturn, 1) := by decide +kernel
theorem d1_26 : decode method_2_code 26 = .ok (.iload_n 0, 1) := by decide +kernel
theorem d1_27 : decode method_2_code 27 = .ok (.iconst 3, 1) := by decide +kernel
theorem d1_28 : decode method_2_code 28 = .ok (.if_icmp .ne 7, 3) := by decide +kernel
theorem d1_31 : decode method_2_code 31 = .ok (.getstatic 19, 3) := by decide +kernel
theorem d1_34 : decode method_2_code 34 = .ok (.areturn, 1) := by decide +kernel
theorem d1_35 : decode method_2_code 35 = .ok (.iload_n 0, 1) := by decide +kernel
theorem d1_36 : decode method_2_code 36 = .ok (.iconst 4, 1) := by decide +kernel
theorem d1_37 : decode method_2_code 37 = .ok (.if_icmp .ne 7, 3) := by decide +kernel
theorem d1_40 : decode method_2_code 40 = .ok (.getstatic 22, 3) := by decide +kernel
theorem d1_43 : decode method_2_code 43 = .ok (.areturn, 1) := by decide +kernel
theorem d1_44 : decode method_2_code 44 = .ok (.iload_n 0, 1) := by decide +kernel
theorem d1_45 : decode method_2_code 45 = .ok (.iconst 5, 1) := by decide +kernel
theorem d1_46 : decode method_2_code 46 = .ok (.if_icmp .ne 7, 3) := by decide +kernel
theorem d1_49 : decode method_2_code 49 = .ok (.getstatic 25, 3) := by decide +kernel
theorem d1_52 : decode method_2_code 52 = .ok (.areturn, 1) := by decide +kernel
theorem d1_53 : decode method_2_code 53 = .ok (.iload_n 0, 1) := by decide +kernel
theorem d1_54 : decode method_2_code 54 = .ok (.bipush 6, 2) := by decide +kernel
theorem d1_56 : decode method_2_code 56 = .ok (.if_icmp .ne 7, 3) := by decide +kernel
theorem d1_59 : decode method_2_code 59 = .ok (.getstatic 28, 3) := by decide +kernel
theorem d1_62 : decode method_2_code 62 = .ok (.areturn, 1) := by decide +kernel
theorem d1_63 : decode method_2_code 63 = .ok (.iload_n 0, 1) := by decide +kernel
theorem d1_64 : decode method_2_code 64 = .ok (.bipush 7, 2) := by decide +kernel
theorem d1_66 : decode method_2_code 66 = .ok (.if_icmp .ne 7, 3) := by decide +kernel
theorem d1_69 : decode method_2_code 69 = .ok (.getstatic 31, 3) := by decide +kernel
theorem d1_72 : decode method_2_code 72 = .ok (.areturn, 1) := by decide +kernel
theorem d1_73 : decode method_2_code 73 = .ok (.iload_n 0, 1) := by decide +kernel
theorem d1_74 : decode method_2_code 74 = .ok (.bipush 8, 2) := by decide +kernel
theorem d1_76 : decode method_2_code 76 = .ok (.if_icmp .ne 7, 3) := by decide +kernel
theorem d1_79 : decode method_2_code 79 = .ok (.getstatic 34, 3) := by decide +kernel
theorem d1_82 : decode method_2_code 82 = .ok (.areturn, 1) := by decide +kernel
theorem d1_83 : decode method_2_code 83 = .ok (.iload_n 0, 1) := by decide +kernel
theorem d1_84 : decode method_2_code 84 = .ok (.bipush 9, 2) := by decide +kernel
theorem d1_86 : decode method_2_code 86 = .ok (.if_icmp .ne 7, 3) := by decide +kernel
theorem d1_89 : decode method_2_code 89 = .ok (.getstatic 37, 3) := by decide +kernel
theorem d1_92 : decode method_2_code 92 = .ok (.areturn, 1) := by decide +kernel
theorem d1_93 : decode method_2_code 93 = .ok (.getstatic 40, 3) := by decide +kernel
theorem d1_96 : decode method_2_code 96 = .ok (.areturn, 1) := by decide +kernel
theorem pn_rm1 : plainName "com/example/uscio/uscio/core/PrimitiveKindRemovesPinLaw" = true := by first | (simp [plainName, overriddenIn]; done) | decide +kernel
theorem ef_rm1 (m : MethodId) (x0 : Int32) : entryFrame m #[(.int x0)] 1 = mkF m 0 #[.val (.int x0)] [] := by first | (simp [entryFrame, mkF, argsToLocals, Value.category]; done) | rfl
def own_kind (p1 : Int32) (k0 : Addr) (k1 : Addr) (k2 : Addr) (k3 : Addr) (k4 : Addr) (k5 : Addr) (k6 : Addr) (k7 : Addr) (k8 : Addr) (k9 : Addr) (k10 : Addr) : Addr := (if p1 = (0 : Int32) then k0 else (if p1 = (1 : Int32) then k1 else (if p1 = (2 : Int32) then k2 else (if p1 = (3 : Int32) then k3 else (if p1 = (4 : Int32) then k4 else (if p1 = (5 : Int32) then k5 else (if p1 = (6 : Int32) then k6 else (if p1 = (7 : Int32) then k7 else (if p1 = (8 : Int32) then k8 else (if p1 = (9 : Int32) then k9 else k10))))))))))
def Q1 (Z : State) (p1 : Int32) (k0 : Addr) (k1 : Addr) (k2 : Addr) (k3 : Addr) (k4 : Addr) (k5 : Addr) (k6 : Addr) (k7 : Addr) (k8 : Addr) (k9 : Addr) (k10 : Addr) (h0 : Heap) (n0 : Nat) (v : Option Value) (h : Heap) (L : List Loc) : Prop := v = some (.ref (own_kind p1 k0 k1 k2 k3 k4 k5 k6 k7 k8 k9 k10)) ∧ Fr n0 L ∧ h = h0
set_option maxRecDepth 65536 in
set_option maxHeartbeats 40000000 in
theorem rm1 (l : Launch) (Z : State) (a0 : Array Value) (hw : ∀ d ∈ tables_1, d.before a0 Z = true) (ws : List Jvm.Cond) (p1 : Int32) (k0 : Addr) (k1 : Addr) (k2 : Addr) (k3 : Addr) (k4 : Addr) (k5 : Addr) (k6 : Addr) (k7 : Addr) (k8 : Addr) (k9 : Addr) (k10 : Addr) (h0 : Heap) (n0 : Nat) (Z0 : n0 ≤ h0.size) (S_INSERT_INTO : Sta Z h0 "com/example/uscio/uscio/core/PrimitiveKind" "INSERT_INTO" "Lcom/example/uscio/uscio/core/PrimitiveKind;" (.ref k0)) (S_INSERT_ATTRIBUTES : Sta Z h0 "com/example/uscio/uscio/core/PrimitiveKind" "INSERT_ATTRIBUTES" "Lcom/example/uscio/uscio/core/PrimitiveKind;" (.ref k1)) (S_REPLACE_VALUE : Sta Z h0 "com/example/uscio/uscio/core/PrimitiveKind" "REPLACE_VALUE" "Lcom/example/uscio/uscio/core/PrimitiveKind;" (.ref k2)) (S_RENAME : Sta Z h0 "com/example/uscio/uscio/core/PrimitiveKind" "RENAME" "Lcom/example/uscio/uscio/core/PrimitiveKind;" (.ref k3)) (S_INSERT_BEFORE : Sta Z h0 "com/example/uscio/uscio/core/PrimitiveKind" "INSERT_BEFORE" "Lcom/example/uscio/uscio/core/PrimitiveKind;" (.ref k4)) (S_INSERT_AFTER : Sta Z h0 "com/example/uscio/uscio/core/PrimitiveKind" "INSERT_AFTER" "Lcom/example/uscio/uscio/core/PrimitiveKind;" (.ref k5)) (S_INSERT_INTO_AS_FIRST : Sta Z h0 "com/example/uscio/uscio/core/PrimitiveKind" "INSERT_INTO_AS_FIRST" "Lcom/example/uscio/uscio/core/PrimitiveKind;" (.ref k6)) (S_INSERT_INTO_AS_LAST : Sta Z h0 "com/example/uscio/uscio/core/PrimitiveKind" "INSERT_INTO_AS_LAST" "Lcom/example/uscio/uscio/core/PrimitiveKind;" (.ref k7)) (S_REPLACE_NODE : Sta Z h0 "com/example/uscio/uscio/core/PrimitiveKind" "REPLACE_NODE" "Lcom/example/uscio/uscio/core/PrimitiveKind;" (.ref k8)) (S_REPLACE_ELEMENT_CONTENT : Sta Z h0 "com/example/uscio/uscio/core/PrimitiveKind" "REPLACE_ELEMENT_CONTENT" "Lcom/example/uscio/uscio/core/PrimitiveKind;" (.ref k9)) (S_DELETE : Sta Z h0 "com/example/uscio/uscio/core/PrimitiveKind" "DELETE" "Lcom/example/uscio/uscio/core/PrimitiveKind;" (.ref k10)) :
    MetFree l (⟨"com/example/uscio/uscio/core/PrimitiveKindRemovesPinLaw", "kindAt", "(I)Lcom/example/uscio/uscio/core/PrimitiveKind;"⟩ : MethodName) (head1 (Jvm.Cond.code (⟨"com/example/uscio/uscio/core/PrimitiveKindRemovesPinLaw", "kindAt", "(I)Lcom/example/uscio/uscio/core/PrimitiveKind;"⟩ : MethodName) method_2_code 1 (some (.object "com/example/uscio/uscio/core/PrimitiveKind")) :: ws) ({ frames := 0, cells := 0, slots := 0, locals := 0 } : Room)) (fun a U => a = #[(.int p1)] ∧ Z.Warmed39 U.vm ∧ U.heap = h0) (fun _ _ _ _ _ => True) (fun _ U o U' => ∃ v L, o = .returned v ∧ Q1 Z p1 k0 k1 k2 k3 k4 k5 k6 k7 k8 k9 k10 h0 n0 v U'.heap L ∧ FrameEnd U o U' L ({ frames := 0, cells := 0, slots := 0, locals := 0 } : Room).cells ({ frames := 0, cells := 0, slots := 0, locals := 0 } : Room).slots) := by
  refine MetFree.of_bodySF (plainFor_of_name pn_rm1) hisR ?_
  intro p e s m args below meth c s₁ Bd hml0 hP hK
  obtain ⟨rfl, hZ, hh⟩ := hP
  have hx := Bd.exec
  have hby := Bd.bytes
  have hlk : meth.locks = false := BodyLoose.notSynchronized Bd
  have hml : c.maxLocals = 1 := hml0
  have hown : s.vm.findClass "com/example/uscio/uscio/core/PrimitiveKindRemovesPinLaw" = some m.cls := findClass_of_methodNamed Bd.named
  have hnm := (name_of_methodNamed Bd.named Bd.method).1
  have X0 : Stand p l e ({ frames := 0, cells := 0, slots := 0, locals := 0 } : Room) s m #[(.int p1)] below meth c s₁ [] 0 0 := Stand.of_body Bd
  have e0 : s₁.heap = h0 := by rw [← hh, Bd.state]; rfl
  have N0 := Fr.nil n0
  show OwnW p e below (OwnG s (Q1 Z p1 k0 k1 k2 k3 k4 k5 k6 k7 k8 k9 k10 h0 n0) ({ frames := 0, cells := 0, slots := 0, locals := 0 } : Room).cells ({ frames := 0, cells := 0, slots := 0, locals := 0 } : Room).slots) (s₁.setTop (entryFrame m #[(.int p1)] 1))
  rw [ef_rm1]
  refine own_iloadN X0 hx (hb hby d1_0) rfl 1 rfl ?_
  by_cases hc1 : p1 = (0 : Int32)
  · -- hc1
    refine own_ifN X0 hx (hb hby d1_1) (teq hc1).2 4 (by decide) ?_
    refine own_getS X0 hx hZ hown (hw _ (List.mem_of_getElem? (i := 6) rfl)) Via.refl e0 S_INSERT_INTO (hb hby d1_4) 7 rfl ?_
    intro T1 X1 e1
    refine own_retA X1 hx hlk Bd.returns rfl rfl rfl (hb hby d1_7) (by decide) (by decide) ?_
    show Q1 Z p1 k0 k1 k2 k3 k4 k5 k6 k7 k8 k9 k10 h0 n0 _ T1.heap _
    rw [e1]
    exact ⟨by rw [own_kind, if_pos hc1], N0, rfl⟩
  · -- not hc1
    refine own_ifY X0 hx (hb hby d1_1) (feq hc1).2 8 (by decide) ?_
    refine own_iloadN X0 hx (hb hby d1_8) rfl 9 rfl ?_
    refine own_iconst X0 hx (hb hby d1_9) (1 : Int32) rfl 10 rfl ?_
    by_cases hc10 : p1 = (1 : Int32)
    · -- hc10
      refine own_icmpN X0 hx (hb hby d1_10) (teq hc10).2 13 (by decide) ?_
      refine own_getS X0 hx hZ hown (hw _ (List.mem_of_getElem? (i := 29) rfl)) Via.refl e0 S_INSERT_ATTRIBUTES (hb hby d1_13) 16 rfl ?_
      intro T2 X2 e2
      refine own_retA X2 hx hlk Bd.returns rfl rfl rfl (hb hby d1_16) (by decide) (by decide) ?_
      show Q1 Z p1 k0 k1 k2 k3 k4 k5 k6 k7 k8 k9 k10 h0 n0 _ T2.heap _
      rw [e2]
      exact ⟨by rw [own_kind, if_neg hc1, if_pos hc10], N0, rfl⟩
    · -- not hc10
      refine own_icmpY X0 hx (hb hby d1_10) (feq hc10).2 17 (by decide) ?_
      refine own_iloadN X0 hx (hb hby d1_17) rfl 18 rfl ?_
      refine own_iconst X0 hx (hb hby d1_18) (2 : Int32) rfl 19 rfl ?_
      by_cases hc19 : p1 = (2 : Int32)
      · -- hc19
        refine own_icmpN X0 hx (hb hby d1_19) (teq hc19).2 22 (by decide) ?_
        refine own_getS X0 hx hZ hown (hw _ (List.mem_of_getElem? (i := 27) rfl)) Via.refl e0 S_REPLACE_VALUE (hb hby d1_22) 25 rfl ?_
        intro T3 X3 e3
        refine own_retA X3 hx hlk Bd.returns rfl rfl rfl (hb hby d1_25) (by decide) (by decide) ?_
        show Q1 Z p1 k0 k1 k2 k3 k4 k5 k6 k7 k8 k9 k10 h0 n0 _ T3.heap _
        rw [e3]
        exact ⟨by rw [own_kind, if_neg hc1, if_neg hc10, if_pos hc19], N0, rfl⟩
      · -- not hc19
        refine own_icmpY X0 hx (hb hby d1_19) (feq hc19).2 26 (by decide) ?_
        refine own_iloadN X0 hx (hb hby d1_26) rfl 27 rfl ?_
        refine own_iconst X0 hx (hb hby d1_27) (3 : Int32) rfl 28 rfl ?_
        by_cases hc28 : p1 = (3 : Int32)
        · -- hc28
          refine own_icmpN X0 hx (hb hby d1_28) (teq hc28).2 31 (by decide) ?_
          refine own_getS X0 hx hZ hown (hw _ (List.mem_of_getElem? (i := 22) rfl)) Via.refl e0 S_RENAME (hb hby d1_31) 34 rfl ?_
          intro T4 X4 e4
          refine own_retA X4 hx hlk Bd.returns rfl rfl rfl (hb hby d1_34) (by decide) (by decide) ?_
          show Q1 Z p1 k0 k1 k2 k3 k4 k5 k6 k7 k8 k9 k10 h0 n0 _ T4.heap _
          rw [e4]
          exact ⟨by rw [own_kind, if_neg hc1, if_neg hc10, if_neg hc19, if_pos hc28], N0, rfl⟩
        · -- not hc28
          refine own_icmpY X0 hx (hb hby d1_28) (feq hc28).2 35 (by decide) ?_
          refine own_iloadN X0 hx (hb hby d1_35) rfl 36 rfl ?_
          refine own_iconst X0 hx (hb hby d1_36) (4 : Int32) rfl 37 rfl ?_
          by_cases hc37 : p1 = (4 : Int32)
          · -- hc37
            refine own_icmpN X0 hx (hb hby d1_37) (teq hc37).2 40 (by decide) ?_
            refine own_getS X0 hx hZ hown (hw _ (List.mem_of_getElem? (i := 36) rfl)) Via.refl e0 S_INSERT_BEFORE (hb hby d1_40) 43 rfl ?_
            intro T5 X5 e5
            refine own_retA X5 hx hlk Bd.returns rfl rfl rfl (hb hby d1_43) (by decide) (by decide) ?_
            show Q1 Z p1 k0 k1 k2 k3 k4 k5 k6 k7 k8 k9 k10 h0 n0 _ T5.heap _
            rw [e5]
            exact ⟨by rw [own_kind, if_neg hc1, if_neg hc10, if_neg hc19, if_neg hc28, if_pos hc37], N0, rfl⟩
          · -- not hc37
            refine own_icmpY X0 hx (hb hby d1_37) (feq hc37).2 44 (by decide) ?_
            refine own_iloadN X0 hx (hb hby d1_44) rfl 45 rfl ?_
            refine own_iconst X0 hx (hb hby d1_45) (5 : Int32) rfl 46 rfl ?_
            by_cases hc46 : p1 = (5 : Int32)
            · -- hc46
              refine own_icmpN X0 hx (hb hby d1_46) (teq hc46).2 49 (by decide) ?_
              refine own_getS X0 hx hZ hown (hw _ (List.mem_of_getElem? (i := 32) rfl)) Via.refl e0 S_INSERT_AFTER (hb hby d1_49) 52 rfl ?_
              intro T6 X6 e6
              refine own_retA X6 hx hlk Bd.returns rfl rfl rfl (hb hby d1_52) (by decide) (by decide) ?_
              show Q1 Z p1 k0 k1 k2 k3 k4 k5 k6 k7 k8 k9 k10 h0 n0 _ T6.heap _
              rw [e6]
              exact ⟨by rw [own_kind, if_neg hc1, if_neg hc10, if_neg hc19, if_neg hc28, if_neg hc37, if_pos hc46], N0, rfl⟩
            · -- not hc46
              refine own_icmpY X0 hx (hb hby d1_46) (feq hc46).2 53 (by decide) ?_
              refine own_iloadN X0 hx (hb hby d1_53) rfl 54 rfl ?_
              refine own_bipush X0 hx (hb hby d1_54) (6 : Int32) rfl 56 rfl ?_
              by_cases hc56 : p1 = (6 : Int32)
              · -- hc56
                refine own_icmpN X0 hx (hb hby d1_56) (teq hc56).2 59 (by decide) ?_
                refine own_getS X0 hx hZ hown (hw _ (List.mem_of_getElem? (i := 34) rfl)) Via.refl e0 S_INSERT_INTO_AS_FIRST (hb hby d1_59) 62 rfl ?_
                intro T7 X7 e7
                refine own_retA X7 hx hlk Bd.returns rfl rfl rfl (hb hby d1_62) (by decide) (by decide) ?_
                show Q1 Z p1 k0 k1 k2 k3 k4 k5 k6 k7 k8 k9 k10 h0 n0 _ T7.heap _
                rw [e7]
                exact ⟨by rw [own_kind, if_neg hc1, if_neg hc10, if_neg hc19, if_neg hc28, if_neg hc37, if_neg hc46, if_pos hc56], N0, rfl⟩
              · -- not hc56
                refine own_icmpY X0 hx (hb hby d1_56) (feq hc56).2 63 (by decide) ?_
                refine own_iloadN X0 hx (hb hby d1_63) rfl 64 rfl ?_
                refine own_bipush X0 hx (hb hby d1_64) (7 : Int32) rfl 66 rfl ?_
                by_cases hc66 : p1 = (7 : Int32)
                · -- hc66
                  refine own_icmpN X0 hx (hb hby d1_66) (teq hc66).2 69 (by decide) ?_
                  refine own_getS X0 hx hZ hown (hw _ (List.mem_of_getElem? (i := 24) rfl)) Via.refl e0 S_INSERT_INTO_AS_LAST (hb hby d1_69) 72 rfl ?_
                  intro T8 X8 e8
                  refine own_retA X8 hx hlk Bd.returns rfl rfl rfl (hb hby d1_72) (by decide) (by decide) ?_
                  show Q1 Z p1 k0 k1 k2 k3 k4 k5 k6 k7 k8 k9 k10 h0 n0 _ T8.heap _
                  rw [e8]
                  exact ⟨by rw [own_kind, if_neg hc1, if_neg hc10, if_neg hc19, if_neg hc28, if_neg hc37, if_neg hc46, if_neg hc56, if_pos hc66], N0, rfl⟩
                · -- not hc66
                  refine own_icmpY X0 hx (hb hby d1_66) (feq hc66).2 73 (by decide) ?_
                  refine own_iloadN X0 hx (hb hby d1_73) rfl 74 rfl ?_
                  refine own_bipush X0 hx (hb hby d1_74) (8 : Int32) rfl 76 rfl ?_
                  by_cases hc76 : p1 = (8 : Int32)
                  · -- hc76
                    refine own_icmpN X0 hx (hb hby d1_76) (teq hc76).2 79 (by decide) ?_
                    refine own_getS X0 hx hZ hown (hw _ (List.mem_of_getElem? (i := 26) rfl)) Via.refl e0 S_REPLACE_NODE (hb hby d1_79) 82 rfl ?_
                    intro T9 X9 e9
                    refine own_retA X9 hx hlk Bd.returns rfl rfl rfl (hb hby d1_82) (by decide) (by decide) ?_
                    show Q1 Z p1 k0 k1 k2 k3 k4 k5 k6 k7 k8 k9 k10 h0 n0 _ T9.heap _
                    rw [e9]
                    exact ⟨by rw [own_kind, if_neg hc1, if_neg hc10, if_neg hc19, if_neg hc28, if_neg hc37, if_neg hc46, if_neg hc56, if_neg hc66, if_pos hc76], N0, rfl⟩
                  · -- not hc76
                    refine own_icmpY X0 hx (hb hby d1_76) (feq hc76).2 83 (by decide) ?_
                    refine own_iloadN X0 hx (hb hby d1_83) rfl 84 rfl ?_
                    refine own_bipush X0 hx (hb hby d1_84) (9 : Int32) rfl 86 rfl ?_
                    by_cases hc86 : p1 = (9 : Int32)
                    · -- hc86
                      refine own_icmpN X0 hx (hb hby d1_86) (teq hc86).2 89 (by decide) ?_
                      refine own_getS X0 hx hZ hown (hw _ (List.mem_of_getElem? (i := 31) rfl)) Via.refl e0 S_REPLACE_ELEMENT_CONTENT (hb hby d1_89) 92 rfl ?_
                      intro T10 X10 e10
                      refine own_retA X10 hx hlk Bd.returns rfl rfl rfl (hb hby d1_92) (by decide) (by decide) ?_
                      show Q1 Z p1 k0 k1 k2 k3 k4 k5 k6 k7 k8 k9 k10 h0 n0 _ T10.heap _
                      rw [e10]
                      exact ⟨by rw [own_kind, if_neg hc1, if_neg hc10, if_neg hc19, if_neg hc28, if_neg hc37, if_neg hc46, if_neg hc56, if_neg hc66, if_neg hc76, if_pos hc86], N0, rfl⟩
                    · -- not hc86
                      refine own_icmpY X0 hx (hb hby d1_86) (feq hc86).2 93 (by decide) ?_
                      refine own_getS X0 hx hZ hown (hw _ (List.mem_of_getElem? (i := 28) rfl)) Via.refl e0 S_DELETE (hb hby d1_93) 96 rfl ?_
                      intro T11 X11 e11
                      refine own_retA X11 hx hlk Bd.returns rfl rfl rfl (hb hby d1_96) (by decide) (by decide) ?_
                      show Q1 Z p1 k0 k1 k2 k3 k4 k5 k6 k7 k8 k9 k10 h0 n0 _ T11.heap _
                      rw [e11]
                      exact ⟨by rw [own_kind, if_neg hc1, if_neg hc10, if_neg hc19, if_neg hc28, if_neg hc37, if_neg hc46, if_neg hc56, if_neg hc66, if_neg hc76, if_neg hc86], N0, rfl⟩
theorem d2_0 : decode prog_112_method_8_code 0 = .ok (.aload_n 0, 1) := by decide +kernel
theorem d2_1 : decode prog_112_method_8_code 1 = .ok (.getstatic 34, 3) := by decide +kernel
theorem d2_4 : decode prog_112_method_8_code 4 = .ok (.if_acmp .eq 24, 3) := by decide +kernel
theorem d2_7 : decode prog_112_method_8_code 7 = .ok (.aload_n 0, 1) := by decide +kernel
theorem d2_8 : decode prog_112_method_8_code 8 = .ok (.getstatic 28, 3) := by decide +kernel
theorem d2_11 : decode prog_112_method_8_code 11 = .ok (.if_acmp .eq 17, 3) := by decide +kernel
theorem d2_14 : decode prog_112_method_8_code 14 = .ok (.aload_n 0, 1) := by decide +kernel
theorem d2_15 : decode prog_112_method_8_code 15 = .ok (.getstatic 31, 3) := by decide +kernel
theorem d2_18 : decode prog_112_method_8_code 18 = .ok (.if_acmp .eq 10, 3) := by decide +kernel
theorem d2_21 : decode prog_112_method_8_code 21 = .ok (.aload_n 0, 1) := by decide +kernel
theorem d2_22 : decode prog_112_method_8_code 22 = .ok (.getstatic 10, 3) := by decide +kernel
theorem d2_25 : decode prog_112_method_8_code 25 = .ok (.if_acmp .ne 7, 3) := by decide +kernel
theorem d2_28 : decode prog_112_method_8_code 28 = .ok (.iconst 1, 1) := by decide +kernel
theorem d2_29 : decode prog_112_method_8_code 29 = .ok (.goto 4, 3) := by decide +kernel
theorem d2_32 : decode prog_112_method_8_code 32 = .ok (.iconst 0, 1) := by decide +kernel
theorem d2_33 : decode prog_112_method_8_code 33 = .ok (.ireturn, 1) := by decide +kernel
theorem pn_rm2 : plainName "com/example/uscio/uscio/core/PrimitiveKind" = true := by first | (simp [plainName, overriddenIn]; done) | decide +kernel
theorem ef_rm2 (m : MethodId) (x0 : Addr) : entryFrame m #[(.ref x0)] 1 = mkF m 0 #[.val (.ref x0)] [] := by first | (simp [entryFrame, mkF, argsToLocals, Value.category]; done) | rfl
def own_rem (a1 : Addr) (kD : Addr) (kN : Addr) (kE : Addr) (kV : Addr) : Int32 := (if a1 = kD then (1 : Int32) else (if a1 = kN then (1 : Int32) else (if a1 = kE then (1 : Int32) else (if a1 = kV then (1 : Int32) else (0 : Int32)))))
def Q2 (Z : State) (a1 : Addr) (kD : Addr) (kN : Addr) (kE : Addr) (kV : Addr) (h0 : Heap) (n0 : Nat) (v : Option Value) (h : Heap) (L : List Loc) : Prop := v = some (.int (own_rem a1 kD kN kE kV)) ∧ Fr n0 L ∧ h = h0
set_option maxRecDepth 65536 in
set_option maxHeartbeats 40000000 in
theorem rm2 (l : Launch) (Z : State) (a0 : Array Value) (hw : ∀ d ∈ tables_1, d.before a0 Z = true) (ws : List Jvm.Cond) (a1 : Addr) (kD : Addr) (kN : Addr) (kE : Addr) (kV : Addr) (h0 : Heap) (n0 : Nat) (Z0 : n0 ≤ h0.size) (S_DELETE : Sta Z h0 "com/example/uscio/uscio/core/PrimitiveKind" "DELETE" "Lcom/example/uscio/uscio/core/PrimitiveKind;" (.ref kD)) (S_REPLACE_NODE : Sta Z h0 "com/example/uscio/uscio/core/PrimitiveKind" "REPLACE_NODE" "Lcom/example/uscio/uscio/core/PrimitiveKind;" (.ref kN)) (S_REPLACE_ELEMENT_CONTENT : Sta Z h0 "com/example/uscio/uscio/core/PrimitiveKind" "REPLACE_ELEMENT_CONTENT" "Lcom/example/uscio/uscio/core/PrimitiveKind;" (.ref kE)) (S_REPLACE_VALUE : Sta Z h0 "com/example/uscio/uscio/core/PrimitiveKind" "REPLACE_VALUE" "Lcom/example/uscio/uscio/core/PrimitiveKind;" (.ref kV)) :
    MetFree l (⟨"com/example/uscio/uscio/core/PrimitiveKind", "removes", "()Z"⟩ : MethodName) (head1 (Jvm.Cond.code (⟨"com/example/uscio/uscio/core/PrimitiveKind", "removes", "()Z"⟩ : MethodName) prog_112_method_8_code 1 (some .boolean) :: ws) ({ frames := 0, cells := 0, slots := 0, locals := 0 } : Room)) (fun a U => a = #[(.ref a1)] ∧ Z.Warmed39 U.vm ∧ U.heap = h0) (fun _ _ _ _ _ => True) (fun _ U o U' => ∃ v L, o = .returned v ∧ Q2 Z a1 kD kN kE kV h0 n0 v U'.heap L ∧ FrameEnd U o U' L ({ frames := 0, cells := 0, slots := 0, locals := 0 } : Room).cells ({ frames := 0, cells := 0, slots := 0, locals := 0 } : Room).slots) := by
  refine MetFree.of_bodySF (plainFor_of_name pn_rm2) hisR ?_
  intro p e s m args below meth c s₁ Bd hml0 hP hK
  obtain ⟨rfl, hZ, hh⟩ := hP
  have hx := Bd.exec
  have hby := Bd.bytes
  have hlk : meth.locks = false := BodyLoose.notSynchronized Bd
  have hml : c.maxLocals = 1 := hml0
  have hown : s.vm.findClass "com/example/uscio/uscio/core/PrimitiveKind" = some m.cls := findClass_of_methodNamed Bd.named
  have hnm := (name_of_methodNamed Bd.named Bd.method).1
  have X0 : Stand p l e ({ frames := 0, cells := 0, slots := 0, locals := 0 } : Room) s m #[(.ref a1)] below meth c s₁ [] 0 0 := Stand.of_body Bd
  have e0 : s₁.heap = h0 := by rw [← hh, Bd.state]; rfl
  have N0 := Fr.nil n0
  show OwnW p e below (OwnG s (Q2 Z a1 kD kN kE kV h0 n0) ({ frames := 0, cells := 0, slots := 0, locals := 0 } : Room).cells ({ frames := 0, cells := 0, slots := 0, locals := 0 } : Room).slots) (s₁.setTop (entryFrame m #[(.ref a1)] 1))
  rw [ef_rm2]
  refine own_aloadN X0 hx (hb hby d2_0) rfl rfl 1 rfl ?_
  refine own_getS X0 hx hZ hown (hw _ (List.mem_of_getElem? (i := 14) rfl)) Via.refl e0 S_DELETE (hb hby d2_1) 4 rfl ?_
  intro T1 X1 e1
  by_cases hc4 : a1 = kD
  · -- hc4
    refine own_acmp X1 hx rfl rfl (hb hby d2_4) true (decide_eq_true (congrArg Value.ref hc4)) (by decide) 28 (by decide) ?_
    refine own_iconst X1 hx (hb hby d2_28) (1 : Int32) rfl 29 rfl ?_
    refine own_goto X1 hx (hb hby d2_29) 33 (by decide) ?_
    refine own_retZ X1 hx hlk Bd.returns (by decide) (hb hby d2_33) (by decide) (by decide) ?_
    show Q2 Z a1 kD kN kE kV h0 n0 _ T1.heap _
    rw [e1]
    exact ⟨by rw [own_rem, if_pos hc4], N0, rfl⟩
  · -- not hc4
    refine own_acmp X1 hx rfl rfl (hb hby d2_4) false (decide_eq_false fun q => hc4 (Value.ref.inj q)) (by decide) 7 (by decide) ?_
    refine own_aloadN X1 hx (hb hby d2_7) rfl rfl 8 rfl ?_
    refine own_getS X1 hx hZ hown (hw _ (List.mem_of_getElem? (i := 16) rfl)) Via.refl e1 S_REPLACE_NODE (hb hby d2_8) 11 rfl ?_
    intro T2 X2 e2
    by_cases hc11 : a1 = kN
    · -- hc11
      refine own_acmp X2 hx rfl rfl (hb hby d2_11) true (decide_eq_true (congrArg Value.ref hc11)) (by decide) 28 (by decide) ?_
      refine own_iconst X2 hx (hb hby d2_28) (1 : Int32) rfl 29 rfl ?_
      refine own_goto X2 hx (hb hby d2_29) 33 (by decide) ?_
      refine own_retZ X2 hx hlk Bd.returns (by decide) (hb hby d2_33) (by decide) (by decide) ?_
      show Q2 Z a1 kD kN kE kV h0 n0 _ T2.heap _
      rw [e2]
      exact ⟨by rw [own_rem, if_neg hc4, if_pos hc11], N0, rfl⟩
    · -- not hc11
      refine own_acmp X2 hx rfl rfl (hb hby d2_11) false (decide_eq_false fun q => hc11 (Value.ref.inj q)) (by decide) 14 (by decide) ?_
      refine own_aloadN X2 hx (hb hby d2_14) rfl rfl 15 rfl ?_
      refine own_getS X2 hx hZ hown (hw _ (List.mem_of_getElem? (i := 18) rfl)) Via.refl e2 S_REPLACE_ELEMENT_CONTENT (hb hby d2_15) 18 rfl ?_
      intro T3 X3 e3
      by_cases hc18 : a1 = kE
      · -- hc18
        refine own_acmp X3 hx rfl rfl (hb hby d2_18) true (decide_eq_true (congrArg Value.ref hc18)) (by decide) 28 (by decide) ?_
        refine own_iconst X3 hx (hb hby d2_28) (1 : Int32) rfl 29 rfl ?_
        refine own_goto X3 hx (hb hby d2_29) 33 (by decide) ?_
        refine own_retZ X3 hx hlk Bd.returns (by decide) (hb hby d2_33) (by decide) (by decide) ?_
        show Q2 Z a1 kD kN kE kV h0 n0 _ T3.heap _
        rw [e3]
        exact ⟨by rw [own_rem, if_neg hc4, if_neg hc11, if_pos hc18], N0, rfl⟩
      · -- not hc18
        refine own_acmp X3 hx rfl rfl (hb hby d2_18) false (decide_eq_false fun q => hc18 (Value.ref.inj q)) (by decide) 21 (by decide) ?_
        refine own_aloadN X3 hx (hb hby d2_21) rfl rfl 22 rfl ?_
        refine own_getS X3 hx hZ hown (hw _ (List.mem_of_getElem? (i := 20) rfl)) Via.refl e3 S_REPLACE_VALUE (hb hby d2_22) 25 rfl ?_
        intro T4 X4 e4
        by_cases hc25 : a1 = kV
        · -- hc25
          refine own_acmp X4 hx rfl rfl (hb hby d2_25) true (decide_eq_true (congrArg Value.ref hc25)) (by decide) 28 (by decide) ?_
          refine own_iconst X4 hx (hb hby d2_28) (1 : Int32) rfl 29 rfl ?_
          refine own_goto X4 hx (hb hby d2_29) 33 (by decide) ?_
          refine own_retZ X4 hx hlk Bd.returns (by decide) (hb hby d2_33) (by decide) (by decide) ?_
          show Q2 Z a1 kD kN kE kV h0 n0 _ T4.heap _
          rw [e4]
          exact ⟨by rw [own_rem, if_neg hc4, if_neg hc11, if_neg hc18, if_pos hc25], N0, rfl⟩
        · -- not hc25
          refine own_acmp X4 hx rfl rfl (hb hby d2_25) false (decide_eq_false fun q => hc25 (Value.ref.inj q)) (by decide) 32 (by decide) ?_
          refine own_iconst X4 hx (hb hby d2_32) (0 : Int32) rfl 33 rfl ?_
          refine own_retZ X4 hx hlk Bd.returns (by decide) (hb hby d2_33) (by decide) (by decide) ?_
          show Q2 Z a1 kD kN kE kV h0 n0 _ T4.heap _
          rw [e4]
          exact ⟨by rw [own_rem, if_neg hc4, if_neg hc11, if_neg hc18, if_neg hc25], N0, rfl⟩
theorem own_mod (x : Int32) : (x &&& (2147483647 : Int32)) % (11 : Int32) = (0 : Int32) ∨ (x &&& (2147483647 : Int32)) % (11 : Int32) = (1 : Int32) ∨ (x &&& (2147483647 : Int32)) % (11 : Int32) = (2 : Int32) ∨ (x &&& (2147483647 : Int32)) % (11 : Int32) = (3 : Int32) ∨ (x &&& (2147483647 : Int32)) % (11 : Int32) = (4 : Int32) ∨ (x &&& (2147483647 : Int32)) % (11 : Int32) = (5 : Int32) ∨ (x &&& (2147483647 : Int32)) % (11 : Int32) = (6 : Int32) ∨ (x &&& (2147483647 : Int32)) % (11 : Int32) = (7 : Int32) ∨ (x &&& (2147483647 : Int32)) % (11 : Int32) = (8 : Int32) ∨ (x &&& (2147483647 : Int32)) % (11 : Int32) = (9 : Int32) ∨ (x &&& (2147483647 : Int32)) % (11 : Int32) = (10 : Int32) := by
  have h1 := c_mask x 2147483647 31 (by decide) (by decide)
  have h2 := (c_irem (x &&& 2147483647) 11 11 rfl).1 (by rw [h1]; omega)
  have h3 : ((x &&& 2147483647) % (11 : Int32)).toInt = x.toInt % (2 ^ 31 : Nat) % 11 := by rw [h2, h1]
  generalize (x &&& 2147483647) % (11 : Int32) = r at h3 ⊢
  have h4 : r.toInt = 0 ∨ r.toInt = 1 ∨ r.toInt = 2 ∨ r.toInt = 3 ∨ r.toInt = 4 ∨ r.toInt = 5 ∨ r.toInt = 6 ∨ r.toInt = 7 ∨ r.toInt = 8 ∨ r.toInt = 9 ∨ r.toInt = 10 := by omega
  rcases h4 with h | h | h | h | h | h | h | h | h | h | h
  · exact (Or.inl (Int32.toInt_inj.mp h))
  · exact (Or.inr (Or.inl (Int32.toInt_inj.mp h)))
  · exact (Or.inr (Or.inr (Or.inl (Int32.toInt_inj.mp h))))
  · exact (Or.inr (Or.inr (Or.inr (Or.inl (Int32.toInt_inj.mp h)))))
  · exact (Or.inr (Or.inr (Or.inr (Or.inr (Or.inl (Int32.toInt_inj.mp h))))))
  · exact (Or.inr (Or.inr (Or.inr (Or.inr (Or.inr (Or.inl (Int32.toInt_inj.mp h)))))))
  · exact (Or.inr (Or.inr (Or.inr (Or.inr (Or.inr (Or.inr (Or.inl (Int32.toInt_inj.mp h))))))))
  · exact (Or.inr (Or.inr (Or.inr (Or.inr (Or.inr (Or.inr (Or.inr (Or.inl (Int32.toInt_inj.mp h)))))))))
  · exact (Or.inr (Or.inr (Or.inr (Or.inr (Or.inr (Or.inr (Or.inr (Or.inr (Or.inl (Int32.toInt_inj.mp h))))))))))
  · exact (Or.inr (Or.inr (Or.inr (Or.inr (Or.inr (Or.inr (Or.inr (Or.inr (Or.inr (Or.inl (Int32.toInt_inj.mp h)))))))))))
  · exact (Or.inr (Or.inr (Or.inr (Or.inr (Or.inr (Or.inr (Or.inr (Or.inr (Or.inr (Or.inr (Int32.toInt_inj.mp h)))))))))))
theorem pn_rm0 : plainName "com/example/uscio/uscio/core/PrimitiveKindRemovesPinLaw" = true := by first | (simp [plainName, overriddenIn]; done) | decide +kernel
theorem ef_rm0 (m : MethodId) (x0 : Int32) : entryFrame m #[(.int x0)] maxLocals = mkF m 0 #[.val (.int x0), .unset, .unset, .unset] [] := by first | (simp [entryFrame, mkF, argsToLocals, Value.category, maxLocals]; done) | rfl
def Q0 (Z : State) (i0 : Int32) (k0 : Addr) (k1 : Addr) (k2 : Addr) (k3 : Addr) (k4 : Addr) (k5 : Addr) (k6 : Addr) (k7 : Addr) (k8 : Addr) (k9 : Addr) (k10 : Addr) (h0 : Heap) (n0 : Nat) (v : Option Value) (h : Heap) (L : List Loc) : Prop := v = some (.int (1 : Int32)) ∧ Fr n0 L
set_option maxRecDepth 65536 in
set_option maxHeartbeats 40000000 in
theorem rm0 (l : Launch) (Z : State) (a0 : Array Value) (hw : ∀ d ∈ tables_1, d.before a0 Z = true) (ws : List Jvm.Cond) (i0 : Int32) (k0 : Addr) (k1 : Addr) (k2 : Addr) (k3 : Addr) (k4 : Addr) (k5 : Addr) (k6 : Addr) (k7 : Addr) (k8 : Addr) (k9 : Addr) (k10 : Addr) (h0 : Heap) (n0 : Nat) (Z0 : n0 ≤ h0.size) (S_INSERT_INTO : Sta Z h0 "com/example/uscio/uscio/core/PrimitiveKind" "INSERT_INTO" "Lcom/example/uscio/uscio/core/PrimitiveKind;" (.ref k0)) (S_INSERT_ATTRIBUTES : Sta Z h0 "com/example/uscio/uscio/core/PrimitiveKind" "INSERT_ATTRIBUTES" "Lcom/example/uscio/uscio/core/PrimitiveKind;" (.ref k1)) (S_REPLACE_VALUE : Sta Z h0 "com/example/uscio/uscio/core/PrimitiveKind" "REPLACE_VALUE" "Lcom/example/uscio/uscio/core/PrimitiveKind;" (.ref k2)) (S_RENAME : Sta Z h0 "com/example/uscio/uscio/core/PrimitiveKind" "RENAME" "Lcom/example/uscio/uscio/core/PrimitiveKind;" (.ref k3)) (S_INSERT_BEFORE : Sta Z h0 "com/example/uscio/uscio/core/PrimitiveKind" "INSERT_BEFORE" "Lcom/example/uscio/uscio/core/PrimitiveKind;" (.ref k4)) (S_INSERT_AFTER : Sta Z h0 "com/example/uscio/uscio/core/PrimitiveKind" "INSERT_AFTER" "Lcom/example/uscio/uscio/core/PrimitiveKind;" (.ref k5)) (S_INSERT_INTO_AS_FIRST : Sta Z h0 "com/example/uscio/uscio/core/PrimitiveKind" "INSERT_INTO_AS_FIRST" "Lcom/example/uscio/uscio/core/PrimitiveKind;" (.ref k6)) (S_INSERT_INTO_AS_LAST : Sta Z h0 "com/example/uscio/uscio/core/PrimitiveKind" "INSERT_INTO_AS_LAST" "Lcom/example/uscio/uscio/core/PrimitiveKind;" (.ref k7)) (S_REPLACE_NODE : Sta Z h0 "com/example/uscio/uscio/core/PrimitiveKind" "REPLACE_NODE" "Lcom/example/uscio/uscio/core/PrimitiveKind;" (.ref k8)) (S_REPLACE_ELEMENT_CONTENT : Sta Z h0 "com/example/uscio/uscio/core/PrimitiveKind" "REPLACE_ELEMENT_CONTENT" "Lcom/example/uscio/uscio/core/PrimitiveKind;" (.ref k9)) (S_DELETE : Sta Z h0 "com/example/uscio/uscio/core/PrimitiveKind" "DELETE" "Lcom/example/uscio/uscio/core/PrimitiveKind;" (.ref k10)) (E_k0 : Exa Z h0 k0 "com/example/uscio/uscio/core/PrimitiveKind") (E_k1 : Exa Z h0 k1 "com/example/uscio/uscio/core/PrimitiveKind") (E_k2 : Exa Z h0 k2 "com/example/uscio/uscio/core/PrimitiveKind") (E_k3 : Exa Z h0 k3 "com/example/uscio/uscio/core/PrimitiveKind") (E_k4 : Exa Z h0 k4 "com/example/uscio/uscio/core/PrimitiveKind") (E_k5 : Exa Z h0 k5 "com/example/uscio/uscio/core/PrimitiveKind") (E_k6 : Exa Z h0 k6 "com/example/uscio/uscio/core/PrimitiveKind") (E_k7 : Exa Z h0 k7 "com/example/uscio/uscio/core/PrimitiveKind") (E_k8 : Exa Z h0 k8 "com/example/uscio/uscio/core/PrimitiveKind") (E_k9 : Exa Z h0 k9 "com/example/uscio/uscio/core/PrimitiveKind") (E_k10 : Exa Z h0 k10 "com/example/uscio/uscio/core/PrimitiveKind") (F_ordinal_k0 : Fld Z h0 k0 "java/lang/Enum" "ordinal" "I" (.int (0 : Int32))) (F_ordinal_k1 : Fld Z h0 k1 "java/lang/Enum" "ordinal" "I" (.int (1 : Int32))) (F_ordinal_k2 : Fld Z h0 k2 "java/lang/Enum" "ordinal" "I" (.int (2 : Int32))) (F_ordinal_k3 : Fld Z h0 k3 "java/lang/Enum" "ordinal" "I" (.int (3 : Int32))) (F_ordinal_k4 : Fld Z h0 k4 "java/lang/Enum" "ordinal" "I" (.int (4 : Int32))) (F_ordinal_k5 : Fld Z h0 k5 "java/lang/Enum" "ordinal" "I" (.int (5 : Int32))) (F_ordinal_k6 : Fld Z h0 k6 "java/lang/Enum" "ordinal" "I" (.int (6 : Int32))) (F_ordinal_k7 : Fld Z h0 k7 "java/lang/Enum" "ordinal" "I" (.int (7 : Int32))) (F_ordinal_k8 : Fld Z h0 k8 "java/lang/Enum" "ordinal" "I" (.int (8 : Int32))) (F_ordinal_k9 : Fld Z h0 k9 "java/lang/Enum" "ordinal" "I" (.int (9 : Int32))) (F_ordinal_k10 : Fld Z h0 k10 "java/lang/Enum" "ordinal" "I" (.int (10 : Int32))) :
    MetFree l x (head1 (Jvm.Cond.code x code maxLocals ret :: ws) room_1) (fun a U => a = #[(.int i0)] ∧ Z.Warmed39 U.vm ∧ U.heap = h0) (fun _ _ _ _ _ => True) (fun _ U o U' => ∃ v L, o = .returned v ∧ Q0 Z i0 k0 k1 k2 k3 k4 k5 k6 k7 k8 k9 k10 h0 n0 v U'.heap L ∧ FrameEnd U o U' L room_1.cells room_1.slots) := by
  refine MetFree.of_bodySF (plainFor_of_name pn_rm0) hisR ?_
  intro p e s m args below meth c s₁ Bd hml0 hP hK
  obtain ⟨rfl, hZ, hh⟩ := hP
  have hx := Bd.exec
  have hby := Bd.bytes
  have hlk : meth.locks = false := BodyLoose.notSynchronized Bd
  have hml : c.maxLocals = 4 := hml0
  have hown : s.vm.findClass "com/example/uscio/uscio/core/PrimitiveKindRemovesPinLaw" = some m.cls := findClass_of_methodNamed Bd.named
  have hnm := (name_of_methodNamed Bd.named Bd.method).1
  have X0 : Stand p l e room_1 s m #[(.int i0)] below meth c s₁ [] 0 0 := Stand.of_body Bd
  have e0 : s₁.heap = h0 := by rw [← hh, Bd.state]; rfl
  have N0 := Fr.nil n0
  show OwnW p e below (OwnG s (Q0 Z i0 k0 k1 k2 k3 k4 k5 k6 k7 k8 k9 k10 h0 n0) room_1.cells room_1.slots) (s₁.setTop (entryFrame m #[(.int i0)] maxLocals))
  rw [ef_rm0]
  refine own_iloadN X0 hx (hb hby at_0) rfl 1 rfl ?_
  refine own_ldcI X0 hx hZ hown (hw _ (List.mem_of_getElem? (i := 0) rfl)) (hb hby at_1) 3 rfl ?_
  refine own_iand X0 hx (hb hby at_3) 4 rfl ?_
  refine own_bipush X0 hx (hb hby at_4) (11 : Int32) rfl 6 rfl ?_
  refine own_irem X0 hx (hb hby at_6) (by decide) 7 rfl ?_
  refine own_istoreN X0 hx (hb hby at_7) #[.val (.int i0), .val (.int ((i0 &&& (2147483647 : Int32)) % (11 : Int32))), .unset, .unset] rfl 8 rfl ?_
  refine own_bipush X0 hx (hb hby at_8) (11 : Int32) rfl 10 rfl ?_
  refine own_newP X0 hx hZ (hw _ (List.mem_of_getElem? (i := 1) rfl)) e0 (hb hby at_10) (by decide) 11 (by decide) (by decide) (by decide) (by decide) 12 rfl ?_
  intro T1 h1 b1 kc1 qe1 X1 e1 E1 A1
  have ne_k0_b1 : k0 ≠ b1 := Nat.ne_of_lt (Nat.lt_of_lt_of_le E_k0.lt (Nat.le_of_eq qe1.symm))
  have ne_k1_b1 : k1 ≠ b1 := Nat.ne_of_lt (Nat.lt_of_lt_of_le E_k1.lt (Nat.le_of_eq qe1.symm))
  have ne_k2_b1 : k2 ≠ b1 := Nat.ne_of_lt (Nat.lt_of_lt_of_le E_k2.lt (Nat.le_of_eq qe1.symm))
  have ne_k3_b1 : k3 ≠ b1 := Nat.ne_of_lt (Nat.lt_of_lt_of_le E_k3.lt (Nat.le_of_eq qe1.symm))
  have ne_k4_b1 : k4 ≠ b1 := Nat.ne_of_lt (Nat.lt_of_lt_of_le E_k4.lt (Nat.le_of_eq qe1.symm))
  have ne_k5_b1 : k5 ≠ b1 := Nat.ne_of_lt (Nat.lt_of_lt_of_le E_k5.lt (Nat.le_of_eq qe1.symm))
  have ne_k6_b1 : k6 ≠ b1 := Nat.ne_of_lt (Nat.lt_of_lt_of_le E_k6.lt (Nat.le_of_eq qe1.symm))
  have ne_k7_b1 : k7 ≠ b1 := Nat.ne_of_lt (Nat.lt_of_lt_of_le E_k7.lt (Nat.le_of_eq qe1.symm))
  have ne_k8_b1 : k8 ≠ b1 := Nat.ne_of_lt (Nat.lt_of_lt_of_le E_k8.lt (Nat.le_of_eq qe1.symm))
  have ne_k9_b1 : k9 ≠ b1 := Nat.ne_of_lt (Nat.lt_of_lt_of_le E_k9.lt (Nat.le_of_eq qe1.symm))
  have ne_k10_b1 : k10 ≠ b1 := Nat.ne_of_lt (Nat.lt_of_lt_of_le E_k10.lt (Nat.le_of_eq qe1.symm))
  have g_b1 : n0 ≤ b1 := Nat.le_trans Z0 (Nat.le_of_eq qe1.symm)
  have V1 : Arv Z h1 b1 kc1 .boolean (11 : Int32) [(.int (0 : Int32)), (.int (0 : Int32)), (.int (0 : Int32)), (.int (0 : Int32)), (.int (0 : Int32)), (.int (0 : Int32)), (.int (0 : Int32)), (.int (0 : Int32)), (.int (0 : Int32)), (.int (0 : Int32)), (.int (0 : Int32))] (.int (0 : Int32)) := (Arv.new A1 (by decide)).pad (pad_rep [] (.int (0 : Int32)) 11)
  refine own_dup X1 hx (hb hby at_12) rfl 13 rfl ?_
  refine own_iconst X1 hx (hb hby at_13) (0 : Int32) rfl 14 rfl ?_
  refine own_iconst X1 hx (hb hby at_14) (0 : Int32) rfl 15 rfl ?_
  obtain ⟨cl2, Ar2, qk2, Sz2, Nz2, Hz2, Gz2⟩ := V1
  refine own_stZ X1 hx hZ e1 Ar2 (j := (0 : Int32)) (inb_of Sz2 ⟨by decide, by decide⟩) (hb hby at_15) 16 rfl ?_
  intro T2 h2 X2 e2 W2
  have V2 : Arv Z h2 b1 kc1 .boolean (11 : Int32) [(.int (0 : Int32)), (.int (0 : Int32)), (.int (0 : Int32)), (.int (0 : Int32)), (.int (0 : Int32)), (.int (0 : Int32)), (.int (0 : Int32)), (.int (0 : Int32)), (.int (0 : Int32)), (.int (0 : Int32)), (.int (0 : Int32))] (.int (0 : Int32)) := Arv.set Ar2 qk2 Sz2 Nz2 Hz2 Gz2 (fits_nar_bool _) W2 0 rfl (Nat.le_of_ble_eq_true rfl)
  have N2 := Fr.snoc X2 N0 g_b1
  refine own_dup X2 hx (hb hby at_16) rfl 17 rfl ?_
  refine own_iconst X2 hx (hb hby at_17) (1 : Int32) rfl 18 rfl ?_
  refine own_iconst X2 hx (hb hby at_18) (0 : Int32) rfl 19 rfl ?_
  obtain ⟨cl3, Ar3, qk3, Sz3, Nz3, Hz3, Gz3⟩ := V2
  refine own_stZ X2 hx hZ e2 Ar3 (j := (1 : Int32)) (inb_of Sz3 ⟨by decide, by decide⟩) (hb hby at_19) 20 rfl ?_
  intro T3 h3 X3 e3 W3
  have V3 : Arv Z h3 b1 kc1 .boolean (11 : Int32) [(.int (0 : Int32)), (.int (0 : Int32)), (.int (0 : Int32)), (.int (0 : Int32)), (.int (0 : Int32)), (.int (0 : Int32)), (.int (0 : Int32)), (.int (0 : Int32)), (.int (0 : Int32)), (.int (0 : Int32)), (.int (0 : Int32))] (.int (0 : Int32)) := Arv.set Ar3 qk3 Sz3 Nz3 Hz3 Gz3 (fits_nar_bool _) W3 1 rfl (Nat.le_of_ble_eq_true rfl)
  have N3 := Fr.snoc X3 N2 g_b1
  refine own_dup X3 hx (hb hby at_20) rfl 21 rfl ?_
  refine own_iconst X3 hx (hb hby at_21) (2 : Int32) rfl 22 rfl ?_
  refine own_iconst X3 hx (hb hby at_22) (1 : Int32) rfl 23 rfl ?_
  obtain ⟨cl4, Ar4, qk4, Sz4, Nz4, Hz4, Gz4⟩ := V3
  refine own_stZ X3 hx hZ e3 Ar4 (j := (2 : Int32)) (inb_of Sz4 ⟨by decide, by decide⟩) (hb hby at_23) 24 rfl ?_
  intro T4 h4 X4 e4 W4
  have V4 : Arv Z h4 b1 kc1 .boolean (11 : Int32) [(.int (0 : Int32)), (.int (0 : Int32)), (.int (1 : Int32)), (.int (0 : Int32)), (.int (0 : Int32)), (.int (0 : Int32)), (.int (0 : Int32)), (.int (0 : Int32)), (.int (0 : Int32)), (.int (0 : Int32)), (.int (0 : Int32))] (.int (0 : Int32)) := Arv.set Ar4 qk4 Sz4 Nz4 Hz4 Gz4 (fits_nar_bool _) W4 2 rfl (Nat.le_of_ble_eq_true rfl)
  have N4 := Fr.snoc X4 N3 g_b1
  refine own_dup X4 hx (hb hby at_24) rfl 25 rfl ?_
  refine own_iconst X4 hx (hb hby at_25) (3 : Int32) rfl 26 rfl ?_
  refine own_iconst X4 hx (hb hby at_26) (0 : Int32) rfl 27 rfl ?_
  obtain ⟨cl5, Ar5, qk5, Sz5, Nz5, Hz5, Gz5⟩ := V4
  refine own_stZ X4 hx hZ e4 Ar5 (j := (3 : Int32)) (inb_of Sz5 ⟨by decide, by decide⟩) (hb hby at_27) 28 rfl ?_
  intro T5 h5 X5 e5 W5
  have V5 : Arv Z h5 b1 kc1 .boolean (11 : Int32) [(.int (0 : Int32)), (.int (0 : Int32)), (.int (1 : Int32)), (.int (0 : Int32)), (.int (0 : Int32)), (.int (0 : Int32)), (.int (0 : Int32)), (.int (0 : Int32)), (.int (0 : Int32)), (.int (0 : Int32)), (.int (0 : Int32))] (.int (0 : Int32)) := Arv.set Ar5 qk5 Sz5 Nz5 Hz5 Gz5 (fits_nar_bool _) W5 3 rfl (Nat.le_of_ble_eq_true rfl)
  have N5 := Fr.snoc X5 N4 g_b1
  refine own_dup X5 hx (hb hby at_28) rfl 29 rfl ?_
  refine own_iconst X5 hx (hb hby at_29) (4 : Int32) rfl 30 rfl ?_
  refine own_iconst X5 hx (hb hby at_30) (0 : Int32) rfl 31 rfl ?_
  obtain ⟨cl6, Ar6, qk6, Sz6, Nz6, Hz6, Gz6⟩ := V5
  refine own_stZ X5 hx hZ e5 Ar6 (j := (4 : Int32)) (inb_of Sz6 ⟨by decide, by decide⟩) (hb hby at_31) 32 rfl ?_
  intro T6 h6 X6 e6 W6
  have V6 : Arv Z h6 b1 kc1 .boolean (11 : Int32) [(.int (0 : Int32)), (.int (0 : Int32)), (.int (1 : Int32)), (.int (0 : Int32)), (.int (0 : Int32)), (.int (0 : Int32)), (.int (0 : Int32)), (.int (0 : Int32)), (.int (0 : Int32)), (.int (0 : Int32)), (.int (0 : Int32))] (.int (0 : Int32)) := Arv.set Ar6 qk6 Sz6 Nz6 Hz6 Gz6 (fits_nar_bool _) W6 4 rfl (Nat.le_of_ble_eq_true rfl)
  have N6 := Fr.snoc X6 N5 g_b1
  refine own_dup X6 hx (hb hby at_32) rfl 33 rfl ?_
  refine own_iconst X6 hx (hb hby at_33) (5 : Int32) rfl 34 rfl ?_
  refine own_iconst X6 hx (hb hby at_34) (0 : Int32) rfl 35 rfl ?_
  obtain ⟨cl7, Ar7, qk7, Sz7, Nz7, Hz7, Gz7⟩ := V6
  refine own_stZ X6 hx hZ e6 Ar7 (j := (5 : Int32)) (inb_of Sz7 ⟨by decide, by decide⟩) (hb hby at_35) 36 rfl ?_
  intro T7 h7 X7 e7 W7
  have V7 : Arv Z h7 b1 kc1 .boolean (11 : Int32) [(.int (0 : Int32)), (.int (0 : Int32)), (.int (1 : Int32)), (.int (0 : Int32)), (.int (0 : Int32)), (.int (0 : Int32)), (.int (0 : Int32)), (.int (0 : Int32)), (.int (0 : Int32)), (.int (0 : Int32)), (.int (0 : Int32))] (.int (0 : Int32)) := Arv.set Ar7 qk7 Sz7 Nz7 Hz7 Gz7 (fits_nar_bool _) W7 5 rfl (Nat.le_of_ble_eq_true rfl)
  have N7 := Fr.snoc X7 N6 g_b1
  refine own_dup X7 hx (hb hby at_36) rfl 37 rfl ?_
  refine own_bipush X7 hx (hb hby at_37) (6 : Int32) rfl 39 rfl ?_
  refine own_iconst X7 hx (hb hby at_39) (0 : Int32) rfl 40 rfl ?_
  obtain ⟨cl8, Ar8, qk8, Sz8, Nz8, Hz8, Gz8⟩ := V7
  refine own_stZ X7 hx hZ e7 Ar8 (j := (6 : Int32)) (inb_of Sz8 ⟨by decide, by decide⟩) (hb hby at_40) 41 rfl ?_
  intro T8 h8 X8 e8 W8
  have V8 : Arv Z h8 b1 kc1 .boolean (11 : Int32) [(.int (0 : Int32)), (.int (0 : Int32)), (.int (1 : Int32)), (.int (0 : Int32)), (.int (0 : Int32)), (.int (0 : Int32)), (.int (0 : Int32)), (.int (0 : Int32)), (.int (0 : Int32)), (.int (0 : Int32)), (.int (0 : Int32))] (.int (0 : Int32)) := Arv.set Ar8 qk8 Sz8 Nz8 Hz8 Gz8 (fits_nar_bool _) W8 6 rfl (Nat.le_of_ble_eq_true rfl)
  have N8 := Fr.snoc X8 N7 g_b1
  refine own_dup X8 hx (hb hby at_41) rfl 42 rfl ?_
  refine own_bipush X8 hx (hb hby at_42) (7 : Int32) rfl 44 rfl ?_
  refine own_iconst X8 hx (hb hby at_44) (0 : Int32) rfl 45 rfl ?_
  obtain ⟨cl9, Ar9, qk9, Sz9, Nz9, Hz9, Gz9⟩ := V8
  refine own_stZ X8 hx hZ e8 Ar9 (j := (7 : Int32)) (inb_of Sz9 ⟨by decide, by decide⟩) (hb hby at_45) 46 rfl ?_
  intro T9 h9 X9 e9 W9
  have V9 : Arv Z h9 b1 kc1 .boolean (11 : Int32) [(.int (0 : Int32)), (.int (0 : Int32)), (.int (1 : Int32)), (.int (0 : Int32)), (.int (0 : Int32)), (.int (0 : Int32)), (.int (0 : Int32)), (.int (0 : Int32)), (.int (0 : Int32)), (.int (0 : Int32)), (.int (0 : Int32))] (.int (0 : Int32)) := Arv.set Ar9 qk9 Sz9 Nz9 Hz9 Gz9 (fits_nar_bool _) W9 7 rfl (Nat.le_of_ble_eq_true rfl)
  have N9 := Fr.snoc X9 N8 g_b1
  refine own_dup X9 hx (hb hby at_46) rfl 47 rfl ?_
  refine own_bipush X9 hx (hb hby at_47) (8 : Int32) rfl 49 rfl ?_
  refine own_iconst X9 hx (hb hby at_49) (1 : Int32) rfl 50 rfl ?_
  obtain ⟨cl10, Ar10, qk10, Sz10, Nz10, Hz10, Gz10⟩ := V9
  refine own_stZ X9 hx hZ e9 Ar10 (j := (8 : Int32)) (inb_of Sz10 ⟨by decide, by decide⟩) (hb hby at_50) 51 rfl ?_
  intro T10 h10 X10 e10 W10
  have V10 : Arv Z h10 b1 kc1 .boolean (11 : Int32) [(.int (0 : Int32)), (.int (0 : Int32)), (.int (1 : Int32)), (.int (0 : Int32)), (.int (0 : Int32)), (.int (0 : Int32)), (.int (0 : Int32)), (.int (0 : Int32)), (.int (1 : Int32)), (.int (0 : Int32)), (.int (0 : Int32))] (.int (0 : Int32)) := Arv.set Ar10 qk10 Sz10 Nz10 Hz10 Gz10 (fits_nar_bool _) W10 8 rfl (Nat.le_of_ble_eq_true rfl)
  have N10 := Fr.snoc X10 N9 g_b1
  refine own_dup X10 hx (hb hby at_51) rfl 52 rfl ?_
  refine own_bipush X10 hx (hb hby at_52) (9 : Int32) rfl 54 rfl ?_
  refine own_iconst X10 hx (hb hby at_54) (1 : Int32) rfl 55 rfl ?_
  obtain ⟨cl11, Ar11, qk11, Sz11, Nz11, Hz11, Gz11⟩ := V10
  refine own_stZ X10 hx hZ e10 Ar11 (j := (9 : Int32)) (inb_of Sz11 ⟨by decide, by decide⟩) (hb hby at_55) 56 rfl ?_
  intro T11 h11 X11 e11 W11
  have V11 : Arv Z h11 b1 kc1 .boolean (11 : Int32) [(.int (0 : Int32)), (.int (0 : Int32)), (.int (1 : Int32)), (.int (0 : Int32)), (.int (0 : Int32)), (.int (0 : Int32)), (.int (0 : Int32)), (.int (0 : Int32)), (.int (1 : Int32)), (.int (1 : Int32)), (.int (0 : Int32))] (.int (0 : Int32)) := Arv.set Ar11 qk11 Sz11 Nz11 Hz11 Gz11 (fits_nar_bool _) W11 9 rfl (Nat.le_of_ble_eq_true rfl)
  have N11 := Fr.snoc X11 N10 g_b1
  refine own_dup X11 hx (hb hby at_56) rfl 57 rfl ?_
  refine own_bipush X11 hx (hb hby at_57) (10 : Int32) rfl 59 rfl ?_
  refine own_iconst X11 hx (hb hby at_59) (1 : Int32) rfl 60 rfl ?_
  obtain ⟨cl12, Ar12, qk12, Sz12, Nz12, Hz12, Gz12⟩ := V11
  refine own_stZ X11 hx hZ e11 Ar12 (j := (10 : Int32)) (inb_of Sz12 ⟨by decide, by decide⟩) (hb hby at_60) 61 rfl ?_
  intro T12 h12 X12 e12 W12
  have V12 : Arv Z h12 b1 kc1 .boolean (11 : Int32) [(.int (0 : Int32)), (.int (0 : Int32)), (.int (1 : Int32)), (.int (0 : Int32)), (.int (0 : Int32)), (.int (0 : Int32)), (.int (0 : Int32)), (.int (0 : Int32)), (.int (1 : Int32)), (.int (1 : Int32)), (.int (1 : Int32))] (.int (0 : Int32)) := Arv.set Ar12 qk12 Sz12 Nz12 Hz12 Gz12 (fits_nar_bool _) W12 10 rfl (Nat.le_of_ble_eq_true rfl)
  have N12 := Fr.snoc X12 N11 g_b1
  refine own_astoreN X12 hx (hb hby at_61) rfl #[.val (.int i0), .val (.int ((i0 &&& (2147483647 : Int32)) % (11 : Int32))), .val (.ref b1), .unset] rfl 62 rfl ?_
  rcases own_mod i0 with hk | hk | hk | hk | hk | hk | hk | hk | hk | hk | hk
  · -- case 0
    rw [hk]
    show OwnW p e below (OwnG s (Q0 Z i0 k0 k1 k2 k3 k4 k5 k6 k7 k8 k9 k10 h0 n0) room_1.cells room_1.slots) (T12.setTop (mkF m 62 #[.val (.int i0), .val (.int (0 : Int32)), .val (.ref b1), .unset] []))
    refine own_iloadN X12 hx (hb hby at_62) rfl 63 rfl ?_
    have ScomexampleusciousciocorePrimitiveKind_INSERT_INTO_13 := ((((((((((((S_INSERT_INTO.ext E1).wr W2).wr W3).wr W4).wr W5).wr W6).wr W7).wr W8).wr W9).wr W10).wr W11).wr W12)
    have ScomexampleusciousciocorePrimitiveKind_INSERT_ATTRIBUTES_14 := ((((((((((((S_INSERT_ATTRIBUTES.ext E1).wr W2).wr W3).wr W4).wr W5).wr W6).wr W7).wr W8).wr W9).wr W10).wr W11).wr W12)
    have ScomexampleusciousciocorePrimitiveKind_REPLACE_VALUE_15 := ((((((((((((S_REPLACE_VALUE.ext E1).wr W2).wr W3).wr W4).wr W5).wr W6).wr W7).wr W8).wr W9).wr W10).wr W11).wr W12)
    have ScomexampleusciousciocorePrimitiveKind_RENAME_16 := ((((((((((((S_RENAME.ext E1).wr W2).wr W3).wr W4).wr W5).wr W6).wr W7).wr W8).wr W9).wr W10).wr W11).wr W12)
    have ScomexampleusciousciocorePrimitiveKind_INSERT_BEFORE_17 := ((((((((((((S_INSERT_BEFORE.ext E1).wr W2).wr W3).wr W4).wr W5).wr W6).wr W7).wr W8).wr W9).wr W10).wr W11).wr W12)
    have ScomexampleusciousciocorePrimitiveKind_INSERT_AFTER_18 := ((((((((((((S_INSERT_AFTER.ext E1).wr W2).wr W3).wr W4).wr W5).wr W6).wr W7).wr W8).wr W9).wr W10).wr W11).wr W12)
    have ScomexampleusciousciocorePrimitiveKind_INSERT_INTO_AS_FIRST_19 := ((((((((((((S_INSERT_INTO_AS_FIRST.ext E1).wr W2).wr W3).wr W4).wr W5).wr W6).wr W7).wr W8).wr W9).wr W10).wr W11).wr W12)
    have ScomexampleusciousciocorePrimitiveKind_INSERT_INTO_AS_LAST_20 := ((((((((((((S_INSERT_INTO_AS_LAST.ext E1).wr W2).wr W3).wr W4).wr W5).wr W6).wr W7).wr W8).wr W9).wr W10).wr W11).wr W12)
    have ScomexampleusciousciocorePrimitiveKind_REPLACE_NODE_21 := ((((((((((((S_REPLACE_NODE.ext E1).wr W2).wr W3).wr W4).wr W5).wr W6).wr W7).wr W8).wr W9).wr W10).wr W11).wr W12)
    have ScomexampleusciousciocorePrimitiveKind_REPLACE_ELEMENT_CONTENT_22 := ((((((((((((S_REPLACE_ELEMENT_CONTENT.ext E1).wr W2).wr W3).wr W4).wr W5).wr W6).wr W7).wr W8).wr W9).wr W10).wr W11).wr W12)
    have ScomexampleusciousciocorePrimitiveKind_DELETE_23 := ((((((((((((S_DELETE.ext E1).wr W2).wr W3).wr W4).wr W5).wr W6).wr W7).wr W8).wr W9).wr W10).wr W11).wr W12)
    have Zs24 : n0 ≤ h12.size := (Nat.le_trans (Nat.le_trans (Nat.le_trans (Nat.le_trans (Nat.le_trans (Nat.le_trans (Nat.le_trans (Nat.le_trans (Nat.le_trans (Nat.le_trans (Nat.le_trans (Nat.le_trans Z0 E1.1) (Keep.of_wr W2).1) (Keep.of_wr W3).1) (Keep.of_wr W4).1) (Keep.of_wr W5).1) (Keep.of_wr W6).1) (Keep.of_wr W7).1) (Keep.of_wr W8).1) (Keep.of_wr W9).1) (Keep.of_wr W10).1) (Keep.of_wr W11).1) (Keep.of_wr W12).1)
    refine own_callS X12 hx hZ hown (hw _ (List.mem_of_getElem? (i := 2) rfl)) (hw _ (List.mem_of_getElem? (i := 3) rfl)) (hw _ (List.mem_of_getElem? (i := 5) rfl)) (hw _ (List.mem_of_getElem? (i := 4) rfl)) (by decide) (rm1 l Z a0 hw [] (0 : Int32) k0 k1 k2 k3 k4 k5 k6 k7 k8 k9 k10 h12 n0 Zs24 ScomexampleusciousciocorePrimitiveKind_INSERT_INTO_13 ScomexampleusciousciocorePrimitiveKind_INSERT_ATTRIBUTES_14 ScomexampleusciousciocorePrimitiveKind_REPLACE_VALUE_15 ScomexampleusciousciocorePrimitiveKind_RENAME_16 ScomexampleusciousciocorePrimitiveKind_INSERT_BEFORE_17 ScomexampleusciousciocorePrimitiveKind_INSERT_AFTER_18 ScomexampleusciousciocorePrimitiveKind_INSERT_INTO_AS_FIRST_19 ScomexampleusciousciocorePrimitiveKind_INSERT_INTO_AS_LAST_20 ScomexampleusciousciocorePrimitiveKind_REPLACE_NODE_21 ScomexampleusciousciocorePrimitiveKind_REPLACE_ELEMENT_CONTENT_22 ScomexampleusciousciocorePrimitiveKind_DELETE_23) e12 (hb hby at_63) pd__I_Lcom_example_uscio_uscio_core_PrimitiveKind_ rfl (by rw [hml]; rfl) (st := []) rfl 0 (Nat.le_of_eq rfl) (by decide) (by decide) (by decide) (by decide) 66 rfl ?_
    intro T25 v25 L25 X25 hQ25
    obtain ⟨rfl, N25q, e25⟩ := hQ25
    have N25 := Fr.app N12 N25q
    show OwnW p e below (OwnG s (Q0 Z i0 k0 k1 k2 k3 k4 k5 k6 k7 k8 k9 k10 h0 n0) room_1.cells room_1.slots) (T25.setTop (mkF m 66 #[.val (.int i0), .val (.int (0 : Int32)), .val (.ref b1), .unset] [(.ref (own_kind (0 : Int32) k0 k1 k2 k3 k4 k5 k6 k7 k8 k9 k10))]))
    rw [show own_kind (0 : Int32) k0 k1 k2 k3 k4 k5 k6 k7 k8 k9 k10 = k0 from by rw [own_kind, if_pos rfl]]
    refine own_astoreN X25 hx (hb hby at_66) rfl #[.val (.int i0), .val (.int (0 : Int32)), .val (.ref b1), .val (.ref k0)] rfl 67 rfl ?_
    refine own_aloadN X25 hx (hb hby at_67) rfl rfl 68 rfl ?_
    have Ek0_27 := ((((((((((((E_k0.ext E1).wr W2).wr W3).wr W4).wr W5).wr W6).wr W7).wr W8).wr W9).wr W10).wr W11).wr W12)
    refine own_callV X25 hx hZ hown (hw _ (List.mem_of_getElem? (i := 9) rfl)) (hw _ (List.mem_of_getElem? (i := 10) rfl)) (hw _ (List.mem_of_getElem? (i := 12) rfl)) (hw _ (List.mem_of_getElem? (i := 11) rfl)) (hw _ (List.mem_of_getElem? (i := 13) rfl)) (hw _ (List.mem_of_getElem? (i := 7) rfl)) (by decide) Ek0_27 (rm2 l Z a0 hw [] k0 k10 k8 k9 k2 h12 n0 Zs24 ScomexampleusciousciocorePrimitiveKind_DELETE_23 ScomexampleusciousciocorePrimitiveKind_REPLACE_NODE_21 ScomexampleusciousciocorePrimitiveKind_REPLACE_ELEMENT_CONTENT_22 ScomexampleusciousciocorePrimitiveKind_REPLACE_VALUE_15) e25 (hb hby at_68) pd___Z rfl (by rw [hml]; rfl) (st := []) rfl 0 (Nat.le_of_eq rfl) (by decide) (by decide) (by decide) (by decide) 71 rfl ?_
    intro T26 v26 L26 X26 hQ26
    obtain ⟨rfl, N26q, e26⟩ := hQ26
    have N26 := Fr.app N25 N26q
    show OwnW p e below (OwnG s (Q0 Z i0 k0 k1 k2 k3 k4 k5 k6 k7 k8 k9 k10 h0 n0) room_1.cells room_1.slots) (T26.setTop (mkF m 71 #[.val (.int i0), .val (.int (0 : Int32)), .val (.ref b1), .val (.ref k0)] [(.int (own_rem k0 k10 k8 k9 k2))]))
    refine own_aloadN X26 hx (hb hby at_71) rfl rfl 72 rfl ?_
    refine own_iloadN X26 hx (hb hby at_72) rfl 73 rfl ?_
    refine own_ldZ X26 hx hZ e26 V12 ⟨by decide, by decide⟩ (.int (0 : Int32)) rfl (hb hby at_73) 74 rfl ?_
    have hc74 : (own_rem k0 k10 k8 k9 k2) = (0 : Int32) := by rw [own_rem, if_neg (Fld.ne F_ordinal_k0 F_ordinal_k10 (by decide)), if_neg (Fld.ne F_ordinal_k0 F_ordinal_k8 (by decide)), if_neg (Fld.ne F_ordinal_k0 F_ordinal_k9 (by decide)), if_neg (Fld.ne F_ordinal_k0 F_ordinal_k2 (by decide))]
    refine own_icmpN X26 hx (hb hby at_74) (teq hc74).2 77 (by decide) ?_
    refine own_iconst X26 hx (hb hby at_77) (1 : Int32) rfl 78 rfl ?_
    refine own_goto X26 hx (hb hby at_78) 82 (by decide) ?_
    refine own_retZ X26 hx hlk Bd.returns (by decide) (hb hby at_82) (by decide) (by decide) ?_
    show Q0 Z i0 k0 k1 k2 k3 k4 k5 k6 k7 k8 k9 k10 h0 n0 _ T26.heap _
    rw [e26]
    exact ⟨rfl, N26⟩
  · -- case 1
    rw [hk]
    show OwnW p e below (OwnG s (Q0 Z i0 k0 k1 k2 k3 k4 k5 k6 k7 k8 k9 k10 h0 n0) room_1.cells room_1.slots) (T12.setTop (mkF m 62 #[.val (.int i0), .val (.int (1 : Int32)), .val (.ref b1), .unset] []))
    refine own_iloadN X12 hx (hb hby at_62) rfl 63 rfl ?_
    have ScomexampleusciousciocorePrimitiveKind_INSERT_INTO_28 := ((((((((((((S_INSERT_INTO.ext E1).wr W2).wr W3).wr W4).wr W5).wr W6).wr W7).wr W8).wr W9).wr W10).wr W11).wr W12)
    have ScomexampleusciousciocorePrimitiveKind_INSERT_ATTRIBUTES_29 := ((((((((((((S_INSERT_ATTRIBUTES.ext E1).wr W2).wr W3).wr W4).wr W5).wr W6).wr W7).wr W8).wr W9).wr W10).wr W11).wr W12)
    have ScomexampleusciousciocorePrimitiveKind_REPLACE_VALUE_30 := ((((((((((((S_REPLACE_VALUE.ext E1).wr W2).wr W3).wr W4).wr W5).wr W6).wr W7).wr W8).wr W9).wr W10).wr W11).wr W12)
    have ScomexampleusciousciocorePrimitiveKind_RENAME_31 := ((((((((((((S_RENAME.ext E1).wr W2).wr W3).wr W4).wr W5).wr W6).wr W7).wr W8).wr W9).wr W10).wr W11).wr W12)
    have ScomexampleusciousciocorePrimitiveKind_INSERT_BEFORE_32 := ((((((((((((S_INSERT_BEFORE.ext E1).wr W2).wr W3).wr W4).wr W5).wr W6).wr W7).wr W8).wr W9).wr W10).wr W11).wr W12)
    have ScomexampleusciousciocorePrimitiveKind_INSERT_AFTER_33 := ((((((((((((S_INSERT_AFTER.ext E1).wr W2).wr W3).wr W4).wr W5).wr W6).wr W7).wr W8).wr W9).wr W10).wr W11).wr W12)
    have ScomexampleusciousciocorePrimitiveKind_INSERT_INTO_AS_FIRST_34 := ((((((((((((S_INSERT_INTO_AS_FIRST.ext E1).wr W2).wr W3).wr W4).wr W5).wr W6).wr W7).wr W8).wr W9).wr W10).wr W11).wr W12)
    have ScomexampleusciousciocorePrimitiveKind_INSERT_INTO_AS_LAST_35 := ((((((((((((S_INSERT_INTO_AS_LAST.ext E1).wr W2).wr W3).wr W4).wr W5).wr W6).wr W7).wr W8).wr W9).wr W10).wr W11).wr W12)
    have ScomexampleusciousciocorePrimitiveKind_REPLACE_NODE_36 := ((((((((((((S_REPLACE_NODE.ext E1).wr W2).wr W3).wr W4).wr W5).wr W6).wr W7).wr W8).wr W9).wr W10).wr W11).wr W12)
    have ScomexampleusciousciocorePrimitiveKind_REPLACE_ELEMENT_CONTENT_37 := ((((((((((((S_REPLACE_ELEMENT_CONTENT.ext E1).wr W2).wr W3).wr W4).wr W5).wr W6).wr W7).wr W8).wr W9).wr W10).wr W11).wr W12)
    have ScomexampleusciousciocorePrimitiveKind_DELETE_38 := ((((((((((((S_DELETE.ext E1).wr W2).wr W3).wr W4).wr W5).wr W6).wr W7).wr W8).wr W9).wr W10).wr W11).wr W12)
    have Zs39 : n0 ≤ h12.size := (Nat.le_trans (Nat.le_trans (Nat.le_trans (Nat.le_trans (Nat.le_trans (Nat.le_trans (Nat.le_trans (Nat.le_trans (Nat.le_trans (Nat.le_trans (Nat.le_trans (Nat.le_trans Z0 E1.1) (Keep.of_wr W2).1) (Keep.of_wr W3).1) (Keep.of_wr W4).1) (Keep.of_wr W5).1) (Keep.of_wr W6).1) (Keep.of_wr W7).1) (Keep.of_wr W8).1) (Keep.of_wr W9).1) (Keep.of_wr W10).1) (Keep.of_wr W11).1) (Keep.of_wr W12).1)
    refine own_callS X12 hx hZ hown (hw _ (List.mem_of_getElem? (i := 2) rfl)) (hw _ (List.mem_of_getElem? (i := 3) rfl)) (hw _ (List.mem_of_getElem? (i := 5) rfl)) (hw _ (List.mem_of_getElem? (i := 4) rfl)) (by decide) (rm1 l Z a0 hw [] (1 : Int32) k0 k1 k2 k3 k4 k5 k6 k7 k8 k9 k10 h12 n0 Zs39 ScomexampleusciousciocorePrimitiveKind_INSERT_INTO_28 ScomexampleusciousciocorePrimitiveKind_INSERT_ATTRIBUTES_29 ScomexampleusciousciocorePrimitiveKind_REPLACE_VALUE_30 ScomexampleusciousciocorePrimitiveKind_RENAME_31 ScomexampleusciousciocorePrimitiveKind_INSERT_BEFORE_32 ScomexampleusciousciocorePrimitiveKind_INSERT_AFTER_33 ScomexampleusciousciocorePrimitiveKind_INSERT_INTO_AS_FIRST_34 ScomexampleusciousciocorePrimitiveKind_INSERT_INTO_AS_LAST_35 ScomexampleusciousciocorePrimitiveKind_REPLACE_NODE_36 ScomexampleusciousciocorePrimitiveKind_REPLACE_ELEMENT_CONTENT_37 ScomexampleusciousciocorePrimitiveKind_DELETE_38) e12 (hb hby at_63) pd__I_Lcom_example_uscio_uscio_core_PrimitiveKind_ rfl (by rw [hml]; rfl) (st := []) rfl 0 (Nat.le_of_eq rfl) (by decide) (by decide) (by decide) (by decide) 66 rfl ?_
    intro T40 v40 L40 X40 hQ40
    obtain ⟨rfl, N40q, e40⟩ := hQ40
    have N40 := Fr.app N12 N40q
    show OwnW p e below (OwnG s (Q0 Z i0 k0 k1 k2 k3 k4 k5 k6 k7 k8 k9 k10 h0 n0) room_1.cells room_1.slots) (T40.setTop (mkF m 66 #[.val (.int i0), .val (.int (1 : Int32)), .val (.ref b1), .unset] [(.ref (own_kind (1 : Int32) k0 k1 k2 k3 k4 k5 k6 k7 k8 k9 k10))]))
    rw [show own_kind (1 : Int32) k0 k1 k2 k3 k4 k5 k6 k7 k8 k9 k10 = k1 from by rw [own_kind, if_neg (by decide), if_pos rfl]]
    refine own_astoreN X40 hx (hb hby at_66) rfl #[.val (.int i0), .val (.int (1 : Int32)), .val (.ref b1), .val (.ref k1)] rfl 67 rfl ?_
    refine own_aloadN X40 hx (hb hby at_67) rfl rfl 68 rfl ?_
    have Ek1_42 := ((((((((((((E_k1.ext E1).wr W2).wr W3).wr W4).wr W5).wr W6).wr W7).wr W8).wr W9).wr W10).wr W11).wr W12)
    refine own_callV X40 hx hZ hown (hw _ (List.mem_of_getElem? (i := 9) rfl)) (hw _ (List.mem_of_getElem? (i := 10) rfl)) (hw _ (List.mem_of_getElem? (i := 12) rfl)) (hw _ (List.mem_of_getElem? (i := 11) rfl)) (hw _ (List.mem_of_getElem? (i := 13) rfl)) (hw _ (List.mem_of_getElem? (i := 7) rfl)) (by decide) Ek1_42 (rm2 l Z a0 hw [] k1 k10 k8 k9 k2 h12 n0 Zs39 ScomexampleusciousciocorePrimitiveKind_DELETE_38 ScomexampleusciousciocorePrimitiveKind_REPLACE_NODE_36 ScomexampleusciousciocorePrimitiveKind_REPLACE_ELEMENT_CONTENT_37 ScomexampleusciousciocorePrimitiveKind_REPLACE_VALUE_30) e40 (hb hby at_68) pd___Z rfl (by rw [hml]; rfl) (st := []) rfl 0 (Nat.le_of_eq rfl) (by decide) (by decide) (by decide) (by decide) 71 rfl ?_
    intro T41 v41 L41 X41 hQ41
    obtain ⟨rfl, N41q, e41⟩ := hQ41
    have N41 := Fr.app N40 N41q
    show OwnW p e below (OwnG s (Q0 Z i0 k0 k1 k2 k3 k4 k5 k6 k7 k8 k9 k10 h0 n0) room_1.cells room_1.slots) (T41.setTop (mkF m 71 #[.val (.int i0), .val (.int (1 : Int32)), .val (.ref b1), .val (.ref k1)] [(.int (own_rem k1 k10 k8 k9 k2))]))
    refine own_aloadN X41 hx (hb hby at_71) rfl rfl 72 rfl ?_
    refine own_iloadN X41 hx (hb hby at_72) rfl 73 rfl ?_
    refine own_ldZ X41 hx hZ e41 V12 ⟨by decide, by decide⟩ (.int (0 : Int32)) rfl (hb hby at_73) 74 rfl ?_
    have hc74 : (own_rem k1 k10 k8 k9 k2) = (0 : Int32) := by rw [own_rem, if_neg (Fld.ne F_ordinal_k1 F_ordinal_k10 (by decide)), if_neg (Fld.ne F_ordinal_k1 F_ordinal_k8 (by decide)), if_neg (Fld.ne F_ordinal_k1 F_ordinal_k9 (by decide)), if_neg (Fld.ne F_ordinal_k1 F_ordinal_k2 (by decide))]
    refine own_icmpN X41 hx (hb hby at_74) (teq hc74).2 77 (by decide) ?_
    refine own_iconst X41 hx (hb hby at_77) (1 : Int32) rfl 78 rfl ?_
    refine own_goto X41 hx (hb hby at_78) 82 (by decide) ?_
    refine own_retZ X41 hx hlk Bd.returns (by decide) (hb hby at_82) (by decide) (by decide) ?_
    show Q0 Z i0 k0 k1 k2 k3 k4 k5 k6 k7 k8 k9 k10 h0 n0 _ T41.heap _
    rw [e41]
    exact ⟨rfl, N41⟩
  · -- case 2
    rw [hk]
    show OwnW p e below (OwnG s (Q0 Z i0 k0 k1 k2 k3 k4 k5 k6 k7 k8 k9 k10 h0 n0) room_1.cells room_1.slots) (T12.setTop (mkF m 62 #[.val (.int i0), .val (.int (2 : Int32)), .val (.ref b1), .unset] []))
    refine own_iloadN X12 hx (hb hby at_62) rfl 63 rfl ?_
    have ScomexampleusciousciocorePrimitiveKind_INSERT_INTO_43 := ((((((((((((S_INSERT_INTO.ext E1).wr W2).wr W3).wr W4).wr W5).wr W6).wr W7).wr W8).wr W9).wr W10).wr W11).wr W12)
    have ScomexampleusciousciocorePrimitiveKind_INSERT_ATTRIBUTES_44 := ((((((((((((S_INSERT_ATTRIBUTES.ext E1).wr W2).wr W3).wr W4).wr W5).wr W6).wr W7).wr W8).wr W9).wr W10).wr W11).wr W12)
    have ScomexampleusciousciocorePrimitiveKind_REPLACE_VALUE_45 := ((((((((((((S_REPLACE_VALUE.ext E1).wr W2).wr W3).wr W4).wr W5).wr W6).wr W7).wr W8).wr W9).wr W10).wr W11).wr W12)
    have ScomexampleusciousciocorePrimitiveKind_RENAME_46 := ((((((((((((S_RENAME.ext E1).wr W2).wr W3).wr W4).wr W5).wr W6).wr W7).wr W8).wr W9).wr W10).wr W11).wr W12)
    have ScomexampleusciousciocorePrimitiveKind_INSERT_BEFORE_47 := ((((((((((((S_INSERT_BEFORE.ext E1).wr W2).wr W3).wr W4).wr W5).wr W6).wr W7).wr W8).wr W9).wr W10).wr W11).wr W12)
    have ScomexampleusciousciocorePrimitiveKind_INSERT_AFTER_48 := ((((((((((((S_INSERT_AFTER.ext E1).wr W2).wr W3).wr W4).wr W5).wr W6).wr W7).wr W8).wr W9).wr W10).wr W11).wr W12)
    have ScomexampleusciousciocorePrimitiveKind_INSERT_INTO_AS_FIRST_49 := ((((((((((((S_INSERT_INTO_AS_FIRST.ext E1).wr W2).wr W3).wr W4).wr W5).wr W6).wr W7).wr W8).wr W9).wr W10).wr W11).wr W12)
    have ScomexampleusciousciocorePrimitiveKind_INSERT_INTO_AS_LAST_50 := ((((((((((((S_INSERT_INTO_AS_LAST.ext E1).wr W2).wr W3).wr W4).wr W5).wr W6).wr W7).wr W8).wr W9).wr W10).wr W11).wr W12)
    have ScomexampleusciousciocorePrimitiveKind_REPLACE_NODE_51 := ((((((((((((S_REPLACE_NODE.ext E1).wr W2).wr W3).wr W4).wr W5).wr W6).wr W7).wr W8).wr W9).wr W10).wr W11).wr W12)
    have ScomexampleusciousciocorePrimitiveKind_REPLACE_ELEMENT_CONTENT_52 := ((((((((((((S_REPLACE_ELEMENT_CONTENT.ext E1).wr W2).wr W3).wr W4).wr W5).wr W6).wr W7).wr W8).wr W9).wr W10).wr W11).wr W12)
    have ScomexampleusciousciocorePrimitiveKind_DELETE_53 := ((((((((((((S_DELETE.ext E1).wr W2).wr W3).wr W4).wr W5).wr W6).wr W7).wr W8).wr W9).wr W10).wr W11).wr W12)
    have Zs54 : n0 ≤ h12.size := (Nat.le_trans (Nat.le_trans (Nat.le_trans (Nat.le_trans (Nat.le_trans (Nat.le_trans (Nat.le_trans (Nat.le_trans (Nat.le_trans (Nat.le_trans (Nat.le_trans (Nat.le_trans Z0 E1.1) (Keep.of_wr W2).1) (Keep.of_wr W3).1) (Keep.of_wr W4).1) (Keep.of_wr W5).1) (Keep.of_wr W6).1) (Keep.of_wr W7).1) (Keep.of_wr W8).1) (Keep.of_wr W9).1) (Keep.of_wr W10).1) (Keep.of_wr W11).1) (Keep.of_wr W12).1)
    refine own_callS X12 hx hZ hown (hw _ (List.mem_of_getElem? (i := 2) rfl)) (hw _ (List.mem_of_getElem? (i := 3) rfl)) (hw _ (List.mem_of_getElem? (i := 5) rfl)) (hw _ (List.mem_of_getElem? (i := 4) rfl)) (by decide) (rm1 l Z a0 hw [] (2 : Int32) k0 k1 k2 k3 k4 k5 k6 k7 k8 k9 k10 h12 n0 Zs54 ScomexampleusciousciocorePrimitiveKind_INSERT_INTO_43 ScomexampleusciousciocorePrimitiveKind_INSERT_ATTRIBUTES_44 ScomexampleusciousciocorePrimitiveKind_REPLACE_VALUE_45 ScomexampleusciousciocorePrimitiveKind_RENAME_46 ScomexampleusciousciocorePrimitiveKind_INSERT_BEFORE_47 ScomexampleusciousciocorePrimitiveKind_INSERT_AFTER_48 ScomexampleusciousciocorePrimitiveKind_INSERT_INTO_AS_FIRST_49 ScomexampleusciousciocorePrimitiveKind_INSERT_INTO_AS_LAST_50 ScomexampleusciousciocorePrimitiveKind_REPLACE_NODE_51 ScomexampleusciousciocorePrimitiveKind_REPLACE_ELEMENT_CONTENT_52 ScomexampleusciousciocorePrimitiveKind_DELETE_53) e12 (hb hby at_63) pd__I_Lcom_example_uscio_uscio_core_PrimitiveKind_ rfl (by rw [hml]; rfl) (st := []) rfl 0 (Nat.le_of_eq rfl) (by decide) (by decide) (by decide) (by decide) 66 rfl ?_
    intro T55 v55 L55 X55 hQ55
    obtain ⟨rfl, N55q, e55⟩ := hQ55
    have N55 := Fr.app N12 N55q
    show OwnW p e below (OwnG s (Q0 Z i0 k0 k1 k2 k3 k4 k5 k6 k7 k8 k9 k10 h0 n0) room_1.cells room_1.slots) (T55.setTop (mkF m 66 #[.val (.int i0), .val (.int (2 : Int32)), .val (.ref b1), .unset] [(.ref (own_kind (2 : Int32) k0 k1 k2 k3 k4 k5 k6 k7 k8 k9 k10))]))
    rw [show own_kind (2 : Int32) k0 k1 k2 k3 k4 k5 k6 k7 k8 k9 k10 = k2 from by rw [own_kind, if_neg (by decide), if_neg (by decide), if_pos rfl]]
    refine own_astoreN X55 hx (hb hby at_66) rfl #[.val (.int i0), .val (.int (2 : Int32)), .val (.ref b1), .val (.ref k2)] rfl 67 rfl ?_
    refine own_aloadN X55 hx (hb hby at_67) rfl rfl 68 rfl ?_
    have Ek2_57 := ((((((((((((E_k2.ext E1).wr W2).wr W3).wr W4).wr W5).wr W6).wr W7).wr W8).wr W9).wr W10).wr W11).wr W12)
    refine own_callV X55 hx hZ hown (hw _ (List.mem_of_getElem? (i := 9) rfl)) (hw _ (List.mem_of_getElem? (i := 10) rfl)) (hw _ (List.mem_of_getElem? (i := 12) rfl)) (hw _ (List.mem_of_getElem? (i := 11) rfl)) (hw _ (List.mem_of_getElem? (i := 13) rfl)) (hw _ (List.mem_of_getElem? (i := 7) rfl)) (by decide) Ek2_57 (rm2 l Z a0 hw [] k2 k10 k8 k9 k2 h12 n0 Zs54 ScomexampleusciousciocorePrimitiveKind_DELETE_53 ScomexampleusciousciocorePrimitiveKind_REPLACE_NODE_51 ScomexampleusciousciocorePrimitiveKind_REPLACE_ELEMENT_CONTENT_52 ScomexampleusciousciocorePrimitiveKind_REPLACE_VALUE_45) e55 (hb hby at_68) pd___Z rfl (by rw [hml]; rfl) (st := []) rfl 0 (Nat.le_of_eq rfl) (by decide) (by decide) (by decide) (by decide) 71 rfl ?_
    intro T56 v56 L56 X56 hQ56
    obtain ⟨rfl, N56q, e56⟩ := hQ56
    have N56 := Fr.app N55 N56q
    show OwnW p e below (OwnG s (Q0 Z i0 k0 k1 k2 k3 k4 k5 k6 k7 k8 k9 k10 h0 n0) room_1.cells room_1.slots) (T56.setTop (mkF m 71 #[.val (.int i0), .val (.int (2 : Int32)), .val (.ref b1), .val (.ref k2)] [(.int (own_rem k2 k10 k8 k9 k2))]))
    refine own_aloadN X56 hx (hb hby at_71) rfl rfl 72 rfl ?_
    refine own_iloadN X56 hx (hb hby at_72) rfl 73 rfl ?_
    refine own_ldZ X56 hx hZ e56 V12 ⟨by decide, by decide⟩ (.int (1 : Int32)) rfl (hb hby at_73) 74 rfl ?_
    have hc74 : (own_rem k2 k10 k8 k9 k2) = (1 : Int32) := by simp [own_rem]
    refine own_icmpN X56 hx (hb hby at_74) (teq hc74).2 77 (by decide) ?_
    refine own_iconst X56 hx (hb hby at_77) (1 : Int32) rfl 78 rfl ?_
    refine own_goto X56 hx (hb hby at_78) 82 (by decide) ?_
    refine own_retZ X56 hx hlk Bd.returns (by decide) (hb hby at_82) (by decide) (by decide) ?_
    show Q0 Z i0 k0 k1 k2 k3 k4 k5 k6 k7 k8 k9 k10 h0 n0 _ T56.heap _
    rw [e56]
    exact ⟨rfl, N56⟩
  · -- case 3
    rw [hk]
    show OwnW p e below (OwnG s (Q0 Z i0 k0 k1 k2 k3 k4 k5 k6 k7 k8 k9 k10 h0 n0) room_1.cells room_1.slots) (T12.setTop (mkF m 62 #[.val (.int i0), .val (.int (3 : Int32)), .val (.ref b1), .unset] []))
    refine own_iloadN X12 hx (hb hby at_62) rfl 63 rfl ?_
    have ScomexampleusciousciocorePrimitiveKind_INSERT_INTO_58 := ((((((((((((S_INSERT_INTO.ext E1).wr W2).wr W3).wr W4).wr W5).wr W6).wr W7).wr W8).wr W9).wr W10).wr W11).wr W12)
    have ScomexampleusciousciocorePrimitiveKind_INSERT_ATTRIBUTES_59 := ((((((((((((S_INSERT_ATTRIBUTES.ext E1).wr W2).wr W3).wr W4).wr W5).wr W6).wr W7).wr W8).wr W9).wr W10).wr W11).wr W12)
    have ScomexampleusciousciocorePrimitiveKind_REPLACE_VALUE_60 := ((((((((((((S_REPLACE_VALUE.ext E1).wr W2).wr W3).wr W4).wr W5).wr W6).wr W7).wr W8).wr W9).wr W10).wr W11).wr W12)
    have ScomexampleusciousciocorePrimitiveKind_RENAME_61 := ((((((((((((S_RENAME.ext E1).wr W2).wr W3).wr W4).wr W5).wr W6).wr W7).wr W8).wr W9).wr W10).wr W11).wr W12)
    have ScomexampleusciousciocorePrimitiveKind_INSERT_BEFORE_62 := ((((((((((((S_INSERT_BEFORE.ext E1).wr W2).wr W3).wr W4).wr W5).wr W6).wr W7).wr W8).wr W9).wr W10).wr W11).wr W12)
    have ScomexampleusciousciocorePrimitiveKind_INSERT_AFTER_63 := ((((((((((((S_INSERT_AFTER.ext E1).wr W2).wr W3).wr W4).wr W5).wr W6).wr W7).wr W8).wr W9).wr W10).wr W11).wr W12)
    have ScomexampleusciousciocorePrimitiveKind_INSERT_INTO_AS_FIRST_64 := ((((((((((((S_INSERT_INTO_AS_FIRST.ext E1).wr W2).wr W3).wr W4).wr W5).wr W6).wr W7).wr W8).wr W9).wr W10).wr W11).wr W12)
    have ScomexampleusciousciocorePrimitiveKind_INSERT_INTO_AS_LAST_65 := ((((((((((((S_INSERT_INTO_AS_LAST.ext E1).wr W2).wr W3).wr W4).wr W5).wr W6).wr W7).wr W8).wr W9).wr W10).wr W11).wr W12)
    have ScomexampleusciousciocorePrimitiveKind_REPLACE_NODE_66 := ((((((((((((S_REPLACE_NODE.ext E1).wr W2).wr W3).wr W4).wr W5).wr W6).wr W7).wr W8).wr W9).wr W10).wr W11).wr W12)
    have ScomexampleusciousciocorePrimitiveKind_REPLACE_ELEMENT_CONTENT_67 := ((((((((((((S_REPLACE_ELEMENT_CONTENT.ext E1).wr W2).wr W3).wr W4).wr W5).wr W6).wr W7).wr W8).wr W9).wr W10).wr W11).wr W12)
    have ScomexampleusciousciocorePrimitiveKind_DELETE_68 := ((((((((((((S_DELETE.ext E1).wr W2).wr W3).wr W4).wr W5).wr W6).wr W7).wr W8).wr W9).wr W10).wr W11).wr W12)
    have Zs69 : n0 ≤ h12.size := (Nat.le_trans (Nat.le_trans (Nat.le_trans (Nat.le_trans (Nat.le_trans (Nat.le_trans (Nat.le_trans (Nat.le_trans (Nat.le_trans (Nat.le_trans (Nat.le_trans (Nat.le_trans Z0 E1.1) (Keep.of_wr W2).1) (Keep.of_wr W3).1) (Keep.of_wr W4).1) (Keep.of_wr W5).1) (Keep.of_wr W6).1) (Keep.of_wr W7).1) (Keep.of_wr W8).1) (Keep.of_wr W9).1) (Keep.of_wr W10).1) (Keep.of_wr W11).1) (Keep.of_wr W12).1)
    refine own_callS X12 hx hZ hown (hw _ (List.mem_of_getElem? (i := 2) rfl)) (hw _ (List.mem_of_getElem? (i := 3) rfl)) (hw _ (List.mem_of_getElem? (i := 5) rfl)) (hw _ (List.mem_of_getElem? (i := 4) rfl)) (by decide) (rm1 l Z a0 hw [] (3 : Int32) k0 k1 k2 k3 k4 k5 k6 k7 k8 k9 k10 h12 n0 Zs69 ScomexampleusciousciocorePrimitiveKind_INSERT_INTO_58 ScomexampleusciousciocorePrimitiveKind_INSERT_ATTRIBUTES_59 ScomexampleusciousciocorePrimitiveKind_REPLACE_VALUE_60 ScomexampleusciousciocorePrimitiveKind_RENAME_61 ScomexampleusciousciocorePrimitiveKind_INSERT_BEFORE_62 ScomexampleusciousciocorePrimitiveKind_INSERT_AFTER_63 ScomexampleusciousciocorePrimitiveKind_INSERT_INTO_AS_FIRST_64 ScomexampleusciousciocorePrimitiveKind_INSERT_INTO_AS_LAST_65 ScomexampleusciousciocorePrimitiveKind_REPLACE_NODE_66 ScomexampleusciousciocorePrimitiveKind_REPLACE_ELEMENT_CONTENT_67 ScomexampleusciousciocorePrimitiveKind_DELETE_68) e12 (hb hby at_63) pd__I_Lcom_example_uscio_uscio_core_PrimitiveKind_ rfl (by rw [hml]; rfl) (st := []) rfl 0 (Nat.le_of_eq rfl) (by decide) (by decide) (by decide) (by decide) 66 rfl ?_
    intro T70 v70 L70 X70 hQ70
    obtain ⟨rfl, N70q, e70⟩ := hQ70
    have N70 := Fr.app N12 N70q
    show OwnW p e below (OwnG s (Q0 Z i0 k0 k1 k2 k3 k4 k5 k6 k7 k8 k9 k10 h0 n0) room_1.cells room_1.slots) (T70.setTop (mkF m 66 #[.val (.int i0), .val (.int (3 : Int32)), .val (.ref b1), .unset] [(.ref (own_kind (3 : Int32) k0 k1 k2 k3 k4 k5 k6 k7 k8 k9 k10))]))
    rw [show own_kind (3 : Int32) k0 k1 k2 k3 k4 k5 k6 k7 k8 k9 k10 = k3 from by rw [own_kind, if_neg (by decide), if_neg (by decide), if_neg (by decide), if_pos rfl]]
    refine own_astoreN X70 hx (hb hby at_66) rfl #[.val (.int i0), .val (.int (3 : Int32)), .val (.ref b1), .val (.ref k3)] rfl 67 rfl ?_
    refine own_aloadN X70 hx (hb hby at_67) rfl rfl 68 rfl ?_
    have Ek3_72 := ((((((((((((E_k3.ext E1).wr W2).wr W3).wr W4).wr W5).wr W6).wr W7).wr W8).wr W9).wr W10).wr W11).wr W12)
    refine own_callV X70 hx hZ hown (hw _ (List.mem_of_getElem? (i := 9) rfl)) (hw _ (List.mem_of_getElem? (i := 10) rfl)) (hw _ (List.mem_of_getElem? (i := 12) rfl)) (hw _ (List.mem_of_getElem? (i := 11) rfl)) (hw _ (List.mem_of_getElem? (i := 13) rfl)) (hw _ (List.mem_of_getElem? (i := 7) rfl)) (by decide) Ek3_72 (rm2 l Z a0 hw [] k3 k10 k8 k9 k2 h12 n0 Zs69 ScomexampleusciousciocorePrimitiveKind_DELETE_68 ScomexampleusciousciocorePrimitiveKind_REPLACE_NODE_66 ScomexampleusciousciocorePrimitiveKind_REPLACE_ELEMENT_CONTENT_67 ScomexampleusciousciocorePrimitiveKind_REPLACE_VALUE_60) e70 (hb hby at_68) pd___Z rfl (by rw [hml]; rfl) (st := []) rfl 0 (Nat.le_of_eq rfl) (by decide) (by decide) (by decide) (by decide) 71 rfl ?_
    intro T71 v71 L71 X71 hQ71
    obtain ⟨rfl, N71q, e71⟩ := hQ71
    have N71 := Fr.app N70 N71q
    show OwnW p e below (OwnG s (Q0 Z i0 k0 k1 k2 k3 k4 k5 k6 k7 k8 k9 k10 h0 n0) room_1.cells room_1.slots) (T71.setTop (mkF m 71 #[.val (.int i0), .val (.int (3 : Int32)), .val (.ref b1), .val (.ref k3)] [(.int (own_rem k3 k10 k8 k9 k2))]))
    refine own_aloadN X71 hx (hb hby at_71) rfl rfl 72 rfl ?_
    refine own_iloadN X71 hx (hb hby at_72) rfl 73 rfl ?_
    refine own_ldZ X71 hx hZ e71 V12 ⟨by decide, by decide⟩ (.int (0 : Int32)) rfl (hb hby at_73) 74 rfl ?_
    have hc74 : (own_rem k3 k10 k8 k9 k2) = (0 : Int32) := by rw [own_rem, if_neg (Fld.ne F_ordinal_k3 F_ordinal_k10 (by decide)), if_neg (Fld.ne F_ordinal_k3 F_ordinal_k8 (by decide)), if_neg (Fld.ne F_ordinal_k3 F_ordinal_k9 (by decide)), if_neg (Fld.ne F_ordinal_k3 F_ordinal_k2 (by decide))]
    refine own_icmpN X71 hx (hb hby at_74) (teq hc74).2 77 (by decide) ?_
    refine own_iconst X71 hx (hb hby at_77) (1 : Int32) rfl 78 rfl ?_
    refine own_goto X71 hx (hb hby at_78) 82 (by decide) ?_
    refine own_retZ X71 hx hlk Bd.returns (by decide) (hb hby at_82) (by decide) (by decide) ?_
    show Q0 Z i0 k0 k1 k2 k3 k4 k5 k6 k7 k8 k9 k10 h0 n0 _ T71.heap _
    rw [e71]
    exact ⟨rfl, N71⟩
  · -- case 4
    rw [hk]
    show OwnW p e below (OwnG s (Q0 Z i0 k0 k1 k2 k3 k4 k5 k6 k7 k8 k9 k10 h0 n0) room_1.cells room_1.slots) (T12.setTop (mkF m 62 #[.val (.int i0), .val (.int (4 : Int32)), .val (.ref b1), .unset] []))
    refine own_iloadN X12 hx (hb hby at_62) rfl 63 rfl ?_
    have ScomexampleusciousciocorePrimitiveKind_INSERT_INTO_73 := ((((((((((((S_INSERT_INTO.ext E1).wr W2).wr W3).wr W4).wr W5).wr W6).wr W7).wr W8).wr W9).wr W10).wr W11).wr W12)
    have ScomexampleusciousciocorePrimitiveKind_INSERT_ATTRIBUTES_74 := ((((((((((((S_INSERT_ATTRIBUTES.ext E1).wr W2).wr W3).wr W4).wr W5).wr W6).wr W7).wr W8).wr W9).wr W10).wr W11).wr W12)
    have ScomexampleusciousciocorePrimitiveKind_REPLACE_VALUE_75 := ((((((((((((S_REPLACE_VALUE.ext E1).wr W2).wr W3).wr W4).wr W5).wr W6).wr W7).wr W8).wr W9).wr W10).wr W11).wr W12)
    have ScomexampleusciousciocorePrimitiveKind_RENAME_76 := ((((((((((((S_RENAME.ext E1).wr W2).wr W3).wr W4).wr W5).wr W6).wr W7).wr W8).wr W9).wr W10).wr W11).wr W12)
    have ScomexampleusciousciocorePrimitiveKind_INSERT_BEFORE_77 := ((((((((((((S_INSERT_BEFORE.ext E1).wr W2).wr W3).wr W4).wr W5).wr W6).wr W7).wr W8).wr W9).wr W10).wr W11).wr W12)
    have ScomexampleusciousciocorePrimitiveKind_INSERT_AFTER_78 := ((((((((((((S_INSERT_AFTER.ext E1).wr W2).wr W3).wr W4).wr W5).wr W6).wr W7).wr W8).wr W9).wr W10).wr W11).wr W12)
    have ScomexampleusciousciocorePrimitiveKind_INSERT_INTO_AS_FIRST_79 := ((((((((((((S_INSERT_INTO_AS_FIRST.ext E1).wr W2).wr W3).wr W4).wr W5).wr W6).wr W7).wr W8).wr W9).wr W10).wr W11).wr W12)
    have ScomexampleusciousciocorePrimitiveKind_INSERT_INTO_AS_LAST_80 := ((((((((((((S_INSERT_INTO_AS_LAST.ext E1).wr W2).wr W3).wr W4).wr W5).wr W6).wr W7).wr W8).wr W9).wr W10).wr W11).wr W12)
    have ScomexampleusciousciocorePrimitiveKind_REPLACE_NODE_81 := ((((((((((((S_REPLACE_NODE.ext E1).wr W2).wr W3).wr W4).wr W5).wr W6).wr W7).wr W8).wr W9).wr W10).wr W11).wr W12)
    have ScomexampleusciousciocorePrimitiveKind_REPLACE_ELEMENT_CONTENT_82 := ((((((((((((S_REPLACE_ELEMENT_CONTENT.ext E1).wr W2).wr W3).wr W4).wr W5).wr W6).wr W7).wr W8).wr W9).wr W10).wr W11).wr W12)
    have ScomexampleusciousciocorePrimitiveKind_DELETE_83 := ((((((((((((S_DELETE.ext E1).wr W2).wr W3).wr W4).wr W5).wr W6).wr W7).wr W8).wr W9).wr W10).wr W11).wr W12)
    have Zs84 : n0 ≤ h12.size := (Nat.le_trans (Nat.le_trans (Nat.le_trans (Nat.le_trans (Nat.le_trans (Nat.le_trans (Nat.le_trans (Nat.le_trans (Nat.le_trans (Nat.le_trans (Nat.le_trans (Nat.le_trans Z0 E1.1) (Keep.of_wr W2).1) (Keep.of_wr W3).1) (Keep.of_wr W4).1) (Keep.of_wr W5).1) (Keep.of_wr W6).1) (Keep.of_wr W7).1) (Keep.of_wr W8).1) (Keep.of_wr W9).1) (Keep.of_wr W10).1) (Keep.of_wr W11).1) (Keep.of_wr W12).1)
    refine own_callS X12 hx hZ hown (hw _ (List.mem_of_getElem? (i := 2) rfl)) (hw _ (List.mem_of_getElem? (i := 3) rfl)) (hw _ (List.mem_of_getElem? (i := 5) rfl)) (hw _ (List.mem_of_getElem? (i := 4) rfl)) (by decide) (rm1 l Z a0 hw [] (4 : Int32) k0 k1 k2 k3 k4 k5 k6 k7 k8 k9 k10 h12 n0 Zs84 ScomexampleusciousciocorePrimitiveKind_INSERT_INTO_73 ScomexampleusciousciocorePrimitiveKind_INSERT_ATTRIBUTES_74 ScomexampleusciousciocorePrimitiveKind_REPLACE_VALUE_75 ScomexampleusciousciocorePrimitiveKind_RENAME_76 ScomexampleusciousciocorePrimitiveKind_INSERT_BEFORE_77 ScomexampleusciousciocorePrimitiveKind_INSERT_AFTER_78 ScomexampleusciousciocorePrimitiveKind_INSERT_INTO_AS_FIRST_79 ScomexampleusciousciocorePrimitiveKind_INSERT_INTO_AS_LAST_80 ScomexampleusciousciocorePrimitiveKind_REPLACE_NODE_81 ScomexampleusciousciocorePrimitiveKind_REPLACE_ELEMENT_CONTENT_82 ScomexampleusciousciocorePrimitiveKind_DELETE_83) e12 (hb hby at_63) pd__I_Lcom_example_uscio_uscio_core_PrimitiveKind_ rfl (by rw [hml]; rfl) (st := []) rfl 0 (Nat.le_of_eq rfl) (by decide) (by decide) (by decide) (by decide) 66 rfl ?_
    intro T85 v85 L85 X85 hQ85
    obtain ⟨rfl, N85q, e85⟩ := hQ85
    have N85 := Fr.app N12 N85q
    show OwnW p e below (OwnG s (Q0 Z i0 k0 k1 k2 k3 k4 k5 k6 k7 k8 k9 k10 h0 n0) room_1.cells room_1.slots) (T85.setTop (mkF m 66 #[.val (.int i0), .val (.int (4 : Int32)), .val (.ref b1), .unset] [(.ref (own_kind (4 : Int32) k0 k1 k2 k3 k4 k5 k6 k7 k8 k9 k10))]))
    rw [show own_kind (4 : Int32) k0 k1 k2 k3 k4 k5 k6 k7 k8 k9 k10 = k4 from by rw [own_kind, if_neg (by decide), if_neg (by decide), if_neg (by decide), if_neg (by decide), if_pos rfl]]
    refine own_astoreN X85 hx (hb hby at_66) rfl #[.val (.int i0), .val (.int (4 : Int32)), .val (.ref b1), .val (.ref k4)] rfl 67 rfl ?_
    refine own_aloadN X85 hx (hb hby at_67) rfl rfl 68 rfl ?_
    have Ek4_87 := ((((((((((((E_k4.ext E1).wr W2).wr W3).wr W4).wr W5).wr W6).wr W7).wr W8).wr W9).wr W10).wr W11).wr W12)
    refine own_callV X85 hx hZ hown (hw _ (List.mem_of_getElem? (i := 9) rfl)) (hw _ (List.mem_of_getElem? (i := 10) rfl)) (hw _ (List.mem_of_getElem? (i := 12) rfl)) (hw _ (List.mem_of_getElem? (i := 11) rfl)) (hw _ (List.mem_of_getElem? (i := 13) rfl)) (hw _ (List.mem_of_getElem? (i := 7) rfl)) (by decide) Ek4_87 (rm2 l Z a0 hw [] k4 k10 k8 k9 k2 h12 n0 Zs84 ScomexampleusciousciocorePrimitiveKind_DELETE_83 ScomexampleusciousciocorePrimitiveKind_REPLACE_NODE_81 ScomexampleusciousciocorePrimitiveKind_REPLACE_ELEMENT_CONTENT_82 ScomexampleusciousciocorePrimitiveKind_REPLACE_VALUE_75) e85 (hb hby at_68) pd___Z rfl (by rw [hml]; rfl) (st := []) rfl 0 (Nat.le_of_eq rfl) (by decide) (by decide) (by decide) (by decide) 71 rfl ?_
    intro T86 v86 L86 X86 hQ86
    obtain ⟨rfl, N86q, e86⟩ := hQ86
    have N86 := Fr.app N85 N86q
    show OwnW p e below (OwnG s (Q0 Z i0 k0 k1 k2 k3 k4 k5 k6 k7 k8 k9 k10 h0 n0) room_1.cells room_1.slots) (T86.setTop (mkF m 71 #[.val (.int i0), .val (.int (4 : Int32)), .val (.ref b1), .val (.ref k4)] [(.int (own_rem k4 k10 k8 k9 k2))]))
    refine own_aloadN X86 hx (hb hby at_71) rfl rfl 72 rfl ?_
    refine own_iloadN X86 hx (hb hby at_72) rfl 73 rfl ?_
    refine own_ldZ X86 hx hZ e86 V12 ⟨by decide, by decide⟩ (.int (0 : Int32)) rfl (hb hby at_73) 74 rfl ?_
    have hc74 : (own_rem k4 k10 k8 k9 k2) = (0 : Int32) := by rw [own_rem, if_neg (Fld.ne F_ordinal_k4 F_ordinal_k10 (by decide)), if_neg (Fld.ne F_ordinal_k4 F_ordinal_k8 (by decide)), if_neg (Fld.ne F_ordinal_k4 F_ordinal_k9 (by decide)), if_neg (Fld.ne F_ordinal_k4 F_ordinal_k2 (by decide))]
    refine own_icmpN X86 hx (hb hby at_74) (teq hc74).2 77 (by decide) ?_
    refine own_iconst X86 hx (hb hby at_77) (1 : Int32) rfl 78 rfl ?_
    refine own_goto X86 hx (hb hby at_78) 82 (by decide) ?_
    refine own_retZ X86 hx hlk Bd.returns (by decide) (hb hby at_82) (by decide) (by decide) ?_
    show Q0 Z i0 k0 k1 k2 k3 k4 k5 k6 k7 k8 k9 k10 h0 n0 _ T86.heap _
    rw [e86]
    exact ⟨rfl, N86⟩
  · -- case 5
    rw [hk]
    show OwnW p e below (OwnG s (Q0 Z i0 k0 k1 k2 k3 k4 k5 k6 k7 k8 k9 k10 h0 n0) room_1.cells room_1.slots) (T12.setTop (mkF m 62 #[.val (.int i0), .val (.int (5 : Int32)), .val (.ref b1), .unset] []))
    refine own_iloadN X12 hx (hb hby at_62) rfl 63 rfl ?_
    have ScomexampleusciousciocorePrimitiveKind_INSERT_INTO_88 := ((((((((((((S_INSERT_INTO.ext E1).wr W2).wr W3).wr W4).wr W5).wr W6).wr W7).wr W8).wr W9).wr W10).wr W11).wr W12)
    have ScomexampleusciousciocorePrimitiveKind_INSERT_ATTRIBUTES_89 := ((((((((((((S_INSERT_ATTRIBUTES.ext E1).wr W2).wr W3).wr W4).wr W5).wr W6).wr W7).wr W8).wr W9).wr W10).wr W11).wr W12)
    have ScomexampleusciousciocorePrimitiveKind_REPLACE_VALUE_90 := ((((((((((((S_REPLACE_VALUE.ext E1).wr W2).wr W3).wr W4).wr W5).wr W6).wr W7).wr W8).wr W9).wr W10).wr W11).wr W12)
    have ScomexampleusciousciocorePrimitiveKind_RENAME_91 := ((((((((((((S_RENAME.ext E1).wr W2).wr W3).wr W4).wr W5).wr W6).wr W7).wr W8).wr W9).wr W10).wr W11).wr W12)
    have ScomexampleusciousciocorePrimitiveKind_INSERT_BEFORE_92 := ((((((((((((S_INSERT_BEFORE.ext E1).wr W2).wr W3).wr W4).wr W5).wr W6).wr W7).wr W8).wr W9).wr W10).wr W11).wr W12)
    have ScomexampleusciousciocorePrimitiveKind_INSERT_AFTER_93 := ((((((((((((S_INSERT_AFTER.ext E1).wr W2).wr W3).wr W4).wr W5).wr W6).wr W7).wr W8).wr W9).wr W10).wr W11).wr W12)
    have ScomexampleusciousciocorePrimitiveKind_INSERT_INTO_AS_FIRST_94 := ((((((((((((S_INSERT_INTO_AS_FIRST.ext E1).wr W2).wr W3).wr W4).wr W5).wr W6).wr W7).wr W8).wr W9).wr W10).wr W11).wr W12)
    have ScomexampleusciousciocorePrimitiveKind_INSERT_INTO_AS_LAST_95 := ((((((((((((S_INSERT_INTO_AS_LAST.ext E1).wr W2).wr W3).wr W4).wr W5).wr W6).wr W7).wr W8).wr W9).wr W10).wr W11).wr W12)
    have ScomexampleusciousciocorePrimitiveKind_REPLACE_NODE_96 := ((((((((((((S_REPLACE_NODE.ext E1).wr W2).wr W3).wr W4).wr W5).wr W6).wr W7).wr W8).wr W9).wr W10).wr W11).wr W12)
    have ScomexampleusciousciocorePrimitiveKind_REPLACE_ELEMENT_CONTENT_97 := ((((((((((((S_REPLACE_ELEMENT_CONTENT.ext E1).wr W2).wr W3).wr W4).wr W5).wr W6).wr W7).wr W8).wr W9).wr W10).wr W11).wr W12)
    have ScomexampleusciousciocorePrimitiveKind_DELETE_98 := ((((((((((((S_DELETE.ext E1).wr W2).wr W3).wr W4).wr W5).wr W6).wr W7).wr W8).wr W9).wr W10).wr W11).wr W12)
    have Zs99 : n0 ≤ h12.size := (Nat.le_trans (Nat.le_trans (Nat.le_trans (Nat.le_trans (Nat.le_trans (Nat.le_trans (Nat.le_trans (Nat.le_trans (Nat.le_trans (Nat.le_trans (Nat.le_trans (Nat.le_trans Z0 E1.1) (Keep.of_wr W2).1) (Keep.of_wr W3).1) (Keep.of_wr W4).1) (Keep.of_wr W5).1) (Keep.of_wr W6).1) (Keep.of_wr W7).1) (Keep.of_wr W8).1) (Keep.of_wr W9).1) (Keep.of_wr W10).1) (Keep.of_wr W11).1) (Keep.of_wr W12).1)
    refine own_callS X12 hx hZ hown (hw _ (List.mem_of_getElem? (i := 2) rfl)) (hw _ (List.mem_of_getElem? (i := 3) rfl)) (hw _ (List.mem_of_getElem? (i := 5) rfl)) (hw _ (List.mem_of_getElem? (i := 4) rfl)) (by decide) (rm1 l Z a0 hw [] (5 : Int32) k0 k1 k2 k3 k4 k5 k6 k7 k8 k9 k10 h12 n0 Zs99 ScomexampleusciousciocorePrimitiveKind_INSERT_INTO_88 ScomexampleusciousciocorePrimitiveKind_INSERT_ATTRIBUTES_89 ScomexampleusciousciocorePrimitiveKind_REPLACE_VALUE_90 ScomexampleusciousciocorePrimitiveKind_RENAME_91 ScomexampleusciousciocorePrimitiveKind_INSERT_BEFORE_92 ScomexampleusciousciocorePrimitiveKind_INSERT_AFTER_93 ScomexampleusciousciocorePrimitiveKind_INSERT_INTO_AS_FIRST_94 ScomexampleusciousciocorePrimitiveKind_INSERT_INTO_AS_LAST_95 ScomexampleusciousciocorePrimitiveKind_REPLACE_NODE_96 ScomexampleusciousciocorePrimitiveKind_REPLACE_ELEMENT_CONTENT_97 ScomexampleusciousciocorePrimitiveKind_DELETE_98) e12 (hb hby at_63) pd__I_Lcom_example_uscio_uscio_core_PrimitiveKind_ rfl (by rw [hml]; rfl) (st := []) rfl 0 (Nat.le_of_eq rfl) (by decide) (by decide) (by decide) (by decide) 66 rfl ?_
    intro T100 v100 L100 X100 hQ100
    obtain ⟨rfl, N100q, e100⟩ := hQ100
    have N100 := Fr.app N12 N100q
    show OwnW p e below (OwnG s (Q0 Z i0 k0 k1 k2 k3 k4 k5 k6 k7 k8 k9 k10 h0 n0) room_1.cells room_1.slots) (T100.setTop (mkF m 66 #[.val (.int i0), .val (.int (5 : Int32)), .val (.ref b1), .unset] [(.ref (own_kind (5 : Int32) k0 k1 k2 k3 k4 k5 k6 k7 k8 k9 k10))]))
    rw [show own_kind (5 : Int32) k0 k1 k2 k3 k4 k5 k6 k7 k8 k9 k10 = k5 from by rw [own_kind, if_neg (by decide), if_neg (by decide), if_neg (by decide), if_neg (by decide), if_neg (by decide), if_pos rfl]]
    refine own_astoreN X100 hx (hb hby at_66) rfl #[.val (.int i0), .val (.int (5 : Int32)), .val (.ref b1), .val (.ref k5)] rfl 67 rfl ?_
    refine own_aloadN X100 hx (hb hby at_67) rfl rfl 68 rfl ?_
    have Ek5_102 := ((((((((((((E_k5.ext E1).wr W2).wr W3).wr W4).wr W5).wr W6).wr W7).wr W8).wr W9).wr W10).wr W11).wr W12)
    refine own_callV X100 hx hZ hown (hw _ (List.mem_of_getElem? (i := 9) rfl)) (hw _ (List.mem_of_getElem? (i := 10) rfl)) (hw _ (List.mem_of_getElem? (i := 12) rfl)) (hw _ (List.mem_of_getElem? (i := 11) rfl)) (hw _ (List.mem_of_getElem? (i := 13) rfl)) (hw _ (List.mem_of_getElem? (i := 7) rfl)) (by decide) Ek5_102 (rm2 l Z a0 hw [] k5 k10 k8 k9 k2 h12 n0 Zs99 ScomexampleusciousciocorePrimitiveKind_DELETE_98 ScomexampleusciousciocorePrimitiveKind_REPLACE_NODE_96 ScomexampleusciousciocorePrimitiveKind_REPLACE_ELEMENT_CONTENT_97 ScomexampleusciousciocorePrimitiveKind_REPLACE_VALUE_90) e100 (hb hby at_68) pd___Z rfl (by rw [hml]; rfl) (st := []) rfl 0 (Nat.le_of_eq rfl) (by decide) (by decide) (by decide) (by decide) 71 rfl ?_
    intro T101 v101 L101 X101 hQ101
    obtain ⟨rfl, N101q, e101⟩ := hQ101
    have N101 := Fr.app N100 N101q
    show OwnW p e below (OwnG s (Q0 Z i0 k0 k1 k2 k3 k4 k5 k6 k7 k8 k9 k10 h0 n0) room_1.cells room_1.slots) (T101.setTop (mkF m 71 #[.val (.int i0), .val (.int (5 : Int32)), .val (.ref b1), .val (.ref k5)] [(.int (own_rem k5 k10 k8 k9 k2))]))
    refine own_aloadN X101 hx (hb hby at_71) rfl rfl 72 rfl ?_
    refine own_iloadN X101 hx (hb hby at_72) rfl 73 rfl ?_
    refine own_ldZ X101 hx hZ e101 V12 ⟨by decide, by decide⟩ (.int (0 : Int32)) rfl (hb hby at_73) 74 rfl ?_
    have hc74 : (own_rem k5 k10 k8 k9 k2) = (0 : Int32) := by rw [own_rem, if_neg (Fld.ne F_ordinal_k5 F_ordinal_k10 (by decide)), if_neg (Fld.ne F_ordinal_k5 F_ordinal_k8 (by decide)), if_neg (Fld.ne F_ordinal_k5 F_ordinal_k9 (by decide)), if_neg (Fld.ne F_ordinal_k5 F_ordinal_k2 (by decide))]
    refine own_icmpN X101 hx (hb hby at_74) (teq hc74).2 77 (by decide) ?_
    refine own_iconst X101 hx (hb hby at_77) (1 : Int32) rfl 78 rfl ?_
    refine own_goto X101 hx (hb hby at_78) 82 (by decide) ?_
    refine own_retZ X101 hx hlk Bd.returns (by decide) (hb hby at_82) (by decide) (by decide) ?_
    show Q0 Z i0 k0 k1 k2 k3 k4 k5 k6 k7 k8 k9 k10 h0 n0 _ T101.heap _
    rw [e101]
    exact ⟨rfl, N101⟩
  · -- case 6
    rw [hk]
    show OwnW p e below (OwnG s (Q0 Z i0 k0 k1 k2 k3 k4 k5 k6 k7 k8 k9 k10 h0 n0) room_1.cells room_1.slots) (T12.setTop (mkF m 62 #[.val (.int i0), .val (.int (6 : Int32)), .val (.ref b1), .unset] []))
    refine own_iloadN X12 hx (hb hby at_62) rfl 63 rfl ?_
    have ScomexampleusciousciocorePrimitiveKind_INSERT_INTO_103 := ((((((((((((S_INSERT_INTO.ext E1).wr W2).wr W3).wr W4).wr W5).wr W6).wr W7).wr W8).wr W9).wr W10).wr W11).wr W12)
    have ScomexampleusciousciocorePrimitiveKind_INSERT_ATTRIBUTES_104 := ((((((((((((S_INSERT_ATTRIBUTES.ext E1).wr W2).wr W3).wr W4).wr W5).wr W6).wr W7).wr W8).wr W9).wr W10).wr W11).wr W12)
    have ScomexampleusciousciocorePrimitiveKind_REPLACE_VALUE_105 := ((((((((((((S_REPLACE_VALUE.ext E1).wr W2).wr W3).wr W4).wr W5).wr W6).wr W7).wr W8).wr W9).wr W10).wr W11).wr W12)
    have ScomexampleusciousciocorePrimitiveKind_RENAME_106 := ((((((((((((S_RENAME.ext E1).wr W2).wr W3).wr W4).wr W5).wr W6).wr W7).wr W8).wr W9).wr W10).wr W11).wr W12)
    have ScomexampleusciousciocorePrimitiveKind_INSERT_BEFORE_107 := ((((((((((((S_INSERT_BEFORE.ext E1).wr W2).wr W3).wr W4).wr W5).wr W6).wr W7).wr W8).wr W9).wr W10).wr W11).wr W12)
    have ScomexampleusciousciocorePrimitiveKind_INSERT_AFTER_108 := ((((((((((((S_INSERT_AFTER.ext E1).wr W2).wr W3).wr W4).wr W5).wr W6).wr W7).wr W8).wr W9).wr W10).wr W11).wr W12)
    have ScomexampleusciousciocorePrimitiveKind_INSERT_INTO_AS_FIRST_109 := ((((((((((((S_INSERT_INTO_AS_FIRST.ext E1).wr W2).wr W3).wr W4).wr W5).wr W6).wr W7).wr W8).wr W9).wr W10).wr W11).wr W12)
    have ScomexampleusciousciocorePrimitiveKind_INSERT_INTO_AS_LAST_110 := ((((((((((((S_INSERT_INTO_AS_LAST.ext E1).wr W2).wr W3).wr W4).wr W5).wr W6).wr W7).wr W8).wr W9).wr W10).wr W11).wr W12)
    have ScomexampleusciousciocorePrimitiveKind_REPLACE_NODE_111 := ((((((((((((S_REPLACE_NODE.ext E1).wr W2).wr W3).wr W4).wr W5).wr W6).wr W7).wr W8).wr W9).wr W10).wr W11).wr W12)
    have ScomexampleusciousciocorePrimitiveKind_REPLACE_ELEMENT_CONTENT_112 := ((((((((((((S_REPLACE_ELEMENT_CONTENT.ext E1).wr W2).wr W3).wr W4).wr W5).wr W6).wr W7).wr W8).wr W9).wr W10).wr W11).wr W12)
    have ScomexampleusciousciocorePrimitiveKind_DELETE_113 := ((((((((((((S_DELETE.ext E1).wr W2).wr W3).wr W4).wr W5).wr W6).wr W7).wr W8).wr W9).wr W10).wr W11).wr W12)
    have Zs114 : n0 ≤ h12.size := (Nat.le_trans (Nat.le_trans (Nat.le_trans (Nat.le_trans (Nat.le_trans (Nat.le_trans (Nat.le_trans (Nat.le_trans (Nat.le_trans (Nat.le_trans (Nat.le_trans (Nat.le_trans Z0 E1.1) (Keep.of_wr W2).1) (Keep.of_wr W3).1) (Keep.of_wr W4).1) (Keep.of_wr W5).1) (Keep.of_wr W6).1) (Keep.of_wr W7).1) (Keep.of_wr W8).1) (Keep.of_wr W9).1) (Keep.of_wr W10).1) (Keep.of_wr W11).1) (Keep.of_wr W12).1)
    refine own_callS X12 hx hZ hown (hw _ (List.mem_of_getElem? (i := 2) rfl)) (hw _ (List.mem_of_getElem? (i := 3) rfl)) (hw _ (List.mem_of_getElem? (i := 5) rfl)) (hw _ (List.mem_of_getElem? (i := 4) rfl)) (by decide) (rm1 l Z a0 hw [] (6 : Int32) k0 k1 k2 k3 k4 k5 k6 k7 k8 k9 k10 h12 n0 Zs114 ScomexampleusciousciocorePrimitiveKind_INSERT_INTO_103 ScomexampleusciousciocorePrimitiveKind_INSERT_ATTRIBUTES_104 ScomexampleusciousciocorePrimitiveKind_REPLACE_VALUE_105 ScomexampleusciousciocorePrimitiveKind_RENAME_106 ScomexampleusciousciocorePrimitiveKind_INSERT_BEFORE_107 ScomexampleusciousciocorePrimitiveKind_INSERT_AFTER_108 ScomexampleusciousciocorePrimitiveKind_INSERT_INTO_AS_FIRST_109 ScomexampleusciousciocorePrimitiveKind_INSERT_INTO_AS_LAST_110 ScomexampleusciousciocorePrimitiveKind_REPLACE_NODE_111 ScomexampleusciousciocorePrimitiveKind_REPLACE_ELEMENT_CONTENT_112 ScomexampleusciousciocorePrimitiveKind_DELETE_113) e12 (hb hby at_63) pd__I_Lcom_example_uscio_uscio_core_PrimitiveKind_ rfl (by rw [hml]; rfl) (st := []) rfl 0 (Nat.le_of_eq rfl) (by decide) (by decide) (by decide) (by decide) 66 rfl ?_
    intro T115 v115 L115 X115 hQ115
    obtain ⟨rfl, N115q, e115⟩ := hQ115
    have N115 := Fr.app N12 N115q
    show OwnW p e below (OwnG s (Q0 Z i0 k0 k1 k2 k3 k4 k5 k6 k7 k8 k9 k10 h0 n0) room_1.cells room_1.slots) (T115.setTop (mkF m 66 #[.val (.int i0), .val (.int (6 : Int32)), .val (.ref b1), .unset] [(.ref (own_kind (6 : Int32) k0 k1 k2 k3 k4 k5 k6 k7 k8 k9 k10))]))
    rw [show own_kind (6 : Int32) k0 k1 k2 k3 k4 k5 k6 k7 k8 k9 k10 = k6 from by rw [own_kind, if_neg (by decide), if_neg (by decide), if_neg (by decide), if_neg (by decide), if_neg (by decide), if_neg (by decide), if_pos rfl]]
    refine own_astoreN X115 hx (hb hby at_66) rfl #[.val (.int i0), .val (.int (6 : Int32)), .val (.ref b1), .val (.ref k6)] rfl 67 rfl ?_
    refine own_aloadN X115 hx (hb hby at_67) rfl rfl 68 rfl ?_
    have Ek6_117 := ((((((((((((E_k6.ext E1).wr W2).wr W3).wr W4).wr W5).wr W6).wr W7).wr W8).wr W9).wr W10).wr W11).wr W12)
    refine own_callV X115 hx hZ hown (hw _ (List.mem_of_getElem? (i := 9) rfl)) (hw _ (List.mem_of_getElem? (i := 10) rfl)) (hw _ (List.mem_of_getElem? (i := 12) rfl)) (hw _ (List.mem_of_getElem? (i := 11) rfl)) (hw _ (List.mem_of_getElem? (i := 13) rfl)) (hw _ (List.mem_of_getElem? (i := 7) rfl)) (by decide) Ek6_117 (rm2 l Z a0 hw [] k6 k10 k8 k9 k2 h12 n0 Zs114 ScomexampleusciousciocorePrimitiveKind_DELETE_113 ScomexampleusciousciocorePrimitiveKind_REPLACE_NODE_111 ScomexampleusciousciocorePrimitiveKind_REPLACE_ELEMENT_CONTENT_112 ScomexampleusciousciocorePrimitiveKind_REPLACE_VALUE_105) e115 (hb hby at_68) pd___Z rfl (by rw [hml]; rfl) (st := []) rfl 0 (Nat.le_of_eq rfl) (by decide) (by decide) (by decide) (by decide) 71 rfl ?_
    intro T116 v116 L116 X116 hQ116
    obtain ⟨rfl, N116q, e116⟩ := hQ116
    have N116 := Fr.app N115 N116q
    show OwnW p e below (OwnG s (Q0 Z i0 k0 k1 k2 k3 k4 k5 k6 k7 k8 k9 k10 h0 n0) room_1.cells room_1.slots) (T116.setTop (mkF m 71 #[.val (.int i0), .val (.int (6 : Int32)), .val (.ref b1), .val (.ref k6)] [(.int (own_rem k6 k10 k8 k9 k2))]))
    refine own_aloadN X116 hx (hb hby at_71) rfl rfl 72 rfl ?_
    refine own_iloadN X116 hx (hb hby at_72) rfl 73 rfl ?_
    refine own_ldZ X116 hx hZ e116 V12 ⟨by decide, by decide⟩ (.int (0 : Int32)) rfl (hb hby at_73) 74 rfl ?_
    have hc74 : (own_rem k6 k10 k8 k9 k2) = (0 : Int32) := by rw [own_rem, if_neg (Fld.ne F_ordinal_k6 F_ordinal_k10 (by decide)), if_neg (Fld.ne F_ordinal_k6 F_ordinal_k8 (by decide)), if_neg (Fld.ne F_ordinal_k6 F_ordinal_k9 (by decide)), if_neg (Fld.ne F_ordinal_k6 F_ordinal_k2 (by decide))]
    refine own_icmpN X116 hx (hb hby at_74) (teq hc74).2 77 (by decide) ?_
    refine own_iconst X116 hx (hb hby at_77) (1 : Int32) rfl 78 rfl ?_
    refine own_goto X116 hx (hb hby at_78) 82 (by decide) ?_
    refine own_retZ X116 hx hlk Bd.returns (by decide) (hb hby at_82) (by decide) (by decide) ?_
    show Q0 Z i0 k0 k1 k2 k3 k4 k5 k6 k7 k8 k9 k10 h0 n0 _ T116.heap _
    rw [e116]
    exact ⟨rfl, N116⟩
  · -- case 7
    rw [hk]
    show OwnW p e below (OwnG s (Q0 Z i0 k0 k1 k2 k3 k4 k5 k6 k7 k8 k9 k10 h0 n0) room_1.cells room_1.slots) (T12.setTop (mkF m 62 #[.val (.int i0), .val (.int (7 : Int32)), .val (.ref b1), .unset] []))
    refine own_iloadN X12 hx (hb hby at_62) rfl 63 rfl ?_
    have ScomexampleusciousciocorePrimitiveKind_INSERT_INTO_118 := ((((((((((((S_INSERT_INTO.ext E1).wr W2).wr W3).wr W4).wr W5).wr W6).wr W7).wr W8).wr W9).wr W10).wr W11).wr W12)
    have ScomexampleusciousciocorePrimitiveKind_INSERT_ATTRIBUTES_119 := ((((((((((((S_INSERT_ATTRIBUTES.ext E1).wr W2).wr W3).wr W4).wr W5).wr W6).wr W7).wr W8).wr W9).wr W10).wr W11).wr W12)
    have ScomexampleusciousciocorePrimitiveKind_REPLACE_VALUE_120 := ((((((((((((S_REPLACE_VALUE.ext E1).wr W2).wr W3).wr W4).wr W5).wr W6).wr W7).wr W8).wr W9).wr W10).wr W11).wr W12)
    have ScomexampleusciousciocorePrimitiveKind_RENAME_121 := ((((((((((((S_RENAME.ext E1).wr W2).wr W3).wr W4).wr W5).wr W6).wr W7).wr W8).wr W9).wr W10).wr W11).wr W12)
    have ScomexampleusciousciocorePrimitiveKind_INSERT_BEFORE_122 := ((((((((((((S_INSERT_BEFORE.ext E1).wr W2).wr W3).wr W4).wr W5).wr W6).wr W7).wr W8).wr W9).wr W10).wr W11).wr W12)
    have ScomexampleusciousciocorePrimitiveKind_INSERT_AFTER_123 := ((((((((((((S_INSERT_AFTER.ext E1).wr W2).wr W3).wr W4).wr W5).wr W6).wr W7).wr W8).wr W9).wr W10).wr W11).wr W12)
    have ScomexampleusciousciocorePrimitiveKind_INSERT_INTO_AS_FIRST_124 := ((((((((((((S_INSERT_INTO_AS_FIRST.ext E1).wr W2).wr W3).wr W4).wr W5).wr W6).wr W7).wr W8).wr W9).wr W10).wr W11).wr W12)
    have ScomexampleusciousciocorePrimitiveKind_INSERT_INTO_AS_LAST_125 := ((((((((((((S_INSERT_INTO_AS_LAST.ext E1).wr W2).wr W3).wr W4).wr W5).wr W6).wr W7).wr W8).wr W9).wr W10).wr W11).wr W12)
    have ScomexampleusciousciocorePrimitiveKind_REPLACE_NODE_126 := ((((((((((((S_REPLACE_NODE.ext E1).wr W2).wr W3).wr W4).wr W5).wr W6).wr W7).wr W8).wr W9).wr W10).wr W11).wr W12)
    have ScomexampleusciousciocorePrimitiveKind_REPLACE_ELEMENT_CONTENT_127 := ((((((((((((S_REPLACE_ELEMENT_CONTENT.ext E1).wr W2).wr W3).wr W4).wr W5).wr W6).wr W7).wr W8).wr W9).wr W10).wr W11).wr W12)
    have ScomexampleusciousciocorePrimitiveKind_DELETE_128 := ((((((((((((S_DELETE.ext E1).wr W2).wr W3).wr W4).wr W5).wr W6).wr W7).wr W8).wr W9).wr W10).wr W11).wr W12)
    have Zs129 : n0 ≤ h12.size := (Nat.le_trans (Nat.le_trans (Nat.le_trans (Nat.le_trans (Nat.le_trans (Nat.le_trans (Nat.le_trans (Nat.le_trans (Nat.le_trans (Nat.le_trans (Nat.le_trans (Nat.le_trans Z0 E1.1) (Keep.of_wr W2).1) (Keep.of_wr W3).1) (Keep.of_wr W4).1) (Keep.of_wr W5).1) (Keep.of_wr W6).1) (Keep.of_wr W7).1) (Keep.of_wr W8).1) (Keep.of_wr W9).1) (Keep.of_wr W10).1) (Keep.of_wr W11).1) (Keep.of_wr W12).1)
    refine own_callS X12 hx hZ hown (hw _ (List.mem_of_getElem? (i := 2) rfl)) (hw _ (List.mem_of_getElem? (i := 3) rfl)) (hw _ (List.mem_of_getElem? (i := 5) rfl)) (hw _ (List.mem_of_getElem? (i := 4) rfl)) (by decide) (rm1 l Z a0 hw [] (7 : Int32) k0 k1 k2 k3 k4 k5 k6 k7 k8 k9 k10 h12 n0 Zs129 ScomexampleusciousciocorePrimitiveKind_INSERT_INTO_118 ScomexampleusciousciocorePrimitiveKind_INSERT_ATTRIBUTES_119 ScomexampleusciousciocorePrimitiveKind_REPLACE_VALUE_120 ScomexampleusciousciocorePrimitiveKind_RENAME_121 ScomexampleusciousciocorePrimitiveKind_INSERT_BEFORE_122 ScomexampleusciousciocorePrimitiveKind_INSERT_AFTER_123 ScomexampleusciousciocorePrimitiveKind_INSERT_INTO_AS_FIRST_124 ScomexampleusciousciocorePrimitiveKind_INSERT_INTO_AS_LAST_125 ScomexampleusciousciocorePrimitiveKind_REPLACE_NODE_126 ScomexampleusciousciocorePrimitiveKind_REPLACE_ELEMENT_CONTENT_127 ScomexampleusciousciocorePrimitiveKind_DELETE_128) e12 (hb hby at_63) pd__I_Lcom_example_uscio_uscio_core_PrimitiveKind_ rfl (by rw [hml]; rfl) (st := []) rfl 0 (Nat.le_of_eq rfl) (by decide) (by decide) (by decide) (by decide) 66 rfl ?_
    intro T130 v130 L130 X130 hQ130
    obtain ⟨rfl, N130q, e130⟩ := hQ130
    have N130 := Fr.app N12 N130q
    show OwnW p e below (OwnG s (Q0 Z i0 k0 k1 k2 k3 k4 k5 k6 k7 k8 k9 k10 h0 n0) room_1.cells room_1.slots) (T130.setTop (mkF m 66 #[.val (.int i0), .val (.int (7 : Int32)), .val (.ref b1), .unset] [(.ref (own_kind (7 : Int32) k0 k1 k2 k3 k4 k5 k6 k7 k8 k9 k10))]))
    rw [show own_kind (7 : Int32) k0 k1 k2 k3 k4 k5 k6 k7 k8 k9 k10 = k7 from by rw [own_kind, if_neg (by decide), if_neg (by decide), if_neg (by decide), if_neg (by decide), if_neg (by decide), if_neg (by decide), if_neg (by decide), if_pos rfl]]
    refine own_astoreN X130 hx (hb hby at_66) rfl #[.val (.int i0), .val (.int (7 : Int32)), .val (.ref b1), .val (.ref k7)] rfl 67 rfl ?_
    refine own_aloadN X130 hx (hb hby at_67) rfl rfl 68 rfl ?_
    have Ek7_132 := ((((((((((((E_k7.ext E1).wr W2).wr W3).wr W4).wr W5).wr W6).wr W7).wr W8).wr W9).wr W10).wr W11).wr W12)
    refine own_callV X130 hx hZ hown (hw _ (List.mem_of_getElem? (i := 9) rfl)) (hw _ (List.mem_of_getElem? (i := 10) rfl)) (hw _ (List.mem_of_getElem? (i := 12) rfl)) (hw _ (List.mem_of_getElem? (i := 11) rfl)) (hw _ (List.mem_of_getElem? (i := 13) rfl)) (hw _ (List.mem_of_getElem? (i := 7) rfl)) (by decide) Ek7_132 (rm2 l Z a0 hw [] k7 k10 k8 k9 k2 h12 n0 Zs129 ScomexampleusciousciocorePrimitiveKind_DELETE_128 ScomexampleusciousciocorePrimitiveKind_REPLACE_NODE_126 ScomexampleusciousciocorePrimitiveKind_REPLACE_ELEMENT_CONTENT_127 ScomexampleusciousciocorePrimitiveKind_REPLACE_VALUE_120) e130 (hb hby at_68) pd___Z rfl (by rw [hml]; rfl) (st := []) rfl 0 (Nat.le_of_eq rfl) (by decide) (by decide) (by decide) (by decide) 71 rfl ?_
    intro T131 v131 L131 X131 hQ131
    obtain ⟨rfl, N131q, e131⟩ := hQ131
    have N131 := Fr.app N130 N131q
    show OwnW p e below (OwnG s (Q0 Z i0 k0 k1 k2 k3 k4 k5 k6 k7 k8 k9 k10 h0 n0) room_1.cells room_1.slots) (T131.setTop (mkF m 71 #[.val (.int i0), .val (.int (7 : Int32)), .val (.ref b1), .val (.ref k7)] [(.int (own_rem k7 k10 k8 k9 k2))]))
    refine own_aloadN X131 hx (hb hby at_71) rfl rfl 72 rfl ?_
    refine own_iloadN X131 hx (hb hby at_72) rfl 73 rfl ?_
    refine own_ldZ X131 hx hZ e131 V12 ⟨by decide, by decide⟩ (.int (0 : Int32)) rfl (hb hby at_73) 74 rfl ?_
    have hc74 : (own_rem k7 k10 k8 k9 k2) = (0 : Int32) := by rw [own_rem, if_neg (Fld.ne F_ordinal_k7 F_ordinal_k10 (by decide)), if_neg (Fld.ne F_ordinal_k7 F_ordinal_k8 (by decide)), if_neg (Fld.ne F_ordinal_k7 F_ordinal_k9 (by decide)), if_neg (Fld.ne F_ordinal_k7 F_ordinal_k2 (by decide))]
    refine own_icmpN X131 hx (hb hby at_74) (teq hc74).2 77 (by decide) ?_
    refine own_iconst X131 hx (hb hby at_77) (1 : Int32) rfl 78 rfl ?_
    refine own_goto X131 hx (hb hby at_78) 82 (by decide) ?_
    refine own_retZ X131 hx hlk Bd.returns (by decide) (hb hby at_82) (by decide) (by decide) ?_
    show Q0 Z i0 k0 k1 k2 k3 k4 k5 k6 k7 k8 k9 k10 h0 n0 _ T131.heap _
    rw [e131]
    exact ⟨rfl, N131⟩
  · -- case 8
    rw [hk]
    show OwnW p e below (OwnG s (Q0 Z i0 k0 k1 k2 k3 k4 k5 k6 k7 k8 k9 k10 h0 n0) room_1.cells room_1.slots) (T12.setTop (mkF m 62 #[.val (.int i0), .val (.int (8 : Int32)), .val (.ref b1), .unset] []))
    refine own_iloadN X12 hx (hb hby at_62) rfl 63 rfl ?_
    have ScomexampleusciousciocorePrimitiveKind_INSERT_INTO_133 := ((((((((((((S_INSERT_INTO.ext E1).wr W2).wr W3).wr W4).wr W5).wr W6).wr W7).wr W8).wr W9).wr W10).wr W11).wr W12)
    have ScomexampleusciousciocorePrimitiveKind_INSERT_ATTRIBUTES_134 := ((((((((((((S_INSERT_ATTRIBUTES.ext E1).wr W2).wr W3).wr W4).wr W5).wr W6).wr W7).wr W8).wr W9).wr W10).wr W11).wr W12)
    have ScomexampleusciousciocorePrimitiveKind_REPLACE_VALUE_135 := ((((((((((((S_REPLACE_VALUE.ext E1).wr W2).wr W3).wr W4).wr W5).wr W6).wr W7).wr W8).wr W9).wr W10).wr W11).wr W12)
    have ScomexampleusciousciocorePrimitiveKind_RENAME_136 := ((((((((((((S_RENAME.ext E1).wr W2).wr W3).wr W4).wr W5).wr W6).wr W7).wr W8).wr W9).wr W10).wr W11).wr W12)
    have ScomexampleusciousciocorePrimitiveKind_INSERT_BEFORE_137 := ((((((((((((S_INSERT_BEFORE.ext E1).wr W2).wr W3).wr W4).wr W5).wr W6).wr W7).wr W8).wr W9).wr W10).wr W11).wr W12)
    have ScomexampleusciousciocorePrimitiveKind_INSERT_AFTER_138 := ((((((((((((S_INSERT_AFTER.ext E1).wr W2).wr W3).wr W4).wr W5).wr W6).wr W7).wr W8).wr W9).wr W10).wr W11).wr W12)
    have ScomexampleusciousciocorePrimitiveKind_INSERT_INTO_AS_FIRST_139 := ((((((((((((S_INSERT_INTO_AS_FIRST.ext E1).wr W2).wr W3).wr W4).wr W5).wr W6).wr W7).wr W8).wr W9).wr W10).wr W11).wr W12)
    have ScomexampleusciousciocorePrimitiveKind_INSERT_INTO_AS_LAST_140 := ((((((((((((S_INSERT_INTO_AS_LAST.ext E1).wr W2).wr W3).wr W4).wr W5).wr W6).wr W7).wr W8).wr W9).wr W10).wr W11).wr W12)
    have ScomexampleusciousciocorePrimitiveKind_REPLACE_NODE_141 := ((((((((((((S_REPLACE_NODE.ext E1).wr W2).wr W3).wr W4).wr W5).wr W6).wr W7).wr W8).wr W9).wr W10).wr W11).wr W12)
    have ScomexampleusciousciocorePrimitiveKind_REPLACE_ELEMENT_CONTENT_142 := ((((((((((((S_REPLACE_ELEMENT_CONTENT.ext E1).wr W2).wr W3).wr W4).wr W5).wr W6).wr W7).wr W8).wr W9).wr W10).wr W11).wr W12)
    have ScomexampleusciousciocorePrimitiveKind_DELETE_143 := ((((((((((((S_DELETE.ext E1).wr W2).wr W3).wr W4).wr W5).wr W6).wr W7).wr W8).wr W9).wr W10).wr W11).wr W12)
    have Zs144 : n0 ≤ h12.size := (Nat.le_trans (Nat.le_trans (Nat.le_trans (Nat.le_trans (Nat.le_trans (Nat.le_trans (Nat.le_trans (Nat.le_trans (Nat.le_trans (Nat.le_trans (Nat.le_trans (Nat.le_trans Z0 E1.1) (Keep.of_wr W2).1) (Keep.of_wr W3).1) (Keep.of_wr W4).1) (Keep.of_wr W5).1) (Keep.of_wr W6).1) (Keep.of_wr W7).1) (Keep.of_wr W8).1) (Keep.of_wr W9).1) (Keep.of_wr W10).1) (Keep.of_wr W11).1) (Keep.of_wr W12).1)
    refine own_callS X12 hx hZ hown (hw _ (List.mem_of_getElem? (i := 2) rfl)) (hw _ (List.mem_of_getElem? (i := 3) rfl)) (hw _ (List.mem_of_getElem? (i := 5) rfl)) (hw _ (List.mem_of_getElem? (i := 4) rfl)) (by decide) (rm1 l Z a0 hw [] (8 : Int32) k0 k1 k2 k3 k4 k5 k6 k7 k8 k9 k10 h12 n0 Zs144 ScomexampleusciousciocorePrimitiveKind_INSERT_INTO_133 ScomexampleusciousciocorePrimitiveKind_INSERT_ATTRIBUTES_134 ScomexampleusciousciocorePrimitiveKind_REPLACE_VALUE_135 ScomexampleusciousciocorePrimitiveKind_RENAME_136 ScomexampleusciousciocorePrimitiveKind_INSERT_BEFORE_137 ScomexampleusciousciocorePrimitiveKind_INSERT_AFTER_138 ScomexampleusciousciocorePrimitiveKind_INSERT_INTO_AS_FIRST_139 ScomexampleusciousciocorePrimitiveKind_INSERT_INTO_AS_LAST_140 ScomexampleusciousciocorePrimitiveKind_REPLACE_NODE_141 ScomexampleusciousciocorePrimitiveKind_REPLACE_ELEMENT_CONTENT_142 ScomexampleusciousciocorePrimitiveKind_DELETE_143) e12 (hb hby at_63) pd__I_Lcom_example_uscio_uscio_core_PrimitiveKind_ rfl (by rw [hml]; rfl) (st := []) rfl 0 (Nat.le_of_eq rfl) (by decide) (by decide) (by decide) (by decide) 66 rfl ?_
    intro T145 v145 L145 X145 hQ145
    obtain ⟨rfl, N145q, e145⟩ := hQ145
    have N145 := Fr.app N12 N145q
    show OwnW p e below (OwnG s (Q0 Z i0 k0 k1 k2 k3 k4 k5 k6 k7 k8 k9 k10 h0 n0) room_1.cells room_1.slots) (T145.setTop (mkF m 66 #[.val (.int i0), .val (.int (8 : Int32)), .val (.ref b1), .unset] [(.ref (own_kind (8 : Int32) k0 k1 k2 k3 k4 k5 k6 k7 k8 k9 k10))]))
    rw [show own_kind (8 : Int32) k0 k1 k2 k3 k4 k5 k6 k7 k8 k9 k10 = k8 from by rw [own_kind, if_neg (by decide), if_neg (by decide), if_neg (by decide), if_neg (by decide), if_neg (by decide), if_neg (by decide), if_neg (by decide), if_neg (by decide), if_pos rfl]]
    refine own_astoreN X145 hx (hb hby at_66) rfl #[.val (.int i0), .val (.int (8 : Int32)), .val (.ref b1), .val (.ref k8)] rfl 67 rfl ?_
    refine own_aloadN X145 hx (hb hby at_67) rfl rfl 68 rfl ?_
    have Ek8_147 := ((((((((((((E_k8.ext E1).wr W2).wr W3).wr W4).wr W5).wr W6).wr W7).wr W8).wr W9).wr W10).wr W11).wr W12)
    refine own_callV X145 hx hZ hown (hw _ (List.mem_of_getElem? (i := 9) rfl)) (hw _ (List.mem_of_getElem? (i := 10) rfl)) (hw _ (List.mem_of_getElem? (i := 12) rfl)) (hw _ (List.mem_of_getElem? (i := 11) rfl)) (hw _ (List.mem_of_getElem? (i := 13) rfl)) (hw _ (List.mem_of_getElem? (i := 7) rfl)) (by decide) Ek8_147 (rm2 l Z a0 hw [] k8 k10 k8 k9 k2 h12 n0 Zs144 ScomexampleusciousciocorePrimitiveKind_DELETE_143 ScomexampleusciousciocorePrimitiveKind_REPLACE_NODE_141 ScomexampleusciousciocorePrimitiveKind_REPLACE_ELEMENT_CONTENT_142 ScomexampleusciousciocorePrimitiveKind_REPLACE_VALUE_135) e145 (hb hby at_68) pd___Z rfl (by rw [hml]; rfl) (st := []) rfl 0 (Nat.le_of_eq rfl) (by decide) (by decide) (by decide) (by decide) 71 rfl ?_
    intro T146 v146 L146 X146 hQ146
    obtain ⟨rfl, N146q, e146⟩ := hQ146
    have N146 := Fr.app N145 N146q
    show OwnW p e below (OwnG s (Q0 Z i0 k0 k1 k2 k3 k4 k5 k6 k7 k8 k9 k10 h0 n0) room_1.cells room_1.slots) (T146.setTop (mkF m 71 #[.val (.int i0), .val (.int (8 : Int32)), .val (.ref b1), .val (.ref k8)] [(.int (own_rem k8 k10 k8 k9 k2))]))
    refine own_aloadN X146 hx (hb hby at_71) rfl rfl 72 rfl ?_
    refine own_iloadN X146 hx (hb hby at_72) rfl 73 rfl ?_
    refine own_ldZ X146 hx hZ e146 V12 ⟨by decide, by decide⟩ (.int (1 : Int32)) rfl (hb hby at_73) 74 rfl ?_
    have hc74 : (own_rem k8 k10 k8 k9 k2) = (1 : Int32) := by simp [own_rem]
    refine own_icmpN X146 hx (hb hby at_74) (teq hc74).2 77 (by decide) ?_
    refine own_iconst X146 hx (hb hby at_77) (1 : Int32) rfl 78 rfl ?_
    refine own_goto X146 hx (hb hby at_78) 82 (by decide) ?_
    refine own_retZ X146 hx hlk Bd.returns (by decide) (hb hby at_82) (by decide) (by decide) ?_
    show Q0 Z i0 k0 k1 k2 k3 k4 k5 k6 k7 k8 k9 k10 h0 n0 _ T146.heap _
    rw [e146]
    exact ⟨rfl, N146⟩
  · -- case 9
    rw [hk]
    show OwnW p e below (OwnG s (Q0 Z i0 k0 k1 k2 k3 k4 k5 k6 k7 k8 k9 k10 h0 n0) room_1.cells room_1.slots) (T12.setTop (mkF m 62 #[.val (.int i0), .val (.int (9 : Int32)), .val (.ref b1), .unset] []))
    refine own_iloadN X12 hx (hb hby at_62) rfl 63 rfl ?_
    have ScomexampleusciousciocorePrimitiveKind_INSERT_INTO_148 := ((((((((((((S_INSERT_INTO.ext E1).wr W2).wr W3).wr W4).wr W5).wr W6).wr W7).wr W8).wr W9).wr W10).wr W11).wr W12)
    have ScomexampleusciousciocorePrimitiveKind_INSERT_ATTRIBUTES_149 := ((((((((((((S_INSERT_ATTRIBUTES.ext E1).wr W2).wr W3).wr W4).wr W5).wr W6).wr W7).wr W8).wr W9).wr W10).wr W11).wr W12)
    have ScomexampleusciousciocorePrimitiveKind_REPLACE_VALUE_150 := ((((((((((((S_REPLACE_VALUE.ext E1).wr W2).wr W3).wr W4).wr W5).wr W6).wr W7).wr W8).wr W9).wr W10).wr W11).wr W12)
    have ScomexampleusciousciocorePrimitiveKind_RENAME_151 := ((((((((((((S_RENAME.ext E1).wr W2).wr W3).wr W4).wr W5).wr W6).wr W7).wr W8).wr W9).wr W10).wr W11).wr W12)
    have ScomexampleusciousciocorePrimitiveKind_INSERT_BEFORE_152 := ((((((((((((S_INSERT_BEFORE.ext E1).wr W2).wr W3).wr W4).wr W5).wr W6).wr W7).wr W8).wr W9).wr W10).wr W11).wr W12)
    have ScomexampleusciousciocorePrimitiveKind_INSERT_AFTER_153 := ((((((((((((S_INSERT_AFTER.ext E1).wr W2).wr W3).wr W4).wr W5).wr W6).wr W7).wr W8).wr W9).wr W10).wr W11).wr W12)
    have ScomexampleusciousciocorePrimitiveKind_INSERT_INTO_AS_FIRST_154 := ((((((((((((S_INSERT_INTO_AS_FIRST.ext E1).wr W2).wr W3).wr W4).wr W5).wr W6).wr W7).wr W8).wr W9).wr W10).wr W11).wr W12)
    have ScomexampleusciousciocorePrimitiveKind_INSERT_INTO_AS_LAST_155 := ((((((((((((S_INSERT_INTO_AS_LAST.ext E1).wr W2).wr W3).wr W4).wr W5).wr W6).wr W7).wr W8).wr W9).wr W10).wr W11).wr W12)
    have ScomexampleusciousciocorePrimitiveKind_REPLACE_NODE_156 := ((((((((((((S_REPLACE_NODE.ext E1).wr W2).wr W3).wr W4).wr W5).wr W6).wr W7).wr W8).wr W9).wr W10).wr W11).wr W12)
    have ScomexampleusciousciocorePrimitiveKind_REPLACE_ELEMENT_CONTENT_157 := ((((((((((((S_REPLACE_ELEMENT_CONTENT.ext E1).wr W2).wr W3).wr W4).wr W5).wr W6).wr W7).wr W8).wr W9).wr W10).wr W11).wr W12)
    have ScomexampleusciousciocorePrimitiveKind_DELETE_158 := ((((((((((((S_DELETE.ext E1).wr W2).wr W3).wr W4).wr W5).wr W6).wr W7).wr W8).wr W9).wr W10).wr W11).wr W12)
    have Zs159 : n0 ≤ h12.size := (Nat.le_trans (Nat.le_trans (Nat.le_trans (Nat.le_trans (Nat.le_trans (Nat.le_trans (Nat.le_trans (Nat.le_trans (Nat.le_trans (Nat.le_trans (Nat.le_trans (Nat.le_trans Z0 E1.1) (Keep.of_wr W2).1) (Keep.of_wr W3).1) (Keep.of_wr W4).1) (Keep.of_wr W5).1) (Keep.of_wr W6).1) (Keep.of_wr W7).1) (Keep.of_wr W8).1) (Keep.of_wr W9).1) (Keep.of_wr W10).1) (Keep.of_wr W11).1) (Keep.of_wr W12).1)
    refine own_callS X12 hx hZ hown (hw _ (List.mem_of_getElem? (i := 2) rfl)) (hw _ (List.mem_of_getElem? (i := 3) rfl)) (hw _ (List.mem_of_getElem? (i := 5) rfl)) (hw _ (List.mem_of_getElem? (i := 4) rfl)) (by decide) (rm1 l Z a0 hw [] (9 : Int32) k0 k1 k2 k3 k4 k5 k6 k7 k8 k9 k10 h12 n0 Zs159 ScomexampleusciousciocorePrimitiveKind_INSERT_INTO_148 ScomexampleusciousciocorePrimitiveKind_INSERT_ATTRIBUTES_149 ScomexampleusciousciocorePrimitiveKind_REPLACE_VALUE_150 ScomexampleusciousciocorePrimitiveKind_RENAME_151 ScomexampleusciousciocorePrimitiveKind_INSERT_BEFORE_152 ScomexampleusciousciocorePrimitiveKind_INSERT_AFTER_153 ScomexampleusciousciocorePrimitiveKind_INSERT_INTO_AS_FIRST_154 ScomexampleusciousciocorePrimitiveKind_INSERT_INTO_AS_LAST_155 ScomexampleusciousciocorePrimitiveKind_REPLACE_NODE_156 ScomexampleusciousciocorePrimitiveKind_REPLACE_ELEMENT_CONTENT_157 ScomexampleusciousciocorePrimitiveKind_DELETE_158) e12 (hb hby at_63) pd__I_Lcom_example_uscio_uscio_core_PrimitiveKind_ rfl (by rw [hml]; rfl) (st := []) rfl 0 (Nat.le_of_eq rfl) (by decide) (by decide) (by decide) (by decide) 66 rfl ?_
    intro T160 v160 L160 X160 hQ160
    obtain ⟨rfl, N160q, e160⟩ := hQ160
    have N160 := Fr.app N12 N160q
    show OwnW p e below (OwnG s (Q0 Z i0 k0 k1 k2 k3 k4 k5 k6 k7 k8 k9 k10 h0 n0) room_1.cells room_1.slots) (T160.setTop (mkF m 66 #[.val (.int i0), .val (.int (9 : Int32)), .val (.ref b1), .unset] [(.ref (own_kind (9 : Int32) k0 k1 k2 k3 k4 k5 k6 k7 k8 k9 k10))]))
    rw [show own_kind (9 : Int32) k0 k1 k2 k3 k4 k5 k6 k7 k8 k9 k10 = k9 from by rw [own_kind, if_neg (by decide), if_neg (by decide), if_neg (by decide), if_neg (by decide), if_neg (by decide), if_neg (by decide), if_neg (by decide), if_neg (by decide), if_neg (by decide), if_pos rfl]]
    refine own_astoreN X160 hx (hb hby at_66) rfl #[.val (.int i0), .val (.int (9 : Int32)), .val (.ref b1), .val (.ref k9)] rfl 67 rfl ?_
    refine own_aloadN X160 hx (hb hby at_67) rfl rfl 68 rfl ?_
    have Ek9_162 := ((((((((((((E_k9.ext E1).wr W2).wr W3).wr W4).wr W5).wr W6).wr W7).wr W8).wr W9).wr W10).wr W11).wr W12)
    refine own_callV X160 hx hZ hown (hw _ (List.mem_of_getElem? (i := 9) rfl)) (hw _ (List.mem_of_getElem? (i := 10) rfl)) (hw _ (List.mem_of_getElem? (i := 12) rfl)) (hw _ (List.mem_of_getElem? (i := 11) rfl)) (hw _ (List.mem_of_getElem? (i := 13) rfl)) (hw _ (List.mem_of_getElem? (i := 7) rfl)) (by decide) Ek9_162 (rm2 l Z a0 hw [] k9 k10 k8 k9 k2 h12 n0 Zs159 ScomexampleusciousciocorePrimitiveKind_DELETE_158 ScomexampleusciousciocorePrimitiveKind_REPLACE_NODE_156 ScomexampleusciousciocorePrimitiveKind_REPLACE_ELEMENT_CONTENT_157 ScomexampleusciousciocorePrimitiveKind_REPLACE_VALUE_150) e160 (hb hby at_68) pd___Z rfl (by rw [hml]; rfl) (st := []) rfl 0 (Nat.le_of_eq rfl) (by decide) (by decide) (by decide) (by decide) 71 rfl ?_
    intro T161 v161 L161 X161 hQ161
    obtain ⟨rfl, N161q, e161⟩ := hQ161
    have N161 := Fr.app N160 N161q
    show OwnW p e below (OwnG s (Q0 Z i0 k0 k1 k2 k3 k4 k5 k6 k7 k8 k9 k10 h0 n0) room_1.cells room_1.slots) (T161.setTop (mkF m 71 #[.val (.int i0), .val (.int (9 : Int32)), .val (.ref b1), .val (.ref k9)] [(.int (own_rem k9 k10 k8 k9 k2))]))
    refine own_aloadN X161 hx (hb hby at_71) rfl rfl 72 rfl ?_
    refine own_iloadN X161 hx (hb hby at_72) rfl 73 rfl ?_
    refine own_ldZ X161 hx hZ e161 V12 ⟨by decide, by decide⟩ (.int (1 : Int32)) rfl (hb hby at_73) 74 rfl ?_
    have hc74 : (own_rem k9 k10 k8 k9 k2) = (1 : Int32) := by simp [own_rem]
    refine own_icmpN X161 hx (hb hby at_74) (teq hc74).2 77 (by decide) ?_
    refine own_iconst X161 hx (hb hby at_77) (1 : Int32) rfl 78 rfl ?_
    refine own_goto X161 hx (hb hby at_78) 82 (by decide) ?_
    refine own_retZ X161 hx hlk Bd.returns (by decide) (hb hby at_82) (by decide) (by decide) ?_
    show Q0 Z i0 k0 k1 k2 k3 k4 k5 k6 k7 k8 k9 k10 h0 n0 _ T161.heap _
    rw [e161]
    exact ⟨rfl, N161⟩
  · -- case 10
    rw [hk]
    show OwnW p e below (OwnG s (Q0 Z i0 k0 k1 k2 k3 k4 k5 k6 k7 k8 k9 k10 h0 n0) room_1.cells room_1.slots) (T12.setTop (mkF m 62 #[.val (.int i0), .val (.int (10 : Int32)), .val (.ref b1), .unset] []))
    refine own_iloadN X12 hx (hb hby at_62) rfl 63 rfl ?_
    have ScomexampleusciousciocorePrimitiveKind_INSERT_INTO_163 := ((((((((((((S_INSERT_INTO.ext E1).wr W2).wr W3).wr W4).wr W5).wr W6).wr W7).wr W8).wr W9).wr W10).wr W11).wr W12)
    have ScomexampleusciousciocorePrimitiveKind_INSERT_ATTRIBUTES_164 := ((((((((((((S_INSERT_ATTRIBUTES.ext E1).wr W2).wr W3).wr W4).wr W5).wr W6).wr W7).wr W8).wr W9).wr W10).wr W11).wr W12)
    have ScomexampleusciousciocorePrimitiveKind_REPLACE_VALUE_165 := ((((((((((((S_REPLACE_VALUE.ext E1).wr W2).wr W3).wr W4).wr W5).wr W6).wr W7).wr W8).wr W9).wr W10).wr W11).wr W12)
    have ScomexampleusciousciocorePrimitiveKind_RENAME_166 := ((((((((((((S_RENAME.ext E1).wr W2).wr W3).wr W4).wr W5).wr W6).wr W7).wr W8).wr W9).wr W10).wr W11).wr W12)
    have ScomexampleusciousciocorePrimitiveKind_INSERT_BEFORE_167 := ((((((((((((S_INSERT_BEFORE.ext E1).wr W2).wr W3).wr W4).wr W5).wr W6).wr W7).wr W8).wr W9).wr W10).wr W11).wr W12)
    have ScomexampleusciousciocorePrimitiveKind_INSERT_AFTER_168 := ((((((((((((S_INSERT_AFTER.ext E1).wr W2).wr W3).wr W4).wr W5).wr W6).wr W7).wr W8).wr W9).wr W10).wr W11).wr W12)
    have ScomexampleusciousciocorePrimitiveKind_INSERT_INTO_AS_FIRST_169 := ((((((((((((S_INSERT_INTO_AS_FIRST.ext E1).wr W2).wr W3).wr W4).wr W5).wr W6).wr W7).wr W8).wr W9).wr W10).wr W11).wr W12)
    have ScomexampleusciousciocorePrimitiveKind_INSERT_INTO_AS_LAST_170 := ((((((((((((S_INSERT_INTO_AS_LAST.ext E1).wr W2).wr W3).wr W4).wr W5).wr W6).wr W7).wr W8).wr W9).wr W10).wr W11).wr W12)
    have ScomexampleusciousciocorePrimitiveKind_REPLACE_NODE_171 := ((((((((((((S_REPLACE_NODE.ext E1).wr W2).wr W3).wr W4).wr W5).wr W6).wr W7).wr W8).wr W9).wr W10).wr W11).wr W12)
    have ScomexampleusciousciocorePrimitiveKind_REPLACE_ELEMENT_CONTENT_172 := ((((((((((((S_REPLACE_ELEMENT_CONTENT.ext E1).wr W2).wr W3).wr W4).wr W5).wr W6).wr W7).wr W8).wr W9).wr W10).wr W11).wr W12)
    have ScomexampleusciousciocorePrimitiveKind_DELETE_173 := ((((((((((((S_DELETE.ext E1).wr W2).wr W3).wr W4).wr W5).wr W6).wr W7).wr W8).wr W9).wr W10).wr W11).wr W12)
    have Zs174 : n0 ≤ h12.size := (Nat.le_trans (Nat.le_trans (Nat.le_trans (Nat.le_trans (Nat.le_trans (Nat.le_trans (Nat.le_trans (Nat.le_trans (Nat.le_trans (Nat.le_trans (Nat.le_trans (Nat.le_trans Z0 E1.1) (Keep.of_wr W2).1) (Keep.of_wr W3).1) (Keep.of_wr W4).1) (Keep.of_wr W5).1) (Keep.of_wr W6).1) (Keep.of_wr W7).1) (Keep.of_wr W8).1) (Keep.of_wr W9).1) (Keep.of_wr W10).1) (Keep.of_wr W11).1) (Keep.of_wr W12).1)
    refine own_callS X12 hx hZ hown (hw _ (List.mem_of_getElem? (i := 2) rfl)) (hw _ (List.mem_of_getElem? (i := 3) rfl)) (hw _ (List.mem_of_getElem? (i := 5) rfl)) (hw _ (List.mem_of_getElem? (i := 4) rfl)) (by decide) (rm1 l Z a0 hw [] (10 : Int32) k0 k1 k2 k3 k4 k5 k6 k7 k8 k9 k10 h12 n0 Zs174 ScomexampleusciousciocorePrimitiveKind_INSERT_INTO_163 ScomexampleusciousciocorePrimitiveKind_INSERT_ATTRIBUTES_164 ScomexampleusciousciocorePrimitiveKind_REPLACE_VALUE_165 ScomexampleusciousciocorePrimitiveKind_RENAME_166 ScomexampleusciousciocorePrimitiveKind_INSERT_BEFORE_167 ScomexampleusciousciocorePrimitiveKind_INSERT_AFTER_168 ScomexampleusciousciocorePrimitiveKind_INSERT_INTO_AS_FIRST_169 ScomexampleusciousciocorePrimitiveKind_INSERT_INTO_AS_LAST_170 ScomexampleusciousciocorePrimitiveKind_REPLACE_NODE_171 ScomexampleusciousciocorePrimitiveKind_REPLACE_ELEMENT_CONTENT_172 ScomexampleusciousciocorePrimitiveKind_DELETE_173) e12 (hb hby at_63) pd__I_Lcom_example_uscio_uscio_core_PrimitiveKind_ rfl (by rw [hml]; rfl) (st := []) rfl 0 (Nat.le_of_eq rfl) (by decide) (by decide) (by decide) (by decide) 66 rfl ?_
    intro T175 v175 L175 X175 hQ175
    obtain ⟨rfl, N175q, e175⟩ := hQ175
    have N175 := Fr.app N12 N175q
    show OwnW p e below (OwnG s (Q0 Z i0 k0 k1 k2 k3 k4 k5 k6 k7 k8 k9 k10 h0 n0) room_1.cells room_1.slots) (T175.setTop (mkF m 66 #[.val (.int i0), .val (.int (10 : Int32)), .val (.ref b1), .unset] [(.ref (own_kind (10 : Int32) k0 k1 k2 k3 k4 k5 k6 k7 k8 k9 k10))]))
    rw [show own_kind (10 : Int32) k0 k1 k2 k3 k4 k5 k6 k7 k8 k9 k10 = k10 from by rw [own_kind, if_neg (by decide), if_neg (by decide), if_neg (by decide), if_neg (by decide), if_neg (by decide), if_neg (by decide), if_neg (by decide), if_neg (by decide), if_neg (by decide), if_neg (by decide)]]
    refine own_astoreN X175 hx (hb hby at_66) rfl #[.val (.int i0), .val (.int (10 : Int32)), .val (.ref b1), .val (.ref k10)] rfl 67 rfl ?_
    refine own_aloadN X175 hx (hb hby at_67) rfl rfl 68 rfl ?_
    have Ek10_177 := ((((((((((((E_k10.ext E1).wr W2).wr W3).wr W4).wr W5).wr W6).wr W7).wr W8).wr W9).wr W10).wr W11).wr W12)
    refine own_callV X175 hx hZ hown (hw _ (List.mem_of_getElem? (i := 9) rfl)) (hw _ (List.mem_of_getElem? (i := 10) rfl)) (hw _ (List.mem_of_getElem? (i := 12) rfl)) (hw _ (List.mem_of_getElem? (i := 11) rfl)) (hw _ (List.mem_of_getElem? (i := 13) rfl)) (hw _ (List.mem_of_getElem? (i := 7) rfl)) (by decide) Ek10_177 (rm2 l Z a0 hw [] k10 k10 k8 k9 k2 h12 n0 Zs174 ScomexampleusciousciocorePrimitiveKind_DELETE_173 ScomexampleusciousciocorePrimitiveKind_REPLACE_NODE_171 ScomexampleusciousciocorePrimitiveKind_REPLACE_ELEMENT_CONTENT_172 ScomexampleusciousciocorePrimitiveKind_REPLACE_VALUE_165) e175 (hb hby at_68) pd___Z rfl (by rw [hml]; rfl) (st := []) rfl 0 (Nat.le_of_eq rfl) (by decide) (by decide) (by decide) (by decide) 71 rfl ?_
    intro T176 v176 L176 X176 hQ176
    obtain ⟨rfl, N176q, e176⟩ := hQ176
    have N176 := Fr.app N175 N176q
    show OwnW p e below (OwnG s (Q0 Z i0 k0 k1 k2 k3 k4 k5 k6 k7 k8 k9 k10 h0 n0) room_1.cells room_1.slots) (T176.setTop (mkF m 71 #[.val (.int i0), .val (.int (10 : Int32)), .val (.ref b1), .val (.ref k10)] [(.int (own_rem k10 k10 k8 k9 k2))]))
    refine own_aloadN X176 hx (hb hby at_71) rfl rfl 72 rfl ?_
    refine own_iloadN X176 hx (hb hby at_72) rfl 73 rfl ?_
    refine own_ldZ X176 hx hZ e176 V12 ⟨by decide, by decide⟩ (.int (1 : Int32)) rfl (hb hby at_73) 74 rfl ?_
    have hc74 : (own_rem k10 k10 k8 k9 k2) = (1 : Int32) := by simp [own_rem]
    refine own_icmpN X176 hx (hb hby at_74) (teq hc74).2 77 (by decide) ?_
    refine own_iconst X176 hx (hb hby at_77) (1 : Int32) rfl 78 rfl ?_
    refine own_goto X176 hx (hb hby at_78) 82 (by decide) ?_
    refine own_retZ X176 hx hlk Bd.returns (by decide) (hb hby at_82) (by decide) (by decide) ?_
    show Q0 Z i0 k0 k1 k2 k3 k4 k5 k6 k7 k8 k9 k10 h0 n0 _ T176.heap _
    rw [e176]
    exact ⟨rfl, N176⟩
set_option maxRecDepth 65536 in
set_option maxHeartbeats 40000000 in
theorem comes_1 {Post : Tables → Env → Array Value → State → Outcome → State → Prop} (hpost : ∀ tb e args s v u, (limb_1_1.after args s (.returned v) u = true ∧ limb_1_2.after args s (.returned v) u = true) → FrameEnd s (.returned v) u (Jvm.fieldLocs frame_1_writes args s ++ Jvm.arrayLocs frame_1_arrays args s ++ Jvm.staticLocs frame_1_statics s) 16 128 → Post tb e args s (.returned v) u) :
    ArmFor flags0 classFile x code maxLocals ret World_1 tables_1 room_1 Calls_1 rest_1 Pre_1 Post := by
  intro l hfl _ _ p e ha hc hk s m args below hf hA hF happ hP
  obtain ⟨hcalls, hrest, hpre⟩ := hP
  obtain ⟨-, -, -, hnamed, -, -, -, hat⟩ := (Spec.applies_iff hf).mp happ
  obtain ⟨hg, hn⟩ := and_e (Cond.before_iff.mp (show (Jvm.Cond.and given_1 narrow_1).before args s = true from hpre))
  obtain ⟨gc, gr⟩ := and_e hg
  have ga0 := gr
  obtain ⟨w0, rfl⟩ : ∃ w0 : Value, args = #[w0] := by
    have hs : args.size = 1 := by simpa [Cond.value, given_1] using gc
    obtain ⟨L⟩ := args
    match L, hs with
    | [w0], _ => exact ⟨w0, rfl⟩
  have hw := fun d (hd : d ∈ tables_1) => atoms_spec (ws := Jvm.Cond.code x code maxLocals ret :: tables_1) hat d (List.mem_cons_of_mem _ hd)
  have hfit : Fit s := fun {y c} hc i hi => by
    obtain ⟨ha, rfl⟩ := Array.getElem?_eq_some_iff.mp hc
    have q := List.all_eq_true.mp ((Array.all_eq_true_iff_forall_mem.mp hF) _ (Array.getElem_mem ha)) i (List.mem_range.mpr hi)
    simpa [Array.getElem?_eq_getElem hi] using q
  obtain ⟨i0, ei0⟩ := is_v ga0
  obtain rfl : w0 = (.int i0) := Option.some.inj ei0
  obtain ⟨nc0, nr0⟩ := and_e hn
  obtain ⟨nc1, nr1⟩ := and_e nr0
  obtain ⟨nc2, nr2⟩ := and_e nr1
  obtain ⟨nc3, nr3⟩ := and_e nr2
  obtain ⟨nc4, nr4⟩ := and_e nr3
  obtain ⟨nc5, nr5⟩ := and_e nr4
  obtain ⟨nc6, nr6⟩ := and_e nr5
  obtain ⟨nc7, nr7⟩ := and_e nr6
  obtain ⟨nc8, nr8⟩ := and_e nr7
  obtain ⟨nc9, nr9⟩ := and_e nr8
  obtain ⟨nc10, nr10⟩ := and_e nr9
  obtain ⟨nc11, nr11⟩ := and_e nr10
  obtain ⟨nc12, nr12⟩ := and_e nr11
  obtain ⟨nc13, nr13⟩ := and_e nr12
  obtain ⟨nc14, nr14⟩ := and_e nr13
  obtain ⟨nc15, nr15⟩ := and_e nr14
  obtain ⟨nc16, nr16⟩ := and_e nr15
  obtain ⟨nc17, nr17⟩ := and_e nr16
  obtain ⟨nc18, nr18⟩ := and_e nr17
  obtain ⟨nc19, nr19⟩ := and_e nr18
  obtain ⟨nc20, nr20⟩ := and_e nr19
  have nc21 := nr20
  obtain ⟨k0, ek0⟩ := exa_v nc0
  have E0 := Exa.start ek0 nc0
  have O0 := own_feq ek0 nc2
  have S0 := Sta.start ek0 (Or.inr ⟨(hw _ (List.mem_of_getElem? (i := 7) rfl)), (hw _ (List.mem_of_getElem? (i := 8) rfl))⟩)
  obtain ⟨k1, ek1⟩ := exa_v nc14
  have E1 := Exa.start ek1 nc14
  have O1 := own_feq ek1 nc15
  have S1 := Sta.start ek1 (Or.inr ⟨(hw _ (List.mem_of_getElem? (i := 7) rfl)), (hw _ (List.mem_of_getElem? (i := 30) rfl))⟩)
  obtain ⟨k2, ek2⟩ := exa_v nc8
  have E2 := Exa.start ek2 nc8
  have O2 := own_feq ek2 nc9
  have S2 := Sta.start ek2 (Or.inr ⟨(hw _ (List.mem_of_getElem? (i := 7) rfl)), (hw _ (List.mem_of_getElem? (i := 21) rfl))⟩)
  obtain ⟨k3, ek3⟩ := exa_v nc10
  have E3 := Exa.start ek3 nc10
  have O3 := own_feq ek3 nc11
  have S3 := Sta.start ek3 (Or.inr ⟨(hw _ (List.mem_of_getElem? (i := 7) rfl)), (hw _ (List.mem_of_getElem? (i := 23) rfl))⟩)
  obtain ⟨k4, ek4⟩ := exa_v nc20
  have E4 := Exa.start ek4 nc20
  have O4 := own_feq ek4 nc21
  have S4 := Sta.start ek4 (Or.inr ⟨(hw _ (List.mem_of_getElem? (i := 7) rfl)), (hw _ (List.mem_of_getElem? (i := 37) rfl))⟩)
  obtain ⟨k5, ek5⟩ := exa_v nc16
  have E5 := Exa.start ek5 nc16
  have O5 := own_feq ek5 nc17
  have S5 := Sta.start ek5 (Or.inr ⟨(hw _ (List.mem_of_getElem? (i := 7) rfl)), (hw _ (List.mem_of_getElem? (i := 33) rfl))⟩)
  obtain ⟨k6, ek6⟩ := exa_v nc18
  have E6 := Exa.start ek6 nc18
  have O6 := own_feq ek6 nc19
  have S6 := Sta.start ek6 (Or.inr ⟨(hw _ (List.mem_of_getElem? (i := 7) rfl)), (hw _ (List.mem_of_getElem? (i := 35) rfl))⟩)
  obtain ⟨k7, ek7⟩ := exa_v nc12
  have E7 := Exa.start ek7 nc12
  have O7 := own_feq ek7 nc13
  have S7 := Sta.start ek7 (Or.inr ⟨(hw _ (List.mem_of_getElem? (i := 7) rfl)), (hw _ (List.mem_of_getElem? (i := 25) rfl))⟩)
  obtain ⟨k8, ek8⟩ := exa_v nc4
  have E8 := Exa.start ek8 nc4
  have O8 := own_feq ek8 nc5
  have S8 := Sta.start ek8 (Or.inr ⟨(hw _ (List.mem_of_getElem? (i := 7) rfl)), (hw _ (List.mem_of_getElem? (i := 17) rfl))⟩)
  obtain ⟨k9, ek9⟩ := exa_v nc6
  have E9 := Exa.start ek9 nc6
  have O9 := own_feq ek9 nc7
  have S9 := Sta.start ek9 (Or.inr ⟨(hw _ (List.mem_of_getElem? (i := 7) rfl)), (hw _ (List.mem_of_getElem? (i := 19) rfl))⟩)
  obtain ⟨k10, ek10⟩ := exa_v nc1
  have E10 := Exa.start ek10 nc1
  have O10 := own_feq ek10 nc3
  have S10 := Sta.start ek10 (Or.inr ⟨(hw _ (List.mem_of_getElem? (i := 7) rfl)), (hw _ (List.mem_of_getElem? (i := 15) rfl))⟩)
  obtain ⟨n, o, h1, h2, h3, _, L, rfl, ⟨rfl, N⟩, hq⟩ := rm0 l s _ hw tables_1 i0 k0 k1 k2 k3 k4 k5 k6 k7 k8 k9 k10 s.heap s.heap.size (Nat.le_refl _) S0 S1 S2 S3 S4 S5 S6 S7 S8 S9 S10 E0 E1 E2 E3 E4 E5 E6 E7 E8 E9 E10 O0 O1 O2 O3 O4 O5 O6 O7 O8 O9 O10 p e ha hc hk s m _ below hf ((Spec.applies_iff_loose hf).mp happ).1 ⟨rfl, State.Warmed39.refl s, rfl⟩ trivial
  refine ⟨n, _, h1, h2, h3, hpost _ _ _ _ _ _ ⟨Cond.after_iff.mpr rfl, Cond.after_iff.mpr (eq_i res_at (Term.int_eval (1)) rfl)⟩ ⟨hq.1, hq.2.1, (hq.2.2.sift fun y hy => Or.inr (N y hy)).mono (by decide) (by decide)⟩⟩
theorem main_1_1 : Claimed_1_1 := comes_1 fun _ _ _ _ _ _ h hF => ⟨h.1, hF⟩
theorem main_1_2 : Claimed_1_2 := comes_1 fun _ _ _ _ _ _ h hF => ⟨h.2, hF⟩
end Jvm.Pilot.@@N@@
namespace Jvm.Pilot.@@N@@
open Jvm Jvm.ClassFile Sem Op Lib Jvm.Free Jvm.Stand Jvm.Pilot.@@N@@.Jvm.D
/-! MADE BY PROGRAM (witnessworld.py) out of the Statement's table words and the real class files: 14 classes; the members and pool entries that the words name. The judged class is class 1, her method 2. -/
namespace start1
open Jvm.ClassFile
def u (s : String) : CpInfo := .utf8 (stringToUtf16 s)
/-- a pool by its gaps: so many unusable entries, then the entry; so many at the end -/
def gap : Nat → List CpInfo → List CpInfo
  | 0, r => r
  | n + 1, r => .unusable :: gap n r
def poolList (es : List (Nat × CpInfo)) (last : Nat) : List CpInfo := es.foldr (fun e r => gap e.1 (e.2 :: r)) (gap last [])
def pool (es : List (Nat × CpInfo)) (last : Nat) : Array CpInfo := ⟨poolList es last⟩
def fileOf (pool : Array CpInfo) (this : Nat) (attrs : Array Attribute := #[]) (ms : Array MethodInfo := #[]) (fl : Nat := 33) (sup : Nat := 0) (ifs : Array Nat := #[]) (fds : Array FieldInfo := #[]) : ClassFile where
  minorVersion := 0
  majorVersion := 65
  constantPool := pool
  accessFlags := fl
  thisClass := this
  superClass := sup
  interfaces := ifs
  fields := fds
  methods := ms
  attributes := attrs
def plain (name : String) (sup : Option ClassId) : Class where
  name := name
  kind := .ordinary
  loader := none
  accessFlags := 33
  super := sup
  interfaces := #[]
  cf := none
  fields := #[]
  methods := #[]
  instanceTypes := #[]
  staticTypes := #[]
  resolved := #[]
  callSites := []
  init := .initialized
  statics := none
  mirror := none

def pool0 : Array CpInfo := pool [(5, u "<init>"), (0, u "()V"), (1, .class_ 10), (1, u "java/lang/Object")] 113

def k0m0 : Method := { name := "<init>", desc := "()V", sig := { parameters := [], returnType := none }, accessFlags := 1, code := none }
/-- java/lang/Object -/
def k0 : Class := { plain "java/lang/Object" none with
  accessFlags := 33
  interfaces := #[]
  cf := some (fileOf pool0 8 #[] #[{ accessFlags := 1, nameIndex := 5, descriptorIndex := 6, attributes := #[] }] 33 0 #[] #[])
  fields := #[]
  methods := #[k0m0]
  instanceTypes := #[]
  staticTypes := #[]
  resolved := Array.replicate 124 none
  statics := none }

def pool1 : Array CpInfo := pool [(2, .class_ 4), (1, u "java/lang/Object"), (0, u "<init>"), (0, u "()V"), (0, .fieldref 8 9), (0, .class_ 10), (0, .nameAndType 11 12), (0, u "com/example/uscio/uscio/core/PrimitiveKind"), (0, u "INSERT_INTO"), (0, u "Lcom/example/uscio/uscio/core/PrimitiveKind;"), (0, .fieldref 8 14), (0, .nameAndType 15 12), (0, u "INSERT_ATTRIBUTES"), (0, .fieldref 8 17), (0, .nameAndType 18 12), (0, u "REPLACE_VALUE"), (0, .fieldref 8 20), (0, .nameAndType 21 12), (0, u "RENAME"), (0, .fieldref 8 23), (0, .nameAndType 24 12), (0, u "INSERT_BEFORE"), (0, .fieldref 8 26), (0, .nameAndType 27 12), (0, u "INSERT_AFTER"), (0, .fieldref 8 29), (0, .nameAndType 30 12), (0, u "INSERT_INTO_AS_FIRST"), (0, .fieldref 8 32), (0, .nameAndType 33 12), (0, u "INSERT_INTO_AS_LAST"), (0, .fieldref 8 35), (0, .nameAndType 36 12), (0, u "REPLACE_NODE"), (0, .fieldref 8 38), (0, .nameAndType 39 12), (0, u "REPLACE_ELEMENT_CONTENT"), (0, .fieldref 8 41), (0, .nameAndType 42 12), (0, u "DELETE"), (0, .integer 2147483647), (0, .methodref 45 46), (0, .class_ 47), (0, .nameAndType 48 49), (0, u "com/example/uscio/uscio/core/PrimitiveKindRemovesPinLaw"), (0, u "kindAt"), (0, u "(I)Lcom/example/uscio/uscio/core/PrimitiveKind;"), (0, .methodref 8 51), (0, .nameAndType 52 53), (0, u "removes"), (0, u "()Z"), (3, u "law"), (0, u "(I)Z")] 4

def k1m0 : Method := { name := "<init>", desc := "()V", sig := { parameters := [], returnType := none }, accessFlags := 2, code := none }
def k1c1 : Code := { maxStack := 2, maxLocals := 1, code := method_2_code, exceptionTable := #[], attributes := #[] }
def k1m1 : Method := { name := "kindAt", desc := "(I)Lcom/example/uscio/uscio/core/PrimitiveKind;", sig := { parameters := [.int], returnType := some (.object "com/example/uscio/uscio/core/PrimitiveKind") }, accessFlags := 10, code := some k1c1 }
def k1c2 : Code := { maxStack := 4, maxLocals := 4, code := code, exceptionTable := #[], attributes := #[] }
def k1m2 : Method := { name := "law", desc := "(I)Z", sig := { parameters := [.int], returnType := some .boolean }, accessFlags := 9, code := some k1c2 }
/-- com/example/uscio/uscio/core/PrimitiveKindRemovesPinLaw -/
def k1 : Class := { plain "com/example/uscio/uscio/core/PrimitiveKindRemovesPinLaw" (some 0) with
  accessFlags := 49
  interfaces := #[]
  cf := some (fileOf pool1 45 #[] #[{ accessFlags := 2, nameIndex := 5, descriptorIndex := 6, attributes := #[] }, { accessFlags := 10, nameIndex := 48, descriptorIndex := 49, attributes := #[] }, { accessFlags := 9, nameIndex := 57, descriptorIndex := 58, attributes := #[] }] 49 2 #[] #[])
  fields := #[]
  methods := #[k1m0, k1m1, k1m2]
  instanceTypes := #[]
  staticTypes := #[]
  resolved := Array.replicate 63 none
  statics := none }

def pool2 : Array CpInfo := pool [(1, .class_ 2), (0, u "java/lang/constant/Constable"), (0, .class_ 4), (0, u "java/lang/Object")] 6

/-- java/lang/constant/Constable -/
def k2 : Class := { plain "java/lang/constant/Constable" (some 0) with
  accessFlags := 1537
  interfaces := #[]
  cf := some (fileOf pool2 1 #[] #[] 1537 3 #[] #[])
  fields := #[]
  methods := #[]
  instanceTypes := #[]
  staticTypes := #[]
  resolved := Array.replicate 11 none
  statics := none }

def pool3 : Array CpInfo := pool [(1, .class_ 2), (0, u "java/lang/Comparable"), (0, .class_ 4), (0, u "java/lang/Object")] 7

/-- java/lang/Comparable -/
def k3 : Class := { plain "java/lang/Comparable" (some 0) with
  accessFlags := 1537
  interfaces := #[]
  cf := some (fileOf pool3 1 #[] #[] 1537 3 #[] #[])
  fields := #[]
  methods := #[]
  instanceTypes := #[]
  staticTypes := #[]
  resolved := Array.replicate 12 none
  statics := none }

def pool4 : Array CpInfo := pool [(1, .class_ 2), (0, u "java/io/Serializable"), (0, .class_ 4), (0, u "java/lang/Object")] 2

/-- java/io/Serializable -/
def k4 : Class := { plain "java/io/Serializable" (some 0) with
  accessFlags := 1537
  interfaces := #[]
  cf := some (fileOf pool4 1 #[] #[] 1537 3 #[] #[])
  fields := #[]
  methods := #[]
  instanceTypes := #[]
  staticTypes := #[]
  resolved := Array.replicate 7 none
  statics := none }

def pool5 : Array CpInfo := pool [(2, .class_ 4), (1, u "java/lang/Enum"), (0, u "name"), (0, u "Ljava/lang/String;"), (2, u "ordinal"), (0, u "I"), (1, .class_ 14), (1, u "java/lang/Object"), (4, u "hash"), (86, .class_ 108), (1, u "java/lang/Enum$EnumDesc"), (2, .class_ 112), (0, u "java/lang/constant/Constable"), (0, .class_ 114), (0, u "java/lang/Comparable"), (0, .class_ 116), (0, u "java/io/Serializable")] 87

/-- java/lang/Enum -/
def k5 : Class := { plain "java/lang/Enum" (some 0) with
  accessFlags := 1057
  interfaces := #[2, 3, 4]
  cf := some (fileOf pool5 2 #[.nestMembers #[106]] #[] 1057 12 #[111, 113, 115] #[{ accessFlags := 18, nameIndex := 5, descriptorIndex := 6, attributes := #[] }, { accessFlags := 18, nameIndex := 9, descriptorIndex := 10, attributes := #[] }, { accessFlags := 2, nameIndex := 19, descriptorIndex := 10, attributes := #[] }])
  fields := #[{ name := "name", type := (.object "java/lang/String"), accessFlags := 18, slot := 0, constantValue := 0 }, { name := "ordinal", type := .int, accessFlags := 18, slot := 1, constantValue := 0 }, { name := "hash", type := .int, accessFlags := 2, slot := 2, constantValue := 0 }]
  methods := #[]
  instanceTypes := #[(.object "java/lang/String"), .int, .int]
  staticTypes := #[]
  resolved := Array.replicate 204 none
  statics := none }

def pool6 : Array CpInfo := pool [(1, .class_ 2), (0, u "com/example/uscio/uscio/core/PrimitiveKind"), (2, u "INSERT_INTO"), (0, u "Lcom/example/uscio/uscio/core/PrimitiveKind;"), (2, u "INSERT_ATTRIBUTES"), (0, .fieldref 1 11), (0, .nameAndType 12 6), (0, u "REPLACE_VALUE"), (2, u "RENAME"), (2, u "INSERT_BEFORE"), (2, u "INSERT_AFTER"), (2, u "INSERT_INTO_AS_FIRST"), (2, u "INSERT_INTO_AS_LAST"), (0, .fieldref 1 29), (0, .nameAndType 30 6), (0, u "REPLACE_NODE"), (0, .fieldref 1 32), (0, .nameAndType 33 6), (0, u "REPLACE_ELEMENT_CONTENT"), (0, .fieldref 1 35), (0, .nameAndType 36 6), (0, u "DELETE"), (2, u "$VALUES"), (0, u "[Lcom/example/uscio/uscio/core/PrimitiveKind;"), (6, .class_ 49), (1, u "java/lang/Enum"), (8, u "xqufName"), (0, u "Ljava/lang/String;"), (2, u "stage"), (0, u "I"), (2, u "operand"), (0, u "Lcom/example/uscio/uscio/core/PrimitiveKind$Operand;"), (1, .class_ 71), (1, u "com/example/uscio/uscio/core/PrimitiveKind$Operand"), (93, u "()Z"), (1, u "removes")] 14

def k6c0 : Code := { maxStack := 2, maxLocals := 1, code := prog_112_method_8_code, exceptionTable := #[], attributes := #[] }
def k6m0 : Method := { name := "removes", desc := "()Z", sig := { parameters := [], returnType := some .boolean }, accessFlags := 0, code := some k6c0 }
/-- com/example/uscio/uscio/core/PrimitiveKind -/
def k6 : Class := { plain "com/example/uscio/uscio/core/PrimitiveKind" (some 5) with
  accessFlags := 16433
  interfaces := #[]
  cf := some (fileOf pool6 1 #[.nestMembers #[69]] #[{ accessFlags := 0, nameIndex := 167, descriptorIndex := 165, attributes := #[] }] 16433 47 #[] #[{ accessFlags := 16409, nameIndex := 5, descriptorIndex := 6, attributes := #[] }, { accessFlags := 16409, nameIndex := 9, descriptorIndex := 6, attributes := #[] }, { accessFlags := 16409, nameIndex := 12, descriptorIndex := 6, attributes := #[] }, { accessFlags := 16409, nameIndex := 15, descriptorIndex := 6, attributes := #[] }, { accessFlags := 16409, nameIndex := 18, descriptorIndex := 6, attributes := #[] }, { accessFlags := 16409, nameIndex := 21, descriptorIndex := 6, attributes := #[] }, { accessFlags := 16409, nameIndex := 24, descriptorIndex := 6, attributes := #[] }, { accessFlags := 16409, nameIndex := 27, descriptorIndex := 6, attributes := #[] }, { accessFlags := 16409, nameIndex := 30, descriptorIndex := 6, attributes := #[] }, { accessFlags := 16409, nameIndex := 33, descriptorIndex := 6, attributes := #[] }, { accessFlags := 16409, nameIndex := 36, descriptorIndex := 6, attributes := #[] }, { accessFlags := 18, nameIndex := 58, descriptorIndex := 59, attributes := #[] }, { accessFlags := 18, nameIndex := 62, descriptorIndex := 63, attributes := #[] }, { accessFlags := 18, nameIndex := 66, descriptorIndex := 67, attributes := #[] }, { accessFlags := 4122, nameIndex := 39, descriptorIndex := 40, attributes := #[] }])
  fields := #[{ name := "INSERT_INTO", type := (.object "com/example/uscio/uscio/core/PrimitiveKind"), accessFlags := 16409, slot := 0, constantValue := 0 }, { name := "INSERT_ATTRIBUTES", type := (.object "com/example/uscio/uscio/core/PrimitiveKind"), accessFlags := 16409, slot := 1, constantValue := 0 }, { name := "REPLACE_VALUE", type := (.object "com/example/uscio/uscio/core/PrimitiveKind"), accessFlags := 16409, slot := 2, constantValue := 0 }, { name := "RENAME", type := (.object "com/example/uscio/uscio/core/PrimitiveKind"), accessFlags := 16409, slot := 3, constantValue := 0 }, { name := "INSERT_BEFORE", type := (.object "com/example/uscio/uscio/core/PrimitiveKind"), accessFlags := 16409, slot := 4, constantValue := 0 }, { name := "INSERT_AFTER", type := (.object "com/example/uscio/uscio/core/PrimitiveKind"), accessFlags := 16409, slot := 5, constantValue := 0 }, { name := "INSERT_INTO_AS_FIRST", type := (.object "com/example/uscio/uscio/core/PrimitiveKind"), accessFlags := 16409, slot := 6, constantValue := 0 }, { name := "INSERT_INTO_AS_LAST", type := (.object "com/example/uscio/uscio/core/PrimitiveKind"), accessFlags := 16409, slot := 7, constantValue := 0 }, { name := "REPLACE_NODE", type := (.object "com/example/uscio/uscio/core/PrimitiveKind"), accessFlags := 16409, slot := 8, constantValue := 0 }, { name := "REPLACE_ELEMENT_CONTENT", type := (.object "com/example/uscio/uscio/core/PrimitiveKind"), accessFlags := 16409, slot := 9, constantValue := 0 }, { name := "DELETE", type := (.object "com/example/uscio/uscio/core/PrimitiveKind"), accessFlags := 16409, slot := 10, constantValue := 0 }, { name := "xqufName", type := (.object "java/lang/String"), accessFlags := 18, slot := 3, constantValue := 0 }, { name := "stage", type := .int, accessFlags := 18, slot := 4, constantValue := 0 }, { name := "operand", type := (.object "com/example/uscio/uscio/core/PrimitiveKind$Operand"), accessFlags := 18, slot := 5, constantValue := 0 }, { name := "$VALUES", type := (.array (.object "com/example/uscio/uscio/core/PrimitiveKind")), accessFlags := 4122, slot := 11, constantValue := 0 }]
  methods := #[k6m0]
  instanceTypes := #[(.object "java/lang/String"), .int, .int, (.object "java/lang/String"), .int, (.object "com/example/uscio/uscio/core/PrimitiveKind$Operand")]
  staticTypes := #[(.object "com/example/uscio/uscio/core/PrimitiveKind"), (.object "com/example/uscio/uscio/core/PrimitiveKind"), (.object "com/example/uscio/uscio/core/PrimitiveKind"), (.object "com/example/uscio/uscio/core/PrimitiveKind"), (.object "com/example/uscio/uscio/core/PrimitiveKind"), (.object "com/example/uscio/uscio/core/PrimitiveKind"), (.object "com/example/uscio/uscio/core/PrimitiveKind"), (.object "com/example/uscio/uscio/core/PrimitiveKind"), (.object "com/example/uscio/uscio/core/PrimitiveKind"), (.object "com/example/uscio/uscio/core/PrimitiveKind"), (.object "com/example/uscio/uscio/core/PrimitiveKind"), (.array (.object "com/example/uscio/uscio/core/PrimitiveKind"))]
  resolved := Array.replicate 182 none
  statics := some 0 }

def pool7 : Array CpInfo := pool [(1, u "java/lang/Cloneable"), (0, .class_ 1), (0, u "java/lang/Object"), (0, .class_ 3)] 3

/-- java/lang/Cloneable -/
def k7 : Class := { plain "java/lang/Cloneable" (some 0) with
  accessFlags := 1537
  interfaces := #[]
  cf := some (fileOf pool7 2 #[] #[] 1537 4 #[] #[])
  fields := #[]
  methods := #[]
  instanceTypes := #[]
  staticTypes := #[]
  resolved := Array.replicate 8 none
  statics := none }

/-- the primitive boolean -/
def k8 : Class := { plain "boolean" none with kind := .primitive 'Z', accessFlags := 0x411 }
/-- [Z -/
def k9 : Class := { plain "[Z" (some 0) with kind := .array 8 .boolean, interfaces := #[7, 4], accessFlags := 1041 }

/-- the primitive byte -/
def k10 : Class := { plain "byte" none with kind := .primitive 'B', accessFlags := 0x411 }
/-- [B -/
def k11 : Class := { plain "[B" (some 0) with kind := .array 10 .byte, interfaces := #[7, 4], accessFlags := 1041 }

/-- the primitive int -/
def k12 : Class := { plain "int" none with kind := .primitive 'I', accessFlags := 0x411 }
/-- [I -/
def k13 : Class := { plain "[I" (some 0) with kind := .array 12 .int, interfaces := #[7, 4], accessFlags := 1041 }

def heap : Heap := #[{ cls := 6, slots := #[.ref 1, .ref 2, .ref 3, .ref 4, .ref 5, .ref 6, .ref 7, .ref 8, .ref 9, .ref 10, .ref 11, .null], vm := .statics 6 },
  { cls := 6, slots := #[.null, .int 0, .int 0, .null, .int 0, .null], vm := .none },
  { cls := 6, slots := #[.null, .int 1, .int 0, .null, .int 0, .null], vm := .none },
  { cls := 6, slots := #[.null, .int 2, .int 0, .null, .int 0, .null], vm := .none },
  { cls := 6, slots := #[.null, .int 3, .int 0, .null, .int 0, .null], vm := .none },
  { cls := 6, slots := #[.null, .int 4, .int 0, .null, .int 0, .null], vm := .none },
  { cls := 6, slots := #[.null, .int 5, .int 0, .null, .int 0, .null], vm := .none },
  { cls := 6, slots := #[.null, .int 6, .int 0, .null, .int 0, .null], vm := .none },
  { cls := 6, slots := #[.null, .int 7, .int 0, .null, .int 0, .null], vm := .none },
  { cls := 6, slots := #[.null, .int 8, .int 0, .null, .int 0, .null], vm := .none },
  { cls := 6, slots := #[.null, .int 9, .int 0, .null, .int 0, .null], vm := .none },
  { cls := 6, slots := #[.null, .int 10, .int 0, .null, .int 0, .null], vm := .none }]
def classes : Array Class := #[k0, k1, k2, k3, k4, k5, k6, k7, k8, k9, k10, k11, k12, k13]
def interned : List (Array UInt16 × Addr) := []
def slotsUsed : Nat := 78
def theMethod : MethodId := ⟨1, 2⟩
def args0 : Array Value := #[.int 5]
def aboutOver (below : List Frame) : State where
  vm := { classes := classes, interned := interned.toArray }
  heap := heap
  slotsUsed := slotsUsed
  threads := #[{ frames := .invoking theMethod args0 :: below }]
def below0 : List Frame := [.native { method := ⟨0, 0⟩, args := #[] }]
def about1 : State := aboutOver below0
def p0 : Program := .bare "" "" ""
def e0 : Env := launch0.env 0 0 0
theorem w_frames : about1.frames = Frame.invoking theMethod args0 :: below0 := rfl
set_option maxRecDepth 65536 in
theorem w_args : argsFit about1.vm theMethod args0 = true := by decide +kernel
set_option maxRecDepth 65536 in
theorem w_heap : heapFits about1 = true := by decide +kernel
set_option maxRecDepth 65536 in
theorem w_runnable : about1.curStatus? = some .runnable := by decide +kernel
set_option maxRecDepth 65536 in
theorem w_alone : about1.alone = true := by decide +kernel
set_option maxRecDepth 65536 in
theorem w_named : about1.methodNamed? x = some theMethod := by decide +kernel
set_option maxRecDepth 65536 in
theorem w_hears : about1.hears theMethod below0 = true := by decide +kernel
set_option maxRecDepth 65536 in
theorem w_ripe : about1.ripe theMethod args0 below0 = true := by decide +kernel
theorem w_running : about1.status = .running := rfl
set_option maxRecDepth 65536 in
theorem w_room : about1.hasRoom e0.platform room_1 = true :=
  launch0.hasRoom_least _ room_1 (by decide +kernel) (by decide +kernel) (by decide +kernel) (by decide +kernel) (by decide +kernel) (by decide +kernel)
theorem allAtoms_all (ts : List Jvm.Cond) (a : Array Jvm.Value) (st : Jvm.State) : (allAtoms ts).before a st = ts.all (fun c => c.before a st) := by
  induction ts with
  | nil => rfl
  | cons c t ih =>
    show (Jvm.Cond.and c (allAtoms t)).before a st = _
    rw [Jvm.Cond.before_and, ih, List.all_cons]
def words1 : List Jvm.Cond := Jvm.Cond.code x code maxLocals ret :: tables_1
/-- a 'code' word, met by the world's own term for the bytes: nothing is compared byte by byte -/
theorem code_word {y : MethodName} {bytes : ByteArray} {mx : Nat} {rt : Option FieldType} {a : Array Value} {s : State} {m : MethodId} {meth : Method} {c : Code} (h1 : s.methodNamed? y = some m) (h2 : s.vm.method? m = some meth) (h3 : meth.code = some c) (h4 : c.code = bytes)
    (h5 : (c.maxLocals == mx && c.exceptionTable.isEmpty && decide (c.maxStack ≤ mostOperands) && decide (meth.sig.returnType = rt) && !meth.locks && decide (parseMethodDescriptor y.desc = some meth.sig)) = true) : (Jvm.Cond.code y bytes mx rt).before a s = true := by
  simp only [Bool.and_eq_true, beq_iff_eq, Bool.not_eq_true', decide_eq_true_eq] at h5
  obtain ⟨⟨⟨⟨⟨g1, g2⟩, g3⟩, g4⟩, g5⟩, g6⟩ := h5
  simp [Cond.before, Cond.holds, Cond.value, h1, h2, h3, h4, g1, g2, g3, g4, g5, g6]
def isCode : Jvm.Cond → Bool
  | .code _ _ _ _ => true
  | _ => false
theorem all_split {L : List Jvm.Cond} {P : Jvm.Cond → Bool} (h1 : L.all (fun c => isCode c || P c) = true) (h2 : ∀ c ∈ L.filter isCode, P c = true) : L.all P = true := by
  refine List.all_eq_true.mpr fun c hc => ?_
  have h := List.all_eq_true.mp h1 c hc
  rcases Bool.eq_false_or_eq_true (isCode c) with hi | hi
  · exact h2 c (List.mem_filter.mpr ⟨hc, hi⟩)
  · simpa [hi] using h
set_option maxRecDepth 65536 in
theorem w_c0 : (Jvm.Cond.code x code maxLocals ret).before args0 about1 = true := code_word (m := ⟨1, 2⟩) (meth := k1m2) (c := k1c2) (by decide +kernel) rfl rfl rfl (by decide +kernel)
set_option maxRecDepth 65536 in
theorem w_c1 : (Jvm.Cond.code ({ cls := "com/example/uscio/uscio/core/PrimitiveKindRemovesPinLaw", name := "kindAt", desc := "(I)Lcom/example/uscio/uscio/core/PrimitiveKind;" } : Jvm.MethodName) method_2_code (1 : Nat) (Option.some (Jvm.ClassFile.FieldType.object "com/example/uscio/uscio/core/PrimitiveKind"))).before args0 about1 = true := code_word (m := ⟨1, 1⟩) (meth := k1m1) (c := k1c1) (by decide +kernel) rfl rfl rfl (by decide +kernel)
set_option maxRecDepth 65536 in
theorem w_c2 : (Jvm.Cond.code ({ cls := "com/example/uscio/uscio/core/PrimitiveKind", name := "removes", desc := "()Z" } : Jvm.MethodName) prog_112_method_8_code (1 : Nat) (Option.some Jvm.ClassFile.FieldType.boolean)).before args0 about1 = true := code_word (m := ⟨6, 0⟩) (meth := k6m0) (c := k6c0) (by decide +kernel) rfl rfl rfl (by decide +kernel)
def codes1 : List Jvm.Cond := [Jvm.Cond.code x code maxLocals ret, Jvm.Cond.code ({ cls := "com/example/uscio/uscio/core/PrimitiveKindRemovesPinLaw", name := "kindAt", desc := "(I)Lcom/example/uscio/uscio/core/PrimitiveKind;" } : Jvm.MethodName) method_2_code (1 : Nat) (Option.some (Jvm.ClassFile.FieldType.object "com/example/uscio/uscio/core/PrimitiveKind")), Jvm.Cond.code ({ cls := "com/example/uscio/uscio/core/PrimitiveKind", name := "removes", desc := "()Z" } : Jvm.MethodName) prog_112_method_8_code (1 : Nat) (Option.some Jvm.ClassFile.FieldType.boolean)]
set_option maxRecDepth 65536 in
theorem codes_eq : words1.filter isCode = codes1 := rfl
theorem w_codes : ∀ c ∈ words1.filter isCode, c.before args0 about1 = true := by
  rw [codes_eq]
  intro c hc
  simp only [codes1, List.mem_cons, List.not_mem_nil, or_false] at hc
  rcases hc with rfl | rfl | rfl
  · exact w_c0
  · exact w_c1
  · exact w_c2
set_option maxRecDepth 65536 in
theorem w_t1 : (words1.take 24).all (fun c => isCode c || c.before args0 about1) = true := by decide +kernel
set_option maxRecDepth 65536 in
theorem w_t2 : (words1.drop 24).all (fun c => isCode c || c.before args0 about1) = true := by decide +kernel
theorem w_tables : (allAtoms (Jvm.Cond.code x code maxLocals ret :: tables_1)).before args0 about1 = true := by
  rw [allAtoms_all]
  show words1.all (fun c => c.before args0 about1) = true
  refine all_split ?_ w_codes
  rw [← List.take_append_drop 24 words1, List.all_append, w_t1, w_t2]
  rfl
set_option maxRecDepth 65536 in
theorem w_case : (Jvm.Cond.and given_1 narrow_1).before args0 about1 = true := by decide +kernel
theorem w_applies : (headSpec (Jvm.Cond.code x code maxLocals ret :: tables_1) room_1).applies x e0.platform about1 = true :=
  (Spec.applies_iff w_frames).mpr ⟨w_running, w_runnable, w_alone, w_named, w_hears, w_ripe, w_room, w_tables⟩
theorem atStart : AtStart classFile x code maxLocals ret World_1 tables_1 room_1 Calls_1 rest_1 Pre_1 launch0 p0 e0 about1 theMethod args0 below0 :=
  ⟨lists_1, trivial, launch0.admits_env _ _ _, launch0.least_env, fairChoices_fair.cas, fairChoices_fair.clock, w_frames, w_args, w_heap, w_applies, trivial, trivial, w_case⟩
end start1
theorem witness_1 : WitnessClaimed_1 := ⟨start1.p0, start1.e0, start1.about1, start1.theMethod, start1.args0, start1.below0, start1.atStart⟩
end Jvm.Pilot.@@N@@
