import JvmDerived
import JvmDerived.Pilot.@@N@@Statement
import JvmDerived.Pilot.@@N@@Code
set_option linter.unusedVariables false
set_option linter.unusedSimpArgs false
namespace Jvm.Pilot.@@N@@
open Jvm Jvm.ClassFile Sem Op Lib Jvm.Free Jvm.Stand Jvm.LawKit Jvm.RoadKit Bundle Jvm.Pilot.@@N@@.Jvm.D
section Own
variable {p : Program} {l : Launch} {e : Env} {R : Room} {s : State} {m : MethodId} {args : Array Value} {below : List Frame} {meth : Method} {c : Code} {T : State} {locs : List Loc} {cells slots : Nat} {Q : Option Value → Heap → List Loc → Prop} {rc rs : Nat} {G : Outcome → State → Prop} {Ls : Array Slot} {st : List Value} {Z : State} {a0 : Array Value} {h : Heap} {pc : Nat}
/-- what is left of a body's walk: from U it comes to its end, of which G holds -/
def OwnW (p : Program) (e : Env) (below : List Frame) (G : Outcome → State → Prop) (U : State) : Prop :=
  ∃ s₂ o, Steps p.tables e below U s₂ ∧ s₂.status = .running ∧ Ended s₂ below o ∧ G o s₂
/-- it returned, Q holds of what it returned, the heap and the written places; the frame -/
def OwnG (s : State) (Q : Option Value → Heap → List Loc → Prop) (rc rs : Nat) (o : Outcome) (t : State) : Prop := ∃ v L, o = .returned v ∧ Q v t.heap L ∧ FrameEnd s o t L rc rs
theorem OwnW.go {U V : State} (k : OwnW p e below G V) (st : ∀ t, Steps p.tables e below V t → Steps p.tables e below U t) : OwnW p e below G U := by
  obtain ⟨s₂, o, h1, h2⟩ := k
  exact ⟨s₂, o, st _ h1, h2⟩
theorem OwnW.tr {U V : State} (k : OwnW p e below G V) (st : Steps p.tables e below U V) : OwnW p e below G U := k.go fun _ h => st.trans h
theorem own_aload (X : Stand p l e R s m args below meth c T locs cells slots) (hx : p.tables.exec = Jvm.exec) {k : Nat} {v : Value} (hd : decode c.code pc = .ok (.aload k, 2)) (hl : Ls[k]? = some (.val v)) (hv : v.isRef = true) (pc' : Nat) (hp : pc + 2 = pc')
    (K : OwnW p e below G (T.setTop (mkF m pc' Ls (v :: st)))) : OwnW p e below G (T.setTop (mkF m pc Ls st)) := by
  subst hp; exact K.go fun _ k => XS.aload X.here hx rfl hd hl hv k
theorem own_aloadN (X : Stand p l e R s m args below meth c T locs cells slots) (hx : p.tables.exec = Jvm.exec) {k : Fin 4} {v : Value} (hd : decode c.code pc = .ok (.aload_n k, 1)) (hl : Ls[k.val]? = some (.val v)) (hv : v.isRef = true) (pc' : Nat) (hp : pc + 1 = pc')
    (K : OwnW p e below G (T.setTop (mkF m pc' Ls (v :: st)))) : OwnW p e below G (T.setTop (mkF m pc Ls st)) := by
  subst hp; exact K.go fun _ k => XS.aloadN X.here hx rfl hd hl hv k
theorem own_iload (X : Stand p l e R s m args below meth c T locs cells slots) (hx : p.tables.exec = Jvm.exec) {k : Nat} {v : Int32} (hd : decode c.code pc = .ok (.iload k, 2)) (hl : Ls[k]? = some (.val (.int v))) (pc' : Nat) (hp : pc + 2 = pc')
    (K : OwnW p e below G (T.setTop (mkF m pc' Ls (.int v :: st)))) : OwnW p e below G (T.setTop (mkF m pc Ls st)) := by
  subst hp; exact K.go fun _ k => XS.iload X.here hx rfl hd hl k
theorem own_iloadN (X : Stand p l e R s m args below meth c T locs cells slots) (hx : p.tables.exec = Jvm.exec) {k : Fin 4} {v : Int32} (hd : decode c.code pc = .ok (.iload_n k, 1)) (hl : Ls[k.val]? = some (.val (.int v))) (pc' : Nat) (hp : pc + 1 = pc')
    (K : OwnW p e below G (T.setTop (mkF m pc' Ls (.int v :: st)))) : OwnW p e below G (T.setTop (mkF m pc Ls st)) := by
  subst hp; exact K.go fun _ k => XS.iloadN X.here hx rfl hd hl k
theorem own_lload (X : Stand p l e R s m args below meth c T locs cells slots) (hx : p.tables.exec = Jvm.exec) {k : Nat} {v : Int64} (hd : decode c.code pc = .ok (.lload k, 2)) (hl : Ls[k]? = some (.val (.long v))) (pc' : Nat) (hp : pc + 2 = pc')
    (K : OwnW p e below G (T.setTop (mkF m pc' Ls (.long v :: st)))) : OwnW p e below G (T.setTop (mkF m pc Ls st)) := by
  subst hp; exact K.go fun _ k => XS.lload X.here hx rfl hd hl k
theorem own_lloadN (X : Stand p l e R s m args below meth c T locs cells slots) (hx : p.tables.exec = Jvm.exec) {k : Fin 4} {v : Int64} (hd : decode c.code pc = .ok (.lload_n k, 1)) (hl : Ls[k.val]? = some (.val (.long v))) (pc' : Nat) (hp : pc + 1 = pc')
    (K : OwnW p e below G (T.setTop (mkF m pc' Ls (.long v :: st)))) : OwnW p e below G (T.setTop (mkF m pc Ls st)) := by
  subst hp; exact K.go fun _ k => XS.lloadN X.here hx rfl hd hl k
theorem own_istore (X : Stand p l e R s m args below meth c T locs cells slots) (hx : p.tables.exec = Jvm.exec) {k : Nat} {x : Int32} (hd : decode c.code pc = .ok (.istore k, 2)) (Ls' : Array Slot) (hl : storeLocals Ls k (.int x) = some Ls') (pc' : Nat) (hp : pc + 2 = pc')
    (K : OwnW p e below G (T.setTop (mkF m pc' Ls' st))) : OwnW p e below G (T.setTop (mkF m pc Ls (.int x :: st))) := by
  subst hp; exact K.go fun _ k => XS.istore X.here hx rfl hd rfl hl k
theorem own_istoreN (X : Stand p l e R s m args below meth c T locs cells slots) (hx : p.tables.exec = Jvm.exec) {k : Fin 4} {x : Int32} (hd : decode c.code pc = .ok (.istore_n k, 1)) (Ls' : Array Slot) (hl : storeLocals Ls k.val (.int x) = some Ls') (pc' : Nat) (hp : pc + 1 = pc')
    (K : OwnW p e below G (T.setTop (mkF m pc' Ls' st))) : OwnW p e below G (T.setTop (mkF m pc Ls (.int x :: st))) := by
  subst hp; exact K.go fun _ k => XS.istoreN X.here hx rfl hd rfl hl k
theorem own_lstore (X : Stand p l e R s m args below meth c T locs cells slots) (hx : p.tables.exec = Jvm.exec) {k : Nat} {x : Int64} (hd : decode c.code pc = .ok (.lstore k, 2)) (Ls' : Array Slot) (hl : storeLocals Ls k (.long x) = some Ls') (pc' : Nat) (hp : pc + 2 = pc')
    (K : OwnW p e below G (T.setTop (mkF m pc' Ls' st))) : OwnW p e below G (T.setTop (mkF m pc Ls (.long x :: st))) := by
  subst hp; exact K.go fun _ k => XS.lstore X.here hx rfl hd rfl hl k
theorem own_lstoreN (X : Stand p l e R s m args below meth c T locs cells slots) (hx : p.tables.exec = Jvm.exec) {k : Fin 4} {x : Int64} (hd : decode c.code pc = .ok (.lstore_n k, 1)) (Ls' : Array Slot) (hl : storeLocals Ls k.val (.long x) = some Ls') (pc' : Nat) (hp : pc + 1 = pc')
    (K : OwnW p e below G (T.setTop (mkF m pc' Ls' st))) : OwnW p e below G (T.setTop (mkF m pc Ls (.long x :: st))) := by
  subst hp; exact K.go fun _ k => XS.lstoreN X.here hx rfl hd rfl hl k
theorem own_astore (X : Stand p l e R s m args below meth c T locs cells slots) (hx : p.tables.exec = Jvm.exec) {k : Nat} {x : Value} (hd : decode c.code pc = .ok (.astore k, 2)) (hv : x.isRef = true) (Ls' : Array Slot) (hl : storeLocals Ls k x = some Ls') (pc' : Nat) (hp : pc + 2 = pc')
    (K : OwnW p e below G (T.setTop (mkF m pc' Ls' st))) : OwnW p e below G (T.setTop (mkF m pc Ls (x :: st))) := by
  subst hp; exact K.go fun _ k => XS.astore X.here hx rfl hd rfl hv hl k
theorem own_astoreN (X : Stand p l e R s m args below meth c T locs cells slots) (hx : p.tables.exec = Jvm.exec) {k : Fin 4} {x : Value} (hd : decode c.code pc = .ok (.astore_n k, 1)) (hv : x.isRef = true) (Ls' : Array Slot) (hl : storeLocals Ls k.val x = some Ls') (pc' : Nat) (hp : pc + 1 = pc')
    (K : OwnW p e below G (T.setTop (mkF m pc' Ls' st))) : OwnW p e below G (T.setTop (mkF m pc Ls (x :: st))) := by
  subst hp; exact K.go fun _ k => XS.astoreN X.here hx rfl hd rfl hv hl k
theorem own_iinc (X : Stand p l e R s m args below meth c T locs cells slots) (hx : p.tables.exec = Jvm.exec) {k : Nat} {cst : Int} {x : Int32} (hd : decode c.code pc = .ok (.iinc k cst, 3)) (hl : Ls[k]? = some (.val (.int x))) (Ls' : Array Slot) (hl' : storeLocals Ls k (.int (x + Int32.ofInt cst)) = some Ls') (pc' : Nat) (hp : pc + 3 = pc')
    (K : OwnW p e below G (T.setTop (mkF m pc' Ls' st))) : OwnW p e below G (T.setTop (mkF m pc Ls st)) := by
  subst hp; exact K.go fun _ k => XS.iinc X.here hx rfl hd hl hl' k
theorem own_iconst (X : Stand p l e R s m args below meth c T locs cells slots) (hx : p.tables.exec = Jvm.exec) {i : Int} (hd : decode c.code pc = .ok (.iconst i, 1)) (v : Int32) (hv : Int32.ofInt i = v) (pc' : Nat) (hp : pc + 1 = pc')
    (K : OwnW p e below G (T.setTop (mkF m pc' Ls (.int v :: st)))) : OwnW p e below G (T.setTop (mkF m pc Ls st)) := by
  subst hp hv; exact K.go fun _ k => XS.iconst X.here hx rfl hd k
theorem own_bipush (X : Stand p l e R s m args below meth c T locs cells slots) (hx : p.tables.exec = Jvm.exec) {i : Int} (hd : decode c.code pc = .ok (.bipush i, 2)) (v : Int32) (hv : (Int8.ofInt i).toInt32 = v) (pc' : Nat) (hp : pc + 2 = pc')
    (K : OwnW p e below G (T.setTop (mkF m pc' Ls (.int v :: st)))) : OwnW p e below G (T.setTop (mkF m pc Ls st)) := by
  subst hp hv; exact K.go fun _ k => XS.bipush X.here hx rfl hd k
theorem own_sipush (X : Stand p l e R s m args below meth c T locs cells slots) (hx : p.tables.exec = Jvm.exec) {i : Int} (hd : decode c.code pc = .ok (.sipush i, 3)) (v : Int32) (hv : (Int16.ofInt i).toInt32 = v) (pc' : Nat) (hp : pc + 3 = pc')
    (K : OwnW p e below G (T.setTop (mkF m pc' Ls (.int v :: st)))) : OwnW p e below G (T.setTop (mkF m pc Ls st)) := by
  subst hp hv; exact K.go fun _ k => XS.sipush X.here hx rfl hd k
theorem own_lconst0 (X : Stand p l e R s m args below meth c T locs cells slots) (hx : p.tables.exec = Jvm.exec) (hd : decode c.code pc = .ok (.lconst 0, 1)) (pc' : Nat) (hp : pc + 1 = pc')
    (K : OwnW p e below G (T.setTop (mkF m pc' Ls (.long (0 : Int64) :: st)))) : OwnW p e below G (T.setTop (mkF m pc Ls st)) := by
  subst hp; exact K.go fun _ k => XS.lconst X.here hx rfl hd k
theorem own_lconst1 (X : Stand p l e R s m args below meth c T locs cells slots) (hx : p.tables.exec = Jvm.exec) (hd : decode c.code pc = .ok (.lconst 1, 1)) (pc' : Nat) (hp : pc + 1 = pc')
    (K : OwnW p e below G (T.setTop (mkF m pc' Ls (.long (1 : Int64) :: st)))) : OwnW p e below G (T.setTop (mkF m pc Ls st)) := by
  subst hp; exact K.go fun _ k => XS.lconst X.here hx rfl hd k
theorem own_null (X : Stand p l e R s m args below meth c T locs cells slots) (hx : p.tables.exec = Jvm.exec) (hd : decode c.code pc = .ok (.aconst_null, 1)) (pc' : Nat) (hp : pc + 1 = pc')
    (K : OwnW p e below G (T.setTop (mkF m pc' Ls (.null :: st)))) : OwnW p e below G (T.setTop (mkF m pc Ls st)) := by
  subst hp; exact K.go fun _ k => XS.aconstNull X.here hx rfl hd k
theorem own_ldcI (X : Stand p l e R s m args below meth c T locs cells slots) (hx : p.tables.exec = Jvm.exec) (hZ : Z.Warmed39 s.vm) {own : String} {index : Nat} {v : Int32} (hown : s.vm.findClass own = some m.cls) (w : (Cond.constant own index v).before a0 Z = true) (hd : decode c.code pc = .ok (.ldc index, 2)) (pc' : Nat) (hp : pc + 2 = pc')
    (K : OwnW p e below G (T.setTop (mkF m pc' Ls (.int v :: st)))) : OwnW p e below G (T.setTop (mkF m pc Ls st)) := by
  subst hp; exact K.go (X.ldcInt hx hown (mvT hZ w) (g := mkF m pc Ls st) rfl hd)
theorem own_ldcJ (X : Stand p l e R s m args below meth c T locs cells slots) (hx : p.tables.exec = Jvm.exec) (hZ : Z.Warmed39 s.vm) {own : String} {index : Nat} {v : Int64} (hown : s.vm.findClass own = some m.cls) (w : (Cond.constantLong own index v).before a0 Z = true) (hd : decode c.code pc = .ok (.ldc2_w index, 3)) (pc' : Nat) (hp : pc + 3 = pc')
    (K : OwnW p e below G (T.setTop (mkF m pc' Ls (.long v :: st)))) : OwnW p e below G (T.setTop (mkF m pc Ls st)) := by
  subst hp; exact K.go (X.ldc2Long hx hown (mvT hZ w) (g := mkF m pc Ls st) rfl hd)
theorem own_irem (X : Stand p l e R s m args below meth c T locs cells slots) (hx : p.tables.exec = Jvm.exec) {x y : Int32} (hd : decode c.code pc = .ok (.irem, 1)) (hy : y ≠ 0) (pc' : Nat) (hp : pc + 1 = pc')
    (K : OwnW p e below G (T.setTop (mkF m pc' Ls (.int (x % y) :: st)))) : OwnW p e below G (T.setTop (mkF m pc Ls (.int y :: .int x :: st))) := by
  subst hp; exact K.go fun _ k => iremM X hx rfl hd rfl hy k
theorem own_iadd (X : Stand p l e R s m args below meth c T locs cells slots) (hx : p.tables.exec = Jvm.exec) {x y : Int32} (hd : decode c.code pc = .ok (.iadd, 1)) (pc' : Nat) (hp : pc + 1 = pc')
    (K : OwnW p e below G (T.setTop (mkF m pc' Ls (.int (x + y) :: st)))) : OwnW p e below G (T.setTop (mkF m pc Ls (.int y :: .int x :: st))) := by
  subst hp; exact K.go fun _ k => XS.iadd X.here hx rfl hd rfl k
theorem own_isub (X : Stand p l e R s m args below meth c T locs cells slots) (hx : p.tables.exec = Jvm.exec) {x y : Int32} (hd : decode c.code pc = .ok (.isub, 1)) (pc' : Nat) (hp : pc + 1 = pc')
    (K : OwnW p e below G (T.setTop (mkF m pc' Ls (.int (x - y) :: st)))) : OwnW p e below G (T.setTop (mkF m pc Ls (.int y :: .int x :: st))) := by
  subst hp; exact K.go fun _ k => XS.isub X.here hx rfl hd rfl k
theorem own_imul (X : Stand p l e R s m args below meth c T locs cells slots) (hx : p.tables.exec = Jvm.exec) {x y : Int32} (hd : decode c.code pc = .ok (.imul, 1)) (pc' : Nat) (hp : pc + 1 = pc')
    (K : OwnW p e below G (T.setTop (mkF m pc' Ls (.int (x * y) :: st)))) : OwnW p e below G (T.setTop (mkF m pc Ls (.int y :: .int x :: st))) := by
  subst hp; exact K.go fun _ k => XS.imul X.here hx rfl hd rfl k
theorem own_iand (X : Stand p l e R s m args below meth c T locs cells slots) (hx : p.tables.exec = Jvm.exec) {x y : Int32} (hd : decode c.code pc = .ok (.iand, 1)) (pc' : Nat) (hp : pc + 1 = pc')
    (K : OwnW p e below G (T.setTop (mkF m pc' Ls (.int (x &&& y) :: st)))) : OwnW p e below G (T.setTop (mkF m pc Ls (.int y :: .int x :: st))) := by
  subst hp; exact K.go fun _ k => XS.iand X.here hx rfl hd rfl k
theorem own_ior (X : Stand p l e R s m args below meth c T locs cells slots) (hx : p.tables.exec = Jvm.exec) {x y : Int32} (hd : decode c.code pc = .ok (.ior, 1)) (pc' : Nat) (hp : pc + 1 = pc')
    (K : OwnW p e below G (T.setTop (mkF m pc' Ls (.int (x ||| y) :: st)))) : OwnW p e below G (T.setTop (mkF m pc Ls (.int y :: .int x :: st))) := by
  subst hp; exact K.go fun _ k => XS.ior X.here hx rfl hd rfl k
theorem own_ixor (X : Stand p l e R s m args below meth c T locs cells slots) (hx : p.tables.exec = Jvm.exec) {x y : Int32} (hd : decode c.code pc = .ok (.ixor, 1)) (pc' : Nat) (hp : pc + 1 = pc')
    (K : OwnW p e below G (T.setTop (mkF m pc' Ls (.int (x ^^^ y) :: st)))) : OwnW p e below G (T.setTop (mkF m pc Ls (.int y :: .int x :: st))) := by
  subst hp; exact K.go fun _ k => XS.ixor X.here hx rfl hd rfl k
theorem own_ladd (X : Stand p l e R s m args below meth c T locs cells slots) (hx : p.tables.exec = Jvm.exec) {x y : Int64} (hd : decode c.code pc = .ok (.ladd, 1)) (pc' : Nat) (hp : pc + 1 = pc')
    (K : OwnW p e below G (T.setTop (mkF m pc' Ls (.long (x + y) :: st)))) : OwnW p e below G (T.setTop (mkF m pc Ls (.long y :: .long x :: st))) := by
  subst hp; exact K.go fun _ k => XS.ladd X.here hx rfl hd rfl k
theorem own_lsub (X : Stand p l e R s m args below meth c T locs cells slots) (hx : p.tables.exec = Jvm.exec) {x y : Int64} (hd : decode c.code pc = .ok (.lsub, 1)) (pc' : Nat) (hp : pc + 1 = pc')
    (K : OwnW p e below G (T.setTop (mkF m pc' Ls (.long (x - y) :: st)))) : OwnW p e below G (T.setTop (mkF m pc Ls (.long y :: .long x :: st))) := by
  subst hp; exact K.go fun _ k => XS.lsub X.here hx rfl hd rfl k
theorem own_lmul (X : Stand p l e R s m args below meth c T locs cells slots) (hx : p.tables.exec = Jvm.exec) {x y : Int64} (hd : decode c.code pc = .ok (.lmul, 1)) (pc' : Nat) (hp : pc + 1 = pc')
    (K : OwnW p e below G (T.setTop (mkF m pc' Ls (.long (x * y) :: st)))) : OwnW p e below G (T.setTop (mkF m pc Ls (.long y :: .long x :: st))) := by
  subst hp; exact K.go fun _ k => XS.lmul X.here hx rfl hd rfl k
theorem own_iushr (X : Stand p l e R s m args below meth c T locs cells slots) (hx : p.tables.exec = Jvm.exec) {x y : Int32} (hd : decode c.code pc = .ok (.iushr, 1)) (pc' : Nat) (hp : pc + 1 = pc')
    (K : OwnW p e below G (T.setTop (mkF m pc' Ls (.int ((x.toUInt32 >>> (y &&& 31).toUInt32).toInt32) :: st)))) : OwnW p e below G (T.setTop (mkF m pc Ls (.int y :: .int x :: st))) := by
  subst hp; exact K.go fun _ k => XS.iushr X.here hx rfl hd rfl k
theorem own_i2l (X : Stand p l e R s m args below meth c T locs cells slots) (hx : p.tables.exec = Jvm.exec) {x : Int32} (hd : decode c.code pc = .ok (.i2l, 1)) (pc' : Nat) (hp : pc + 1 = pc')
    (K : OwnW p e below G (T.setTop (mkF m pc' Ls (.long x.toInt64 :: st)))) : OwnW p e below G (T.setTop (mkF m pc Ls (.int x :: st))) := by
  subst hp; exact K.go fun _ k => XS.i2l X.here hx rfl hd rfl k
theorem own_l2i (X : Stand p l e R s m args below meth c T locs cells slots) (hx : p.tables.exec = Jvm.exec) {x : Int64} (hd : decode c.code pc = .ok (.l2i, 1)) (pc' : Nat) (hp : pc + 1 = pc')
    (K : OwnW p e below G (T.setTop (mkF m pc' Ls (.int x.toInt32 :: st)))) : OwnW p e below G (T.setTop (mkF m pc Ls (.long x :: st))) := by
  subst hp; exact K.go fun _ k => XS.l2i X.here hx rfl hd rfl k
theorem own_lcmp (X : Stand p l e R s m args below meth c T locs cells slots) (hx : p.tables.exec = Jvm.exec) {x y : Int64} (hd : decode c.code pc = .ok (.lcmp, 1)) (pc' : Nat) (hp : pc + 1 = pc')
    (K : OwnW p e below G (T.setTop (mkF m pc' Ls (.int (lcmpW x y) :: st)))) : OwnW p e below G (T.setTop (mkF m pc Ls (.long y :: .long x :: st))) := by
  subst hp; exact K.go fun _ k => XS.lcmp X.here hx rfl hd rfl k
theorem own_dup (X : Stand p l e R s m args below meth c T locs cells slots) (hx : p.tables.exec = Jvm.exec) {x : Value} (hd : decode c.code pc = .ok (.dup, 1)) (hc : x.category = 1) (pc' : Nat) (hp : pc + 1 = pc')
    (K : OwnW p e below G (T.setTop (mkF m pc' Ls (x :: x :: st)))) : OwnW p e below G (T.setTop (mkF m pc Ls (x :: st))) := by
  subst hp; exact K.go fun _ k => XS.dup X.here hx rfl hd rfl hc k
theorem own_dup2 (X : Stand p l e R s m args below meth c T locs cells slots) (hx : p.tables.exec = Jvm.exec) {x y : Value} (hd : decode c.code pc = .ok (.dup2, 1)) (hc : x.category = 1) (hc' : y.category = 1) (pc' : Nat) (hp : pc + 1 = pc')
    (K : OwnW p e below G (T.setTop (mkF m pc' Ls (x :: y :: x :: y :: st)))) : OwnW p e below G (T.setTop (mkF m pc Ls (x :: y :: st))) := by
  subst hp; exact K.go fun _ k => XT.dup2 X.here hx rfl hd rfl hc hc' k
theorem own_pop (X : Stand p l e R s m args below meth c T locs cells slots) (hx : p.tables.exec = Jvm.exec) {x : Value} (hd : decode c.code pc = .ok (.pop, 1)) (hc : x.category = 1) (pc' : Nat) (hp : pc + 1 = pc')
    (K : OwnW p e below G (T.setTop (mkF m pc' Ls st))) : OwnW p e below G (T.setTop (mkF m pc Ls (x :: st))) := by
  subst hp; exact K.go fun _ k => XS.pop X.here hx rfl hd rfl hc k
theorem own_goto (X : Stand p l e R s m args below meth c T locs cells slots) (hx : p.tables.exec = Jvm.exec) {o : Int} (hd : decode c.code pc = .ok (.goto o, 3)) (pc' : Nat) (hp : (pc : Int) + o = (pc' : Nat))
    (K : OwnW p e below G (T.setTop (mkF m pc' Ls st))) : OwnW p e below G (T.setTop (mkF m pc Ls st)) := by
  exact K.go fun _ k => XS.goto X.here hx rfl (pc0 := pc) (pc' := pc') rfl hd (by omega) (by omega) k
theorem own_ifY (X : Stand p l e R s m args below meth c T locs cells slots) (hx : p.tables.exec = Jvm.exec) {cd : ClassFile.Cond} {x : Int32} {o : Int} (hd : decode c.code pc = .ok (.ifCond cd o, 3)) (hc : if_icmp.holds cd x 0 = true) (pc' : Nat) (hp : (pc : Int) + o = (pc' : Nat))
    (K : OwnW p e below G (T.setTop (mkF m pc' Ls st))) : OwnW p e below G (T.setTop (mkF m pc Ls (.int x :: st))) := by
  exact K.go fun _ k => XS.ifYes X.here hx rfl (pc0 := pc) (pc' := pc') rfl hd rfl ((if0 _ _).trans hc) (by omega) (by omega) k
theorem own_ifN (X : Stand p l e R s m args below meth c T locs cells slots) (hx : p.tables.exec = Jvm.exec) {cd : ClassFile.Cond} {x : Int32} {o : Int} (hd : decode c.code pc = .ok (.ifCond cd o, 3)) (hc : if_icmp.holds cd x 0 = false) (pc' : Nat) (hp : pc + 3 = pc')
    (K : OwnW p e below G (T.setTop (mkF m pc' Ls st))) : OwnW p e below G (T.setTop (mkF m pc Ls (.int x :: st))) := by
  subst hp; exact K.go fun _ k => XS.ifNo X.here hx rfl hd rfl ((if0 _ _).trans hc) k
theorem own_icmpY (X : Stand p l e R s m args below meth c T locs cells slots) (hx : p.tables.exec = Jvm.exec) {cd : ClassFile.Cond} {x y : Int32} {o : Int} (hd : decode c.code pc = .ok (.if_icmp cd o, 3)) (hc : if_icmp.holds cd x y = true) (pc' : Nat) (hp : (pc : Int) + o = (pc' : Nat))
    (K : OwnW p e below G (T.setTop (mkF m pc' Ls st))) : OwnW p e below G (T.setTop (mkF m pc Ls (.int y :: .int x :: st))) := by
  exact K.go fun _ k => XS.icmpYes X.here hx rfl (pc0 := pc) (pc' := pc') rfl hd rfl hc (by omega) (by omega) k
theorem own_icmpN (X : Stand p l e R s m args below meth c T locs cells slots) (hx : p.tables.exec = Jvm.exec) {cd : ClassFile.Cond} {x y : Int32} {o : Int} (hd : decode c.code pc = .ok (.if_icmp cd o, 3)) (hc : if_icmp.holds cd x y = false) (pc' : Nat) (hp : pc + 3 = pc')
    (K : OwnW p e below G (T.setTop (mkF m pc' Ls st))) : OwnW p e below G (T.setTop (mkF m pc Ls (.int y :: .int x :: st))) := by
  subst hp; exact K.go fun _ k => XS.icmpNo X.here hx rfl hd rfl hc k
theorem own_acmp (X : Stand p l e R s m args below meth c T locs cells slots) (hx : p.tables.exec = Jvm.exec) {cd : ACond} {x y : Value} (h1 : x.isRef = true) (h2 : y.isRef = true) {o : Int} (hd : decode c.code pc = .ok (.if_acmp cd o, 3)) (same : Bool) (hq : decide (x = y) = same) (ho : 0 ≤ (pc : Int) + o) (pc' : Nat) (hp : pc' = if acV cd same = true then ((pc : Int) + o).toNat else pc + 3)
    (K : OwnW p e below G (T.setTop (mkF m pc' Ls st))) : OwnW p e below G (T.setTop (mkF m pc Ls (y :: x :: st))) := by
  exact K.go fun _ k => Jvm.RoadKit.acmp (g := mkF m pc Ls (y :: x :: st)) X hx rfl h1 h2 (pc0 := pc) (pc' := pc') (same := same) rfl hd rfl hq ho hp k
theorem own_ifnullY (X : Stand p l e R s m args below meth c T locs cells slots) (hx : p.tables.exec = Jvm.exec) {o : Int} (hd : decode c.code pc = .ok (.ifnull o, 3)) (pc' : Nat) (hp : (pc : Int) + o = (pc' : Nat))
    (K : OwnW p e below G (T.setTop (mkF m pc' Ls st))) : OwnW p e below G (T.setTop (mkF m pc Ls (.null :: st))) := by
  exact K.go fun _ k => XS.ifnullYes X.here hx rfl (pc0 := pc) (pc' := pc') rfl hd rfl (by omega) (by omega) k
theorem own_ifnullN (X : Stand p l e R s m args below meth c T locs cells slots) (hx : p.tables.exec = Jvm.exec) {o : Int} {b : Addr} (hd : decode c.code pc = .ok (.ifnull o, 3)) (pc' : Nat) (hp : pc + 3 = pc')
    (K : OwnW p e below G (T.setTop (mkF m pc' Ls st))) : OwnW p e below G (T.setTop (mkF m pc Ls (.ref b :: st))) := by
  subst hp; exact K.go fun _ k => XS.ifnullNo X.here hx rfl hd rfl k
theorem own_getF (X : Stand p l e R s m args below meth c T locs cells slots) (hx : p.tables.exec = Jvm.exec) (hZ : Z.Warmed39 s.vm) {own R0 O n d : String} {index : Nat} (hown : s.vm.findClass own = some m.cls) (w : (Cond.fieldLink own index R0 n d).before a0 Z = true) (via : Via Z R0 O n d) (eT : T.heap = h) {a : Addr} {v : Value} (F : Fld Z h a O n d v) (hd : decode c.code pc = .ok (.getfield index, 3)) (pc' : Nat) (hp : pc + 3 = pc')
    (K : ∀ T', Stand p l e R s m args below meth c T' locs cells slots → T'.heap = h → OwnW p e below G (T'.setTop (mkF m pc' Ls (v :: st)))) : OwnW p e below G (T.setTop (mkF m pc Ls (.ref a :: st))) := by
  subst hp
  obtain ⟨T', X', e', st'⟩ := getF X hx hZ hown (host := "") (Or.inl w) via eT F (g := mkF m pc Ls (.ref a :: st)) rfl rfl hd
  exact (K T' X' e').go st'
theorem own_getS (X : Stand p l e R s m args below meth c T locs cells slots) (hx : p.tables.exec = Jvm.exec) (hZ : Z.Warmed39 s.vm) {own R0 O n d : String} {index : Nat} (hown : s.vm.findClass own = some m.cls) (w : (Cond.fieldLink own index R0 n d).before a0 Z = true) (via : Via Z R0 O n d) (eT : T.heap = h) {v : Value} (F : Sta Z h O n d v) (hd : decode c.code pc = .ok (.getstatic index, 3)) (pc' : Nat) (hp : pc + 3 = pc')
    (K : ∀ T', Stand p l e R s m args below meth c T' locs cells slots → T'.heap = h → OwnW p e below G (T'.setTop (mkF m pc' Ls (v :: st)))) : OwnW p e below G (T.setTop (mkF m pc Ls st)) := by
  subst hp
  obtain ⟨T', X', e', st'⟩ := getS (host := "") X hx hZ hown w via eT F (g := mkF m pc Ls st) rfl hd
  exact (K T' X' e').go st'
theorem own_castY (X : Stand p l e R s m args below meth c T locs cells slots) (hx : p.tables.exec = Jvm.exec) (hZ : Z.Warmed39 s.vm) {own C : String} {index : Nat} (hown : s.vm.findClass own = some m.cls) (w : (Cond.classLink own index C).before a0 Z = true) (eT : T.heap = h) {a : Addr} (F : Ins Z h a C true) (hd : decode c.code pc = .ok (.checkcast index, 3)) (pc' : Nat) (hp : pc + 3 = pc')
    (K : ∀ T', Stand p l e R s m args below meth c T' locs cells slots → T'.heap = h → OwnW p e below G (T'.setTop (mkF m pc' Ls (.ref a :: st)))) : OwnW p e below G (T.setTop (mkF m pc Ls (.ref a :: st))) := by
  subst hp
  obtain ⟨T', X', e', st'⟩ := castY X hx hZ hown w eT F (g := mkF m pc Ls (.ref a :: st)) rfl rfl hd
  exact (K T' X' e').go st'
theorem own_instY (X : Stand p l e R s m args below meth c T locs cells slots) (hx : p.tables.exec = Jvm.exec) (hZ : Z.Warmed39 s.vm) {own C : String} {index : Nat} (hown : s.vm.findClass own = some m.cls) (w : (Cond.classLink own index C).before a0 Z = true) (eT : T.heap = h) {a : Addr} (F : Ins Z h a C true) (hd : decode c.code pc = .ok (.instanceof index, 3)) (pc' : Nat) (hp : pc + 3 = pc')
    (K : ∀ T', Stand p l e R s m args below meth c T' locs cells slots → T'.heap = h → OwnW p e below G (T'.setTop (mkF m pc' Ls (.int (1 : Int32) :: st)))) : OwnW p e below G (T.setTop (mkF m pc Ls (.ref a :: st))) := by
  subst hp
  obtain ⟨T', X', e', st'⟩ := instY X hx hZ hown w eT F (g := mkF m pc Ls (.ref a :: st)) rfl rfl hd
  exact (K T' X' e').go st'
theorem own_putF (X : Stand p l e R s m args below meth c T locs cells slots) (hx : p.tables.exec = Jvm.exec) (hZ : Z.Warmed39 s.vm) {own R0 O n d C : String} {index kk : Nat} {ty : FieldType} (hown : s.vm.findClass own = some m.cls) (w : (Cond.fieldLink own index R0 n d).before a0 Z = true) (via : Via Z R0 O n d)
    (eT : T.heap = h) {a : Addr} {v old : Value} (F : Fld Z h a O n d old) (E : Exa Z h a C) (L : (Cond.lays C O n d).before a0 Z = true ∨ ((Cond.laysFinal C O n d).before a0 Z = true ∧ own = O ∧ meth.name = "<init>")) (wi : (Cond.instantiable C kk).before a0 Z = true)
    (hty : parseFieldDescriptor d = some ty) (hn : narrow ty v = v) (hf : fits ty v = true) (hd : decode c.code pc = .ok (.putfield index, 3)) (pc' : Nat) (hp : pc + 3 = pc')
    (K : ∀ T' h', Stand p l e R s m args below meth c T' (locs ++ [⟨a, Jvm.RoadKit.slotOf Z O n d⟩]) cells slots → T'.heap = h' → Wr h h' a (Jvm.RoadKit.slotOf Z O n d) v → OwnW p e below G (T'.setTop (mkF m pc' Ls st))) : OwnW p e below G (T.setTop (mkF m pc Ls (v :: .ref a :: st))) := by
  subst hp
  obtain ⟨T', h', X', e', W', st'⟩ := putF X hx hZ hown (host := "") (Or.inl w) via eT F E L wi hty hn hf (g := mkF m pc Ls (v :: .ref a :: st)) rfl rfl hd
  exact (K T' h' X' e' W').go st'
theorem own_new (X : Stand p l e R s m args below meth c T locs cells slots) (hx : p.tables.exec = Jvm.exec) (hZ : Z.Warmed39 s.vm) {own C : String} {index n : Nat} (hown : s.vm.findClass own = some m.cls) (w : (Cond.classLink own index C).before a0 Z = true) (wi : (Cond.instantiable C n).before a0 Z = true) (wz : (Cond.initialized C).before a0 Z = true) (eT : T.heap = h)
    (hd : decode c.code pc = .ok (.new index, 3)) (hc : cells + 1 ≤ R.cells) (hl : slots + n ≤ R.slots) (pc' : Nat) (hp : pc + 3 = pc')
    (K : ∀ T' h' b, b = h.size → Stand p l e R s m args below meth c T' locs (cells + 1) (slots + n) → T'.heap = h' → Ext h h' → Exa Z h' b C → (∀ {O nm d : String} {ty : FieldType}, Laid Z a0 C O nm d → parseFieldDescriptor d = some ty → Fld Z h' b O nm d (defaultValue ty)) → OwnW p e below G (T'.setTop (mkF m pc' Ls (.ref b :: st)))) : OwnW p e below G (T.setTop (mkF m pc Ls st)) := by
  subst hp
  obtain ⟨T', h', X', e', E', A', D', -, st'⟩ := newO X hx hZ hown w wi wz eT (g := mkF m pc Ls st) rfl hd hc hl
  exact (K T' h' _ rfl X' e' E' A' D').go st'
theorem own_initO (X : Stand p l e R s m args below meth c T locs cells slots) (hx : p.tables.exec = Jvm.exec) (hZ : Z.Warmed39 s.vm) {own : String} {idx : Nat} (hown : s.vm.findClass own = some m.cls) (w1 : (Cond.methodLink own idx Lib.objectInit).before a0 Z = true) (w2 : (Cond.instanceMethod Lib.objectInit).before a0 Z = true)
    (w3 : (Cond.code Lib.objectInit ⟨#[0xb1]⟩ 1 none).before a0 Z = true) (eT : T.heap = h) (hsize : Ls.size = c.maxLocals) {a : Addr} (hd : decode c.code pc = .ok (.invokespecial idx, 3))
    (hf : 1 ≤ R.frames) (W : Nat) (hW : (st.map fun v => v.category).sum ≤ W) (hl : W + 12 ≤ R.locals) (pc' : Nat) (hp : pc + 3 = pc')
    (K : ∀ T', Stand p l e R s m args below meth c T' locs cells slots → T'.heap = h → OwnW p e below G (T'.setTop (mkF m pc' Ls st))) : OwnW p e below G (T.setTop (mkF m pc Ls (.ref a :: st))) := by
  subst hp
  obtain ⟨T', X', e', st'⟩ := initO X hx hZ hown w1 w2 w3 eT (g := mkF m pc Ls (.ref a :: st)) rfl hsize rfl hd hf (W := W) (by show 2 * 0 + _ ≤ _; omega) hl
  exact (K T' X' e').go st'
theorem own_callI {y : MethodName} {bytes : ByteArray} {maxL : Nat} {rm : Room} {Qc : Option Value → Heap → List Loc → Prop} {own : String} {index : Nat} {a : Addr} {argsL : List Value} {ps : List FieldType} {r : Option FieldType}
    (X : Stand p l e R s m args below meth c T locs cells slots) (hx : p.tables.exec = Jvm.exec) (hZ : Z.Warmed39 s.vm) (hown : s.vm.findClass own = some m.cls) (hy1 : y.name = "<init>") (wl : (Cond.methodLink own index y).before a0 Z = true) (wi : (Cond.instanceMethod y).before a0 Z = true)
    (wc : (Cond.code y bytes maxL none).before a0 Z = true) (wz : (Cond.initialized y.cls).before a0 Z = true) (hy : y.cls ≠ "java/lang/invoke/MethodHandle" ∧ y.cls ≠ "java/lang/invoke/VarHandle")
    (hM : MetFree l y (head1 [Cond.code y bytes maxL none] rm) (fun a' U => a' = (.ref a :: argsL).toArray ∧ Z.Warmed39 U.vm ∧ U.heap = h) (fun _ _ _ _ _ => True) (fun _ U o U' => ∃ v L, o = .returned v ∧ Qc v U'.heap L ∧ FrameEnd U o U' L rm.cells rm.slots))
    (eT : T.heap = h) (hd : decode c.code pc = .ok (.invokespecial index, 3)) (hpd : parseMethodDescriptor y.desc = some ⟨ps, r⟩) (hlen : argsL.length = ps.length) (hsz : Ls.size = c.maxLocals)
    {stk : List Value} (hst : stk = argsL.reverse ++ .ref a :: st) (W : Nat) (hW : (st.map fun v => v.category).sum ≤ W) (hf : rm.frames + 1 ≤ R.frames) (hl : W + (maxL + 11) + rm.locals ≤ R.locals) (hc : cells + rm.cells ≤ R.cells) (hs : slots + rm.slots ≤ R.slots) (pc' : Nat) (hp : pc + 3 = pc')
    (K : ∀ T' v L, Stand p l e R s m args below meth c T' (locs ++ L) (cells + rm.cells) (slots + rm.slots) → Qc v T'.heap L → OwnW p e below G (T'.setTop (mkF m pc' Ls (v.toList ++ st)))) : OwnW p e below G (T.setTop (mkF m pc Ls stk)) := by
  subst hp
  obtain ⟨v, _, ⟨T', L', k', n'⟩, -, X', ⟨Lc, hQ, q1, q2, q3⟩, st'⟩ := X.specialBack hx (y := y) hy1 hown (mvT hZ wl) (mvT hZ wi) (mvT hZ wc) hy (backOf (W := W) hM hZ wc wz hf hl) (g := mkF m pc Ls stk) rfl hsz (Steps.refl _) (a := a) (argsL := argsL) (rest := st) (lenOf hpd hlen) hst (by show 2 * 0 + _ ≤ _; omega) hd (fun _ _ => ⟨rfl, eT, hc, hs⟩)
  dsimp only [Pt.U, Pt.locs, Pt.cells, Pt.slots] at X' q1 q2 q3 st' hQ
  subst q1 q2 q3
  exact (K T' v Lc X' hQ).tr st'
theorem own_callIN {y : MethodName} {bytes : ByteArray} {maxL : Nat} {rm : Room} {Qc : Option Value → Heap → List Loc → Prop} {own host : String} {index : Nat} {a : Addr} {argsL : List Value} {ps : List FieldType} {r : Option FieldType}
    (X : Stand p l e R s m args below meth c T locs cells slots) (hx : p.tables.exec = Jvm.exec) (hZ : Z.Warmed39 s.vm) (hown : s.vm.findClass own = some m.cls) (hy1 : y.name = "<init>") (wl : (Cond.methodLinkNest own index y host).before a0 Z = true) (wi : (Cond.instanceMethod y).before a0 Z = true)
    (wc : (Cond.code y bytes maxL none).before a0 Z = true) (wz : (Cond.initialized y.cls).before a0 Z = true) (hy : y.cls ≠ "java/lang/invoke/MethodHandle" ∧ y.cls ≠ "java/lang/invoke/VarHandle")
    (hM : MetFree l y (head1 [Cond.code y bytes maxL none] rm) (fun a' U => a' = (.ref a :: argsL).toArray ∧ Z.Warmed39 U.vm ∧ U.heap = h) (fun _ _ _ _ _ => True) (fun _ U o U' => ∃ v L, o = .returned v ∧ Qc v U'.heap L ∧ FrameEnd U o U' L rm.cells rm.slots))
    (eT : T.heap = h) (hd : decode c.code pc = .ok (.invokespecial index, 3)) (hpd : parseMethodDescriptor y.desc = some ⟨ps, r⟩) (hlen : argsL.length = ps.length) (hsz : Ls.size = c.maxLocals)
    {stk : List Value} (hst : stk = argsL.reverse ++ .ref a :: st) (W : Nat) (hW : (st.map fun v => v.category).sum ≤ W) (hf : rm.frames + 1 ≤ R.frames) (hl : W + (maxL + 11) + rm.locals ≤ R.locals) (hc : cells + rm.cells ≤ R.cells) (hs : slots + rm.slots ≤ R.slots) (pc' : Nat) (hp : pc + 3 = pc')
    (K : ∀ T' v L, Stand p l e R s m args below meth c T' (locs ++ L) (cells + rm.cells) (slots + rm.slots) → Qc v T'.heap L → OwnW p e below G (T'.setTop (mkF m pc' Ls (v.toList ++ st)))) : OwnW p e below G (T.setTop (mkF m pc Ls stk)) := by
  subst hp
  obtain ⟨v, _, ⟨T', L', k', n'⟩, -, X', ⟨Lc, hQ, q1, q2, q3⟩, st'⟩ := X.specialBackNest hx (y := y) hy1 hown (Cond.methodLinkNest_wide hZ wl) (mvT hZ wi) (mvT hZ wc) hy (backOf (W := W) hM hZ wc wz hf hl) (g := mkF m pc Ls stk) rfl hsz (Steps.refl _) (a := a) (argsL := argsL) (rest := st) (lenOf hpd hlen) hst (by show 2 * 0 + _ ≤ _; omega) hd (fun _ _ => ⟨rfl, eT, hc, hs⟩)
  dsimp only [Pt.U, Pt.locs, Pt.cells, Pt.slots] at X' q1 q2 q3 st' hQ
  subst q1 q2 q3
  exact (K T' v Lc X' hQ).tr st'
theorem own_callV {y : MethodName} {bytes : ByteArray} {maxL : Nat} {ret : Option FieldType} {rm : Room} {Qc : Option Value → Heap → List Loc → Prop} {own C : String} {index : Nat} {a : Addr} {argsL : List Value} {ps : List FieldType} {r : Option FieldType}
    (X : Stand p l e R s m args below meth c T locs cells slots) (hx : p.tables.exec = Jvm.exec) (hZ : Z.Warmed39 s.vm) (hown : s.vm.findClass own = some m.cls) (wl : (Cond.methodLink own index y).before a0 Z = true) (wd : (Cond.declares y).before a0 Z = true) (ws : (Cond.selects C y y).before a0 Z = true) (wi : (Cond.instanceMethod y).before a0 Z = true)
    (wc : (Cond.code y bytes maxL ret).before a0 Z = true) (wz : (Cond.initialized y.cls).before a0 Z = true) (hy : y.cls ≠ "java/lang/invoke/MethodHandle" ∧ y.cls ≠ "java/lang/invoke/VarHandle") (E : Exa Z h a C)
    (hM : MetFree l y (head1 [Cond.code y bytes maxL ret] rm) (fun a' U => a' = (.ref a :: argsL).toArray ∧ Z.Warmed39 U.vm ∧ U.heap = h) (fun _ _ _ _ _ => True) (fun _ U o U' => ∃ v L, o = .returned v ∧ Qc v U'.heap L ∧ FrameEnd U o U' L rm.cells rm.slots))
    (eT : T.heap = h) (hd : decode c.code pc = .ok (.invokevirtual index, 3)) (hpd : parseMethodDescriptor y.desc = some ⟨ps, r⟩) (hlen : argsL.length = ps.length) (hsz : Ls.size = c.maxLocals)
    {stk : List Value} (hst : stk = argsL.reverse ++ .ref a :: st) (W : Nat) (hW : (st.map fun v => v.category).sum ≤ W) (hf : rm.frames + 1 ≤ R.frames) (hl : W + (maxL + 11) + rm.locals ≤ R.locals) (hc : cells + rm.cells ≤ R.cells) (hs : slots + rm.slots ≤ R.slots) (pc' : Nat) (hp : pc + 3 = pc')
    (K : ∀ T' v L, Stand p l e R s m args below meth c T' (locs ++ L) (cells + rm.cells) (slots + rm.slots) → Qc v T'.heap L → OwnW p e below G (T'.setTop (mkF m pc' Ls (v.toList ++ st)))) : OwnW p e below G (T.setTop (mkF m pc Ls stk)) := by
  subst hp
  obtain ⟨cq, kq, qa, qb, qc⟩ := isOf hZ eT E
  obtain ⟨v, _, ⟨T', L', k', n'⟩, -, X', ⟨Lc, hQ, q1, q2, q3⟩, st'⟩ := X.virtualBack hx (y := y) (z := y) hown (mvT hZ wl) (mvT hZ wd) (notFace_of_selects (args := #[]) (mvT hZ ws)) (mvT hZ ws) (mvT hZ wi) hy (backOf (W := W) hM hZ wc wz hf hl) qa qc (g := mkF m pc Ls stk) rfl hsz (Steps.refl _) (argsL := argsL) (rest := st) (lenOf hpd hlen) hst (by show 2 * 0 + _ ≤ _; omega) hd (fun _ _ => ⟨rfl, eT, hc, hs⟩)
  dsimp only [Pt.U, Pt.locs, Pt.cells, Pt.slots] at X' q1 q2 q3 st' hQ
  subst q1 q2 q3
  exact (K T' v Lc X' hQ).tr st'
theorem own_callS {y : MethodName} {bytes : ByteArray} {maxL : Nat} {ret : Option FieldType} {rm : Room} {Qc : Option Value → Heap → List Loc → Prop} {own : String} {index : Nat} {argsL : List Value} {ps : List FieldType} {r : Option FieldType}
    (X : Stand p l e R s m args below meth c T locs cells slots) (hx : p.tables.exec = Jvm.exec) (hZ : Z.Warmed39 s.vm) (hown : s.vm.findClass own = some m.cls) (wl : (Cond.methodLink own index y).before a0 Z = true) (wst : (Cond.static y).before a0 Z = true)
    (wc : (Cond.code y bytes maxL ret).before a0 Z = true) (wz : (Cond.initialized y.cls).before a0 Z = true) (hy : y.cls ≠ "java/lang/invoke/MethodHandle" ∧ y.cls ≠ "java/lang/invoke/VarHandle")
    (hM : MetFree l y (head1 [Cond.code y bytes maxL ret] rm) (fun a' U => a' = argsL.toArray ∧ Z.Warmed39 U.vm ∧ U.heap = h) (fun _ _ _ _ _ => True) (fun _ U o U' => ∃ v L, o = .returned v ∧ Qc v U'.heap L ∧ FrameEnd U o U' L rm.cells rm.slots))
    (eT : T.heap = h) (hd : decode c.code pc = .ok (.invokestatic index, 3)) (hpd : parseMethodDescriptor y.desc = some ⟨ps, r⟩) (hlen : argsL.length = ps.length) (hsz : Ls.size = c.maxLocals)
    {stk : List Value} (hst : stk = argsL.reverse ++ st) (W : Nat) (hW : (st.map fun v => v.category).sum ≤ W) (hf : rm.frames + 1 ≤ R.frames) (hl : W + (maxL + 11) + rm.locals ≤ R.locals) (hc : cells + rm.cells ≤ R.cells) (hs : slots + rm.slots ≤ R.slots) (pc' : Nat) (hp : pc + 3 = pc')
    (K : ∀ T' v L, Stand p l e R s m args below meth c T' (locs ++ L) (cells + rm.cells) (slots + rm.slots) → Qc v T'.heap L → OwnW p e below G (T'.setTop (mkF m pc' Ls (v.toList ++ st)))) : OwnW p e below G (T.setTop (mkF m pc Ls stk)) := by
  subst hp
  obtain ⟨v, _, ⟨T', L', k', n'⟩, -, X', ⟨Lc, hQ, q1, q2, q3⟩, st'⟩ := Jvm.LawKit.callS X hx (y := y) hown (mvT hZ wl) (mvT hZ wst) (mvT hZ wz) (mvT hZ wc) hy (backOf (W := W) hM hZ wc wz hf hl) (g := mkF m pc Ls stk) rfl hsz (argsL := argsL) (rest := st) (lenOf hpd hlen) hst (by show 2 * 0 + _ ≤ _; omega) hd (fun _ _ => ⟨rfl, eT, hc, hs⟩)
  dsimp only [Pt.U, Pt.locs, Pt.cells, Pt.slots] at X' q1 q2 q3 st' hQ
  subst q1 q2 q3
  exact (K T' v Lc X' hQ).go st'
theorem own_ret (X : Stand p l e R s m args below meth c T locs cells slots) (hx : p.tables.exec = Jvm.exec) (hlk : meth.locks = false) {w : Value} {t : FieldType} {i : Instr} (hret : meth.sig.returnType = some t) (hn : narrow t w = w)
    (hi : (i = .ireturn ∧ (t = .int ∨ t = .boolean ∨ t = .byte ∨ t = .char ∨ t = .short) ∧ ∃ z, w = .int z) ∨ (i = .lreturn ∧ t = .long ∧ ∃ z, w = .long z) ∨ (i = .dreturn ∧ t = .double ∧ ∃ z, w = .double z) ∨ (i = .freturn ∧ t = .float ∧ ∃ z, w = .float z) ∨ (i = .areturn ∧ t.isReference = true ∧ w.isRef = true))
    (hd : decode c.code pc = .ok (i, 1)) (hc : cells ≤ rc) (hs : slots ≤ rs) (hQ : Q (some w) T.heap locs) : OwnW p e below (OwnG s Q rc rs) (T.setTop (mkF m pc Ls (w :: st))) := by
  obtain ⟨fs, hr, hrun, hended, hW, hsame⟩ := X.leave (v := some w) (fun h => by rw [hret] at h; cases h) hlk
  exact ⟨_, _, retOut X hx hret hn hi hd hr, hrun, hended, _, _, rfl, hQ, ⟨_, rfl⟩, hW, hsame.mono hc hs⟩
theorem own_retI (X : Stand p l e R s m args below meth c T locs cells slots) (hx : p.tables.exec = Jvm.exec) (hlk : meth.locks = false) {z : Int32} (hret : meth.sig.returnType = some .int) (hd : decode c.code pc = .ok (.ireturn, 1)) (hc : cells ≤ rc) (hs : slots ≤ rs) (hQ : Q (some (.int z)) T.heap locs) : OwnW p e below (OwnG s Q rc rs) (T.setTop (mkF m pc Ls (.int z :: st))) :=
  own_ret X hx hlk hret rfl (Or.inl ⟨rfl, Or.inl rfl, z, rfl⟩) hd hc hs hQ
theorem own_retZ (X : Stand p l e R s m args below meth c T locs cells slots) (hx : p.tables.exec = Jvm.exec) (hlk : meth.locks = false) {z : Int32} (hret : meth.sig.returnType = some .boolean) (hz : z = 0 ∨ z = 1) (hd : decode c.code pc = .ok (.ireturn, 1)) (hc : cells ≤ rc) (hs : slots ≤ rs) (hQ : Q (some (.int z)) T.heap locs) : OwnW p e below (OwnG s Q rc rs) (T.setTop (mkF m pc Ls (.int z :: st))) :=
  own_ret X hx hlk hret (by rcases hz with rfl | rfl <;> rfl) (Or.inl ⟨rfl, Or.inr (Or.inl rfl), z, rfl⟩) hd hc hs hQ
theorem own_retJ (X : Stand p l e R s m args below meth c T locs cells slots) (hx : p.tables.exec = Jvm.exec) (hlk : meth.locks = false) {z : Int64} (hret : meth.sig.returnType = some .long) (hd : decode c.code pc = .ok (.lreturn, 1)) (hc : cells ≤ rc) (hs : slots ≤ rs) (hQ : Q (some (.long z)) T.heap locs) : OwnW p e below (OwnG s Q rc rs) (T.setTop (mkF m pc Ls (.long z :: st))) :=
  own_ret X hx hlk hret rfl (Or.inr (Or.inl ⟨rfl, rfl, z, rfl⟩)) hd hc hs hQ
theorem own_retA (X : Stand p l e R s m args below meth c T locs cells slots) (hx : p.tables.exec = Jvm.exec) (hlk : meth.locks = false) {w : Value} {t : FieldType} (hret : meth.sig.returnType = some t) (ht : t.isReference = true) (hw : w.isRef = true) (hn : narrow t w = w) (hd : decode c.code pc = .ok (.areturn, 1)) (hc : cells ≤ rc) (hs : slots ≤ rs) (hQ : Q (some w) T.heap locs) : OwnW p e below (OwnG s Q rc rs) (T.setTop (mkF m pc Ls (w :: st))) :=
  own_ret X hx hlk hret hn (Or.inr (Or.inr (Or.inr (Or.inr ⟨rfl, ht, hw⟩)))) hd hc hs hQ
theorem own_retV (X : Stand p l e R s m args below meth c T locs cells slots) (hx : p.tables.exec = Jvm.exec) (hlk : meth.locks = false) (hret : meth.sig.returnType = none) (hd : decode c.code pc = .ok (.return_, 1)) (hc : cells ≤ rc) (hs : slots ≤ rs) (hQ : Q none T.heap locs) : OwnW p e below (OwnG s Q rc rs) (T.setTop (mkF m pc Ls [])) := by
  obtain ⟨fs, hr, hrun, hended, hW, hsame⟩ := X.leave (v := none) (fun _ => rfl) hlk
  exact ⟨_, _, X.returnOut hx hret hd hr, hrun, hended, _, _, rfl, hQ, ⟨_, rfl⟩, hW, hsame.mono hc hs⟩
/-- a cell that is no class's statics -/
def OwnP (h : Heap) (x : Addr) : Prop := ∃ cell : Cell, h[x]? = some cell ∧ cell.vm.isStatics = false
theorem own_pE {a : Addr} {C : String} (E : Exa Z h a C) : OwnP h a := by obtain ⟨cell, k, h1, -, -, h4, -⟩ := E; exact ⟨cell, h1, h4⟩
theorem own_pV {a : Addr} {k : ClassId} {ty : FieldType} {n : Int32} {vs : List Value} {dv : Value} (F : Arv Z h a k ty n vs dv) : OwnP h a := by obtain ⟨cl, A, -⟩ := F; exact ⟨cl, A.1, A.plain⟩
theorem own_sta_keep {h' : Heap} {C n d : String} {v : Value} {ws : List Addr} (F : Sta Z h C n d v) (K : Keep h h' ws) (q : ∀ x ∈ ws, OwnP h x) : Sta Z h' C n d v := by
  obtain ⟨cf, i, k, f, st, cell, h1, h2, h3, h4, h5, h6, h7⟩ := F
  refine ⟨cf, i, k, f, st, cell, h1, h2, h3, h4, K.2.1 st cell h5 (fun z => ?_), h6, h7⟩
  obtain ⟨cell', e1, e2⟩ := q st z
  cases h5.symm.trans e1
  rw [h6] at e2; cases e2
theorem own_feq {t : Term} {C n d : String} {k : Int32} {a : Addr} (ht : t.eval args s none [] s = some (.ref a)) (hc : (Jvm.Cond.eq (Jvm.Term.field t C n d) (Jvm.Term.int k)).value args s none s [] = some true) : Fld s s.heap a C n d (.int k) := by
  refine Fld.start ?_
  have e := fld_at (args := args) (first := s) (o := none) (idx := []) (C := C) (n := n) (dd := d) ht
  rw [← e]
  obtain ⟨x, y, hx, hy, -, -⟩ := cmp_v (Or.inl hc)
  have hy' : y = .int k := Option.some.inj (hy.symm.trans rfl)
  subst hy'
  have h2 := hc
  simp only [Cond.value, hx, hy] at h2
  cases x with
  | int z => simp only [Option.some.injEq, decide_eq_true_eq] at h2; rw [hx, h2]
  | _ => simp at h2
theorem own_newP (X : Stand p l e R s m args below meth c T locs cells slots) (hx : p.tables.exec = Jvm.exec) (hZ : Z.Warmed39 s.vm) {aty : ArrayType} (w : (Cond.arrayClass (newarray.typeOf aty)).before a0 Z = true) (eT : T.heap = h) (hd : decode c.code pc = .ok (.newarray aty, 2)) {n : Int32}
    (hn : ¬ n < 0) (cap : Nat) (hcap : n.toNatClampNeg ≤ cap) (hb : cap * 8 ≤ 536870912) (hc : cells + 1 ≤ R.cells) (hl : slots + cap ≤ R.slots) (pc' : Nat) (hp : pc + 2 = pc')
    (K : ∀ T' h' b cA, b = h.size → Stand p l e R s m args below meth c T' locs (cells + 1) (slots + cap) → T'.heap = h' → Ext h h' → Arr Z h' b (newA cA (newarray.typeOf aty) n) (newarray.typeOf aty) → OwnW p e below G (T'.setTop (mkF m pc' Ls (.ref b :: st)))) : OwnW p e below G (T.setTop (mkF m pc Ls (.int n :: st))) := by
  subst hp
  obtain ⟨T', h', cA, X', e', E', A', st'⟩ := newP X hx hZ w eT (g := mkF m pc Ls (.int n :: st)) rfl hd rfl hn hcap hb hc hl
  exact (K T' h' _ cA rfl X' e' E' A').go st'
theorem own_stZ (X : Stand p l e R s m args below meth c T locs cells slots) (hx : p.tables.exec = Jvm.exec) (hZ : Z.Warmed39 s.vm) (eT : T.heap = h) {a : Addr} {cl : Cell} (A : Arr Z h a cl .boolean) {j x : Int32} (hj : ¬ (j < 0 ∨ cl.slots.size ≤ j.toNatClampNeg)) (hd : decode c.code pc = .ok (.bastore, 1)) (pc' : Nat) (hp : pc + 1 = pc')
    (K : ∀ T' h', Stand p l e R s m args below meth c T' (locs ++ [⟨a, j.toNatClampNeg⟩]) cells slots → T'.heap = h' → Wr h h' a j.toNatClampNeg (.int (nar .boolean x)) → OwnW p e below G (T'.setTop (mkF m pc' Ls st))) : OwnW p e below G (T.setTop (mkF m pc Ls (.int x :: .int j :: .ref a :: st))) := by
  subst hp
  obtain ⟨T', h', X', e', W', st'⟩ := stZ X hx hZ eT A hj (g := mkF m pc Ls (.int x :: .int j :: .ref a :: st)) rfl rfl hd
  exact (K T' h' X' e' W').go st'
theorem own_stJ (X : Stand p l e R s m args below meth c T locs cells slots) (hx : p.tables.exec = Jvm.exec) (hZ : Z.Warmed39 s.vm) (eT : T.heap = h) {a : Addr} {cl : Cell} (A : Arr Z h a cl .long) {j : Int32} {x : Int64} (hj : ¬ (j < 0 ∨ cl.slots.size ≤ j.toNatClampNeg)) (hd : decode c.code pc = .ok (.lastore, 1)) (pc' : Nat) (hp : pc + 1 = pc')
    (K : ∀ T' h', Stand p l e R s m args below meth c T' (locs ++ [⟨a, j.toNatClampNeg⟩]) cells slots → T'.heap = h' → Wr h h' a j.toNatClampNeg (.long x) → OwnW p e below G (T'.setTop (mkF m pc' Ls st))) : OwnW p e below G (T.setTop (mkF m pc Ls (.long x :: .int j :: .ref a :: st))) := by
  subst hp
  obtain ⟨T', h', X', e', W', st'⟩ := stJ X hx hZ eT A hj (g := mkF m pc Ls (.long x :: .int j :: .ref a :: st)) rfl rfl hd
  exact (K T' h' X' e' W').go st'
theorem own_stI (X : Stand p l e R s m args below meth c T locs cells slots) (hx : p.tables.exec = Jvm.exec) (hZ : Z.Warmed39 s.vm) (eT : T.heap = h) {a : Addr} {cl : Cell} (A : Arr Z h a cl .int) {j x : Int32} (hj : ¬ (j < 0 ∨ cl.slots.size ≤ j.toNatClampNeg)) (hd : decode c.code pc = .ok (.iastore, 1)) (pc' : Nat) (hp : pc + 1 = pc')
    (K : ∀ T' h', Stand p l e R s m args below meth c T' (locs ++ [⟨a, j.toNatClampNeg⟩]) cells slots → T'.heap = h' → Wr h h' a j.toNatClampNeg (.int x) → OwnW p e below G (T'.setTop (mkF m pc' Ls st))) : OwnW p e below G (T.setTop (mkF m pc Ls (.int x :: .int j :: .ref a :: st))) := by
  subst hp
  obtain ⟨T', h', X', e', W', st'⟩ := stI X hx hZ eT A hj (g := mkF m pc Ls (.int x :: .int j :: .ref a :: st)) rfl rfl hd
  exact (K T' h' X' e' W').go st'
theorem own_ldZ (X : Stand p l e R s m args below meth c T locs cells slots) (hx : p.tables.exec = Jvm.exec) (hZ : Z.Warmed39 s.vm) (eT : T.heap = h) {a : Addr} {k : ClassId} {n : Int32} {vs : List Value} {dv : Value} (F : Arv Z h a k .boolean n vs dv) {j : Int32} (hj : ¬ j < 0 ∧ j < n) (v : Value) (hv : vs.getD j.toNatClampNeg dv = v) (hd : decode c.code pc = .ok (.baload, 1)) (pc' : Nat) (hp : pc + 1 = pc')
    (K : OwnW p e below G (T.setTop (mkF m pc' Ls (v :: st)))) : OwnW p e below G (T.setTop (mkF m pc Ls (.int j :: .ref a :: st))) := by
  subst hp
  obtain ⟨cl, A, -, S, -, H, -⟩ := F
  have hin := inb_of S hj
  exact K.go (X.baloadBooleans hx (j := j) (v := v) (by rw [eT]; exact A.1) (State.isArrayOf_alike hZ.alike A.2.1) A.2.2 hin (H.at hin hv) (g := mkF m pc Ls (.int j :: .ref a :: st)) rfl rfl hd)
theorem own_ldJ (X : Stand p l e R s m args below meth c T locs cells slots) (hx : p.tables.exec = Jvm.exec) (hZ : Z.Warmed39 s.vm) (eT : T.heap = h) {a : Addr} {k : ClassId} {n : Int32} {vs : List Value} {dv : Value} (F : Arv Z h a k .long n vs dv) {j : Int32} (hj : ¬ j < 0 ∧ j < n) (v : Value) (hv : vs.getD j.toNatClampNeg dv = v) (hd : decode c.code pc = .ok (.laload, 1)) (pc' : Nat) (hp : pc + 1 = pc')
    (K : OwnW p e below G (T.setTop (mkF m pc' Ls (v :: st)))) : OwnW p e below G (T.setTop (mkF m pc Ls (.int j :: .ref a :: st))) := by
  subst hp
  obtain ⟨cl, A, -, S, -, H, -⟩ := F
  have hin := inb_of S hj
  exact K.go (X.laload hx (j := j) (v := v) (by rw [eT]; exact A.1) (State.isArrayOf_alike hZ.alike A.2.1) A.2.2 hin (H.at hin hv) (g := mkF m pc Ls (.int j :: .ref a :: st)) rfl rfl hd)
theorem own_len (X : Stand p l e R s m args below meth c T locs cells slots) (hx : p.tables.exec = Jvm.exec) (hZ : Z.Warmed39 s.vm) (eT : T.heap = h) {a : Addr} {k : ClassId} {ty : FieldType} {n : Int32} {vs : List Value} {dv : Value} (F : Arv Z h a k ty n vs dv) (hd : decode c.code pc = .ok (.arraylength, 1)) (pc' : Nat) (hp : pc + 1 = pc')
    (K : OwnW p e below G (T.setTop (mkF m pc' Ls (.int n :: st)))) : OwnW p e below G (T.setTop (mkF m pc Ls (.ref a :: st))) := by
  subst hp
  obtain ⟨cl, A, -, S, N, -, -⟩ := F
  rw [← len_of S N] at K
  exact K.go (X.arraylength hx (by rw [eT]; exact A.1) (State.isArrayOf_alike hZ.alike A.2.1) (g := mkF m pc Ls (.ref a :: st)) rfl rfl hd)
theorem own_instNull (X : Stand p l e R s m args below meth c T locs cells slots) (hx : p.tables.exec = Jvm.exec) {index : Nat} (hd : decode c.code pc = .ok (.instanceof index, 3)) (pc' : Nat) (hp : pc + 3 = pc')
    (K : OwnW p e below G (T.setTop (mkF m pc' Ls (.int (0 : Int32) :: st)))) : OwnW p e below G (T.setTop (mkF m pc Ls (.null :: st))) := by
  subst hp; exact K.go (X.instanceofNull hx (g := mkF m pc Ls (.null :: st)) rfl rfl hd)
theorem own_instNo (X : Stand p l e R s m args below meth c T locs cells slots) (hx : p.tables.exec = Jvm.exec) (hZ : Z.Warmed39 s.vm) {own C D : String} {index : Nat} (hown : s.vm.findClass own = some m.cls) (w : (Cond.classLink own index C).before a0 Z = true) (eT : T.heap = h) {a : Addr} (E : Exa Z h a D) (F : ∃ c t, Z.vm.findClass D = some c ∧ Z.vm.findClass C = some t ∧ Z.vm.assignable c t = false) (hd : decode c.code pc = .ok (.instanceof index, 3)) (pc' : Nat) (hp : pc + 3 = pc')
    (K : ∀ T', Stand p l e R s m args below meth c T' locs cells slots → T'.heap = h → OwnW p e below G (T'.setTop (mkF m pc' Ls (.int (0 : Int32) :: st)))) : OwnW p e below G (T.setTop (mkF m pc Ls (.ref a :: st))) := by
  subst hp
  obtain ⟨T', X', e', st'⟩ := instNo X hx hZ hown w eT E F (g := mkF m pc Ls (.ref a :: st)) rfl rfl hd
  exact (K T' X' e').go st'
theorem own_ldA (X : Stand p l e R s m args below meth c T locs cells slots) (hx : p.tables.exec = Jvm.exec) (hZ : Z.Warmed39 s.vm) (eT : T.heap = h) {a : Addr} {cl : Cell} {ty : FieldType} (A : Arr Z h a cl ty) (hty : ty.isReference = true) {j : Int32} (hin : ¬ (j < 0 ∨ cl.slots.size ≤ j.toNatClampNeg)) {v : Value} (hv : cl.slots[j.toNatClampNeg]? = some v) (hd : decode c.code pc = .ok (.aaload, 1)) (pc' : Nat) (hp : pc + 1 = pc')
    (K : OwnW p e below G (T.setTop (mkF m pc' Ls (v :: st)))) : OwnW p e below G (T.setTop (mkF m pc Ls (.int j :: .ref a :: st))) := by
  subst hp
  exact K.go (X.aaload hx (j := j) (v := v) (by rw [eT]; exact A.1) (State.isArrayOf_alike hZ.alike A.2.1) hty A.2.2 hin hv (g := mkF m pc Ls (.int j :: .ref a :: st)) rfl rfl hd)
theorem own_cp (X : Stand p l e R s m args below meth c T locs cells slots) (hx : p.tables.exec = Jvm.exec) (hZ : Z.Warmed39 s.vm) {own : String} {index : Nat} (hown : s.vm.findClass own = some m.cls)
    (w1 : (Cond.methodLink own index Jvm.Stand.acN).before a0 Z = true) (w2 : (Cond.native Jvm.Stand.acN).before a0 Z = true) (w3 : (Cond.static Jvm.Stand.acN).before a0 Z = true) (w4 : (Cond.initialized "java/lang/System").before a0 Z = true) (eT : T.heap = h)
    {a b : Addr} {k k' : ClassId} {ty : FieldType} {z z' sp dp nn : Int32} {vs vd : List Value} {dv dd : Value} (A : Arv Z h a k ty z vs dv) (B : Arv Z h b k' ty z' vd dd) (hty : refKind ty = false)
    (h1 : ¬ sp < 0) (h2 : ¬ dp < 0) (h3 : ¬ nn < 0) (h4 : sp.toNatClampNeg + nn.toNatClampNeg ≤ z.toNatClampNeg) (h5 : dp.toNatClampNeg + nn.toNatClampNeg ≤ z'.toNatClampNeg)
    (us : List Value) (hus : us = (List.range nn.toNatClampNeg).map fun i => vs.getD (sp.toNatClampNeg + i) dv) (hl : dp.toNatClampNeg + nn.toNatClampNeg ≤ vd.length) {n0 : Nat} (N : Fr n0 locs) (ge : n0 ≤ b)
    (hsize : Ls.size = c.maxLocals) (hd : decode c.code pc = .ok (.invokestatic index, 3)) (hf : 1 ≤ R.frames) (W : Nat) (hW : (st.map fun v => v.category).sum ≤ W) (hlo : W + (nativeFrameWords "java/lang/System" "arraycopy" 5 + 11) ≤ R.locals) (pc' : Nat) (hp : pc + 3 = pc')
    (K : ∀ T' h' L, Stand p l e R s m args below meth c T' L cells slots → T'.heap = h' → Fr n0 L → Keep h h' [b] → Arv Z h' b k' ty z' (vd.take dp.toNatClampNeg ++ us ++ vd.drop (dp.toNatClampNeg + nn.toNatClampNeg)) dd → OwnW p e below G (T'.setTop (mkF m pc' Ls st))) :
    OwnW p e below G (T.setTop (mkF m pc Ls (.int nn :: .int dp :: .ref b :: .int sp :: .ref a :: st))) := by
  subst hp
  obtain ⟨T', h', L', X', e', N', K', V', st'⟩ := cpA X hx hZ hown w1 w2 w3 w4 eT A B (Or.inl ⟨rfl, hty⟩) h1 h2 h3 h4 h5 hus hl N ge (g := mkF m pc Ls (.int nn :: .int dp :: .ref b :: .int sp :: .ref a :: st)) rfl hsize rfl hd hf (W := W) (by show 2 * 0 + _ ≤ _; omega) hlo
  exact (K T' h' L' X' e' N' K' V').go st'
theorem own_nar01 (x : Int32) : nar .boolean x = 0 ∨ nar .boolean x = 1 := and_one x
theorem own_nar {x : Int32} (h : x = 0 ∨ x = 1) : nar .boolean x = x := by rcases h with rfl | rfl <;> rfl
theorem own_newR (X : Stand p l e R s m args below meth c T locs cells slots) (hx : p.tables.exec = Jvm.exec) (hZ : Z.Warmed39 s.vm) {own C : String} {index : Nat} (hown : s.vm.findClass own = some m.cls) (w1 : (Cond.classLink own index C).before a0 Z = true) (w2 : (Cond.arrayOver (.object C)).before a0 Z = true) (eT : T.heap = h) (hd : decode c.code pc = .ok (.anewarray index, 3)) {n : Int32}
    (hn : ¬ n < 0) (cap : Nat) (hcap : n.toNatClampNeg ≤ cap) (hb : cap * 8 ≤ 536870912) (hc : cells + 1 ≤ R.cells) (hl : slots + cap ≤ R.slots) (pc' : Nat) (hp : pc + 3 = pc')
    (K : ∀ T' h' b cA, b = h.size → Stand p l e R s m args below meth c T' locs (cells + 1) (slots + cap) → T'.heap = h' → Ext h h' → Arr Z h' b (newA cA (.object C) n) (.object C) → Ovr Z cA C → OwnW p e below G (T'.setTop (mkF m pc' Ls (.ref b :: st)))) : OwnW p e below G (T.setTop (mkF m pc Ls (.int n :: st))) := by
  subst hp
  obtain ⟨T', h', cA, X', e', E', A', O', st'⟩ := newR X hx hZ hown w1 w2 eT (g := mkF m pc Ls (.int n :: st)) rfl hd rfl hn hcap hb hc hl
  exact (K T' h' _ cA rfl X' e' E' A' O').go st'
theorem own_stR (X : Stand p l e R s m args below meth c T locs cells slots) (hx : p.tables.exec = Jvm.exec) (hZ : Z.Warmed39 s.vm) (eT : T.heap = h) {a : Addr} {cl : Cell} {ty : FieldType} (A : Arr Z h a cl ty) {j : Int32} {v : Value} (hj : ¬ (j < 0 ∨ cl.slots.size ≤ j.toNatClampNeg)) (hty : ty.isReference = true) (F : Sto Z h a v) (hd : decode c.code pc = .ok (.aastore, 1)) (pc' : Nat) (hp : pc + 1 = pc')
    (K : ∀ T' h', Stand p l e R s m args below meth c T' (locs ++ [⟨a, j.toNatClampNeg⟩]) cells slots → T'.heap = h' → Wr h h' a j.toNatClampNeg v → OwnW p e below G (T'.setTop (mkF m pc' Ls st))) : OwnW p e below G (T.setTop (mkF m pc Ls (v :: .int j :: .ref a :: st))) := by
  subst hp
  obtain ⟨T', h', X', e', W', st'⟩ := stR X hx hZ eT A hj hty F (g := mkF m pc Ls (v :: .int j :: .ref a :: st)) rfl rfl hd
  exact (K T' h' X' e' W').go st'
/-- the end of a walk that loaded a String constant -/
def OwnGW (s : State) (Q : Option Value → Heap → List Loc → Prop) (rc rs : Nat) (o : Outcome) (t : State) : Prop := ∃ v L, o = .returned v ∧ Q v t.heap L ∧ ReturnedEndW s o t L rc rs
theorem own_ldcS (X : Stand p l e R s m args below meth c T locs cells slots) (hx : p.tables.exec = Jvm.exec) (hZ : Z.Warmed39 s.vm) {own text : String} {index : Nat} (hown : s.vm.findClass own = some m.cls) (w : (Cond.stringLink own index text).before a0 Z = true) (wS : ∀ a ∈ Bundle.stringAtoms, a.before a0 Z = true) (eT : T.heap = h)
    (hd : decode c.code pc = .ok (.ldc index, 2)) (n : Nat) (hn : 4 * text.toList.length ≤ n) (hbig : n ≤ 536870912) (hc : cells + 2 ≤ R.cells) (hl : slots + (n + 4) ≤ R.slots) (pc' : Nat) (hp : pc + 2 = pc')
    (K : ∀ s' a T' h' k1, Stand p l e R s' m args below meth c T' locs (cells + 2) (slots + (n + 4)) → T'.heap = h' → Ext h h' → k1 ≤ h'.size → Z.Warmed39 s'.vm → s'.vm.findClass own = some m.cls → OwnW p e below (OwnG s' (fun v hh L => Q v hh L ∧ k1 ≤ hh.size) rc rs) (T'.setTop (mkF m pc' Ls (.ref a :: st)))) : OwnW p e below (OwnGW s Q rc rs) (T.setTop (mkF m pc Ls st)) := by
  subst hp
  obtain ⟨a, T', h', k1, X', e', E', hS, hk, hZ', hown', st'⟩ := ldcS (s := s) (vm0 := s.vm) X hx hZ hown w wS eT ((State.WarmedH.refl s).since h.size) (Nat.le_refl _) (g := mkF m pc Ls st) rfl hd hn hbig hc hl
  obtain ⟨s₂, o, h1, h2, h3, v, L, rfl, ⟨hq, hsz⟩, hF⟩ := K (s.setVm T'.vm) a T' h' k1 X' e' E' hk hZ' hown'
  obtain ⟨a1, b1, c1⟩ := hS.ended (U := s₂) hF.2.1 hsz hF.2.2
  exact ⟨s₂, _, st' _ h1, h2, h3, v, L, rfl, hq, ⟨v, rfl⟩, a1, b1, c1⟩
end Own
section OwnD
variable {p : Program} {l : Launch} {e : Env} {R : Room} {s : State} {m : MethodId} {args : Array Value} {below : List Frame} {meth : Method} {c : Code} {T : State} {locs : List Loc} {cells slots : Nat} {Q : Option Value → Heap → List Loc → Prop} {rc rs : Nat} {G : Outcome → State → Prop} {Ls : Array Slot} {st : List Value} {Z : State} {a0 : Array Value} {h : Heap} {pc : Nat}
theorem own_dload (X : Stand p l e R s m args below meth c T locs cells slots) (hx : p.tables.exec = Jvm.exec) {k : Nat} {v : UInt64} (hd : decode c.code pc = .ok (.dload k, 2)) (hl : Ls[k]? = some (.val (.double v))) (pc' : Nat) (hp : pc + 2 = pc')
    (K : OwnW p e below G (T.setTop (mkF m pc' Ls (.double v :: st)))) : OwnW p e below G (T.setTop (mkF m pc Ls st)) := by
  subst hp; exact K.go fun _ k => XS.dload X.here hx rfl hd hl k
theorem own_dloadN (X : Stand p l e R s m args below meth c T locs cells slots) (hx : p.tables.exec = Jvm.exec) {k : Fin 4} {v : UInt64} (hd : decode c.code pc = .ok (.dload_n k, 1)) (hl : Ls[k.val]? = some (.val (.double v))) (pc' : Nat) (hp : pc + 1 = pc')
    (K : OwnW p e below G (T.setTop (mkF m pc' Ls (.double v :: st)))) : OwnW p e below G (T.setTop (mkF m pc Ls st)) := by
  subst hp; exact K.go fun _ k => XS.dloadN X.here hx rfl hd hl k
theorem own_dstore (X : Stand p l e R s m args below meth c T locs cells slots) (hx : p.tables.exec = Jvm.exec) {k : Nat} {x : UInt64} (hd : decode c.code pc = .ok (.dstore k, 2)) (Ls' : Array Slot) (hl : storeLocals Ls k (.double x) = some Ls') (pc' : Nat) (hp : pc + 2 = pc')
    (K : OwnW p e below G (T.setTop (mkF m pc' Ls' st))) : OwnW p e below G (T.setTop (mkF m pc Ls (.double x :: st))) := by
  subst hp; exact K.go fun _ k => XS.dstore X.here hx rfl hd rfl hl k
theorem own_dstoreN (X : Stand p l e R s m args below meth c T locs cells slots) (hx : p.tables.exec = Jvm.exec) {k : Fin 4} {x : UInt64} (hd : decode c.code pc = .ok (.dstore_n k, 1)) (Ls' : Array Slot) (hl : storeLocals Ls k.val (.double x) = some Ls') (pc' : Nat) (hp : pc + 1 = pc')
    (K : OwnW p e below G (T.setTop (mkF m pc' Ls' st))) : OwnW p e below G (T.setTop (mkF m pc Ls (.double x :: st))) := by
  subst hp; exact K.go fun _ k => XS.dstoreN X.here hx rfl hd rfl hl k
theorem own_i2d (X : Stand p l e R s m args below meth c T locs cells slots) (hx : p.tables.exec = Jvm.exec) {x : Int32} (hd : decode c.code pc = .ok (.i2d, 1)) (pc' : Nat) (hp : pc + 1 = pc')
    (K : OwnW p e below G (T.setTop (mkF m pc' Ls (.double (FP.i2d x) :: st)))) : OwnW p e below G (T.setTop (mkF m pc Ls (.int x :: st))) := by
  subst hp; exact K.go fun _ k => XS.i2dS X.here hx rfl hd rfl rfl k
theorem own_l2d (X : Stand p l e R s m args below meth c T locs cells slots) (hx : p.tables.exec = Jvm.exec) {x : Int64} (hd : decode c.code pc = .ok (.l2d, 1)) (pc' : Nat) (hp : pc + 1 = pc')
    (K : OwnW p e below G (T.setTop (mkF m pc' Ls (.double (FP.l2d x) :: st)))) : OwnW p e below G (T.setTop (mkF m pc Ls (.long x :: st))) := by
  subst hp; exact K.go fun _ k => XS.l2dS X.here hx rfl hd rfl rfl k
theorem own_dadd (X : Stand p l e R s m args below meth c T locs cells slots) (hx : p.tables.exec = Jvm.exec) {x y : UInt64} (hd : decode c.code pc = .ok (.dadd, 1)) (hn : Jvm.Free.Fl.NoNaN64 (FP.dadd x y)) (pc' : Nat) (hp : pc + 1 = pc')
    (K : OwnW p e below G (T.setTop (mkF m pc' Ls (.double (FP.dadd x y) :: st)))) : OwnW p e below G (T.setTop (mkF m pc Ls (.double y :: .double x :: st))) := by
  subst hp; exact K.go fun _ k => XS.daddS X.here hx rfl hd rfl hn rfl k
theorem own_dsub (X : Stand p l e R s m args below meth c T locs cells slots) (hx : p.tables.exec = Jvm.exec) {x y : UInt64} (hd : decode c.code pc = .ok (.dsub, 1)) (hn : Jvm.Free.Fl.NoNaN64 (FP.dsub x y)) (pc' : Nat) (hp : pc + 1 = pc')
    (K : OwnW p e below G (T.setTop (mkF m pc' Ls (.double (FP.dsub x y) :: st)))) : OwnW p e below G (T.setTop (mkF m pc Ls (.double y :: .double x :: st))) := by
  subst hp; exact K.go fun _ k => XS.dsubS X.here hx rfl hd rfl hn rfl k
theorem own_dmul (X : Stand p l e R s m args below meth c T locs cells slots) (hx : p.tables.exec = Jvm.exec) {x y : UInt64} (hd : decode c.code pc = .ok (.dmul, 1)) (hn : Jvm.Free.Fl.NoNaN64 (FP.dmul x y)) (pc' : Nat) (hp : pc + 1 = pc')
    (K : OwnW p e below G (T.setTop (mkF m pc' Ls (.double (FP.dmul x y) :: st)))) : OwnW p e below G (T.setTop (mkF m pc Ls (.double y :: .double x :: st))) := by
  subst hp; exact K.go fun _ k => XS.dmulS X.here hx rfl hd rfl hn rfl k
theorem own_ddiv (X : Stand p l e R s m args below meth c T locs cells slots) (hx : p.tables.exec = Jvm.exec) {x y : UInt64} (hd : decode c.code pc = .ok (.ddiv, 1)) (hn : Jvm.Free.Fl.NoNaN64 (FP.ddiv x y)) (pc' : Nat) (hp : pc + 1 = pc')
    (K : OwnW p e below G (T.setTop (mkF m pc' Ls (.double (FP.ddiv x y) :: st)))) : OwnW p e below G (T.setTop (mkF m pc Ls (.double y :: .double x :: st))) := by
  subst hp; exact K.go fun _ k => XS.ddivS X.here hx rfl hd rfl hn rfl k
theorem own_dcmp (X : Stand p l e R s m args below meth c T locs cells slots) (hx : p.tables.exec = Jvm.exec) {o : CmpOp} {x y : UInt64} (hd : decode c.code pc = .ok (.dcmp o, 1)) (pc' : Nat) (hp : pc + 1 = pc')
    (K : OwnW p e below G (T.setTop (mkF m pc' Ls (.int (cmpValue (FP.dcmp x y) o) :: st)))) : OwnW p e below G (T.setTop (mkF m pc Ls (.double y :: .double x :: st))) := by
  subst hp; exact K.go fun _ k => XS.dcmpS X.here hx rfl hd rfl rfl k
theorem own_ldcD (X : Stand p l e R s m args below meth c T locs cells slots) (hx : p.tables.exec = Jvm.exec) (hZ : Z.Warmed39 s.vm) {own : String} {index : Nat} {v : UInt64} (hown : s.vm.findClass own = some m.cls) (w : (Cond.constantDouble own index v).before a0 Z = true) (hd : decode c.code pc = .ok (.ldc2_w index, 3)) (pc' : Nat) (hp : pc + 3 = pc')
    (K : OwnW p e below G (T.setTop (mkF m pc' Ls (.double v :: st)))) : OwnW p e below G (T.setTop (mkF m pc Ls st)) := by
  subst hp; exact K.go (X.ldc2DoubleC hx hown (mvT hZ w) (g := mkF m pc Ls st) rfl hd)
theorem own_retD (X : Stand p l e R s m args below meth c T locs cells slots) (hx : p.tables.exec = Jvm.exec) (hlk : meth.locks = false) {z : UInt64} (hret : meth.sig.returnType = some .double) (hd : decode c.code pc = .ok (.dreturn, 1)) (hc : cells ≤ rc) (hs : slots ≤ rs) (hQ : Q (some (.double z)) T.heap locs) : OwnW p e below (OwnG s Q rc rs) (T.setTop (mkF m pc Ls (.double z :: st))) :=
  own_ret X hx hlk hret rfl (Or.inr (Or.inr (Or.inl ⟨rfl, rfl, z, rfl⟩))) hd hc hs hQ
end OwnD
end Jvm.Pilot.@@N@@
namespace Jvm.Pilot.@@N@@.Half
open Jvm.FP.Core
/-- the datum twice as great -/
def sh : Datum → Datum
  | .fin s c q => .fin s c (q + 1)
  | d => d
/-- x is k halves -/
def HInt (k : Int) (x : UInt64) : Prop := Whole k (sh (val64 x))
theorem cancel {c c' K : Nat} {a b : Int} (h1 : c * 2 ^ a.toNat = K * 2 ^ (-a).toNat) (h2 : c' * 2 ^ b.toNat = K * 2 ^ (-b).toNat) : c * 2 ^ (a - b).toNat = c' * 2 ^ (b - a).toNat := by
  have e1 : (a - b).toNat + (a.toNat + (-b).toNat - (a - b).toNat) = a.toNat + (-b).toNat := by omega
  have e2 : (b - a).toNat + (a.toNat + (-b).toNat - (a - b).toNat) = b.toNat + (-a).toNat := by omega
  refine Nat.eq_of_mul_eq_mul_right (Nat.two_pow_pos (a.toNat + (-b).toNat - (a - b).toNat)) ?_
  rw [Nat.mul_assoc, ← Nat.pow_add, e1, Nat.mul_assoc, ← Nat.pow_add, e2, Nat.pow_add, Nat.pow_add, ← Nat.mul_assoc, ← Nat.mul_assoc, h1, h2, Nat.mul_assoc, Nat.mul_assoc, Nat.mul_comm (2 ^ (-a).toNat)]
theorem join {c c' K K' : Nat} {a b : Int} (h1 : c * 2 ^ a.toNat = K * 2 ^ (-a).toNat) (h2 : c' * 2 ^ b.toNat = K' * 2 ^ (-b).toNat) : c * c' * 2 ^ (a + b).toNat = K * K' * 2 ^ (-(a + b)).toNat := by
  have e1 : (a + b).toNat + (a.toNat + b.toNat - (a + b).toNat) = a.toNat + b.toNat := by omega
  have e2 : (-(a + b)).toNat + (a.toNat + b.toNat - (a + b).toNat) = (-a).toNat + (-b).toNat := by omega
  refine Nat.eq_of_mul_eq_mul_right (Nat.two_pow_pos (a.toNat + b.toNat - (a + b).toNat)) ?_
  rw [Nat.mul_assoc (c * c'), ← Nat.pow_add, e1, Nat.mul_assoc (K * K'), ← Nat.pow_add, e2, Nat.pow_add, Nat.pow_add]
  calc c * c' * (2 ^ a.toNat * 2 ^ b.toNat) = (c * 2 ^ a.toNat) * (c' * 2 ^ b.toNat) := by ac_rfl
    _ = (K * 2 ^ (-a).toNat) * (K' * 2 ^ (-b).toNat) := by rw [h1, h2]
    _ = K * K' * (2 ^ (-a).toNat * 2 ^ (-b).toNat) := by ac_rfl
theorem units_sh (c : Nat) (q e : Int) : inUnits c (q + 1) (e + 1) = inUnits c q e := by
  unfold inUnits
  rw [show q + 1 - (e + 1) = q - e by omega]
theorem min_sh (q r : Int) : min (q + 1) (r + 1) = min q r + 1 := by omega
theorem sum_sh (x y : Datum) : exactSum (sh x) (sh y) = sh (exactSum x y) := by
  cases x with
  | nan => rfl
  | inf s => cases y <;> simp only [sh, exactSum] <;> (try split) <;> rfl
  | fin s c q =>
    cases y with
    | nan => rfl
    | inf t => rfl
    | fin t d r => simp only [sh, exactSum, sumUnits, min_sh, units_sh]
theorem neg_sh (x : Datum) : negate (sh x) = sh (negate x) := by cases x <;> rfl
theorem order_sh {s t : Bool} {c d : Nat} {q r : Int} : order (.fin s c (q + 1)) (.fin t d (r + 1)) = order (.fin s c q) (.fin t d r) := by
  simp only [order, min_sh, units_sh]
theorem half_of_whole {i : Int} {d : Datum} (h : Whole i d) : Whole (2 * i) (sh d) := by
  cases d with
  | nan => exact h.elim
  | inf => exact h.elim
  | fin s c q =>
    have h1 : signed s (c * 2 ^ q.toNat) = i * ((2 ^ (-q).toNat : Nat) : Int) := h
    show signed s (c * 2 ^ (q + 1).toNat) = 2 * i * ((2 ^ (-(q + 1)).toNat : Nat) : Int)
    by_cases hq : 0 ≤ q
    · rw [show (q + 1).toNat = q.toNat + 1 by omega, show (-(q + 1)).toNat = 0 by omega, Nat.pow_succ, ← Nat.mul_assoc, signed_mul, h1, show (-q).toNat = 0 by omega]
      simp only [Nat.pow_zero]; omega
    · rw [show (q + 1).toNat = 0 by omega]
      rw [show q.toNat = 0 by omega, show (-q).toNat = (-(q + 1)).toNat + 1 by omega, Nat.pow_succ] at h1
      rw [h1]
      rw [Int.natCast_mul, Int.mul_comm 2 i, Int.mul_assoc i 2, Int.mul_comm (2 : Int)]
      rfl
theorem signed_abs {k : Int} {s : Bool} (h : s = decide (k < 0)) : signed s k.natAbs = k := by
  subst h
  unfold signed
  by_cases q : k < 0 <;> simp [q] <;> omega
/-- a fit of the halves -/
theorem fit {k : Int} (hk : k.natAbs ≤ 2 ^ 53) (h0 : k ≠ 0) (s : Bool) (hs : s = decide (k < 0)) : ∃ (c : Nat) (q : Int), Jvm.FP.Core.fits b64 (.fin s c (q - 1)) ∧ c * 2 ^ q.toNat = k.natAbs * 2 ^ (-q).toNat ∧ Whole k (sh (.fin s c (q - 1))) := by
  obtain ⟨c, q, ⟨f1, f2, f3, f4⟩, hv⟩ := natFit good_b64 wide_b64 s (n := k.natAbs) hk
  rw [show (0 - q).toNat = (-q).toNat by omega, show (q - 0).toNat = q.toNat by omega, Nat.mul_one] at hv
  have hq : q ≠ b64.qmin := by
    intro e
    have e2 : b64.qmin = -1074 := by decide +kernel
    rw [e2] at e
    subst e
    rw [show (-(-1074 : Int)).toNat = 1074 from rfl, show (-1074 : Int).toNat = 0 from rfl, Nat.pow_zero, Nat.mul_one] at hv
    have f5 : c < 2 ^ 53 := f1
    have p1 : 1 ≤ k.natAbs := by omega
    have p2 : 2 ^ 1074 ≤ k.natAbs * 2 ^ 1074 := Nat.le_mul_of_pos_left _ p1
    have p3 : (2 : Nat) ^ 53 ≤ 2 ^ 1074 := Nat.pow_le_pow_right (by decide) (by decide)
    omega
  refine ⟨c, q, ⟨f1, by omega, by omega, Or.inr (f4.resolve_left hq)⟩, hv.symm, ?_⟩
  show signed s (c * 2 ^ (q - 1 + 1).toNat) = k * ((2 ^ (-(q - 1 + 1)).toNat : Nat) : Int)
  rw [show q - 1 + 1 = q by omega, ← hv, signed_mul, signed_abs hs]
theorem zero_sh (s : Bool) : Whole 0 (sh (.fin s 0 b64.qmin)) := by
  show signed s (0 * _) = 0 * _
  rw [Nat.zero_mul, Int.zero_mul]; exact signed_zero s
theorem half_round {k : Int} (hk : k.natAbs ≤ 2 ^ 53) {d : Datum} (h : Whole k (sh d)) : Whole k (sh (round b64 d)) := by
  cases d with
  | nan => exact h.elim
  | inf => exact h.elim
  | fin s c q =>
    have h' : Whole k (.fin s c (q + 1)) := h
    by_cases h0 : k = 0
    · have hc := (whole_zero h').mpr h0
      subst hc h0
      exact zero_sh s
    · obtain ⟨c', q', hf, hv, hw⟩ := fit hk h0 s (whole_sign h' h0)
      have e := cancel (whole_natAbs h') hv
      show Whole k (sh (roundRatio b64 s c 1 q))
      rw [roundRatio_exact good_b64 (by decide) hf (by rw [show q - (q' - 1) = q + 1 - q' by omega, show q' - 1 - q = q' - (q + 1) by omega, Nat.mul_one]; exact e)]
      exact hw
theorem h_i2d (a : Int32) : HInt (2 * a.toInt) (i2d a) := half_of_whole (i2d_int a)
theorem h_l2d {a : Int64} (h : a.toInt.natAbs ≤ 2 ^ 53) : HInt (2 * a.toInt) (l2d a) := half_of_whole (l2d_int h)
theorem h_zero : HInt 0 (0 : UInt64) := by
  unfold HInt
  rw [show val64 (0 : UInt64) = .fin false 0 b64.qmin from val64_dconst0]
  exact zero_sh false
theorem h_add {i j : Int} {a b : UInt64} (ha : HInt i a) (hb : HInt j b) (h : (i + j).natAbs ≤ 2 ^ 53) : HInt (i + j) (dadd a b) := by
  unfold HInt
  rw [val64_dadd]
  exact half_round h (by rw [← sum_sh]; exact whole_sum ha hb)
theorem h_sub {i j : Int} {a b : UInt64} (ha : HInt i a) (hb : HInt j b) (h : (i - j).natAbs ≤ 2 ^ 53) : HInt (i - j) (dsub a b) := by
  unfold HInt
  rw [val64_dsub]
  exact half_round h (by rw [← sum_sh, ← neg_sh]; exact whole_sum ha (whole_negate hb))
theorem h_div {k n : Int} {D : Nat} {a b : UInt64} (ha : HInt k a) (hb : Whole (D : Int) (val64 b)) (hD : 0 < D) (hk : k = n * (D : Int)) (hn : n.natAbs ≤ 2 ^ 53) : HInt n (ddiv a b) := by
  unfold HInt at *
  rw [val64_ddiv]
  generalize val64 a = x at ha
  generalize val64 b = y at hb
  cases x with
  | nan => exact ha.elim
  | inf => exact ha.elim
  | fin s c q =>
  cases y with
  | nan => exact hb.elim
  | inf => exact hb.elim
  | fin t d r =>
    have ha' : Whole k (.fin s c (q + 1)) := ha
    have ht : t = false := by rw [whole_sign hb (by omega)]; simp
    have hd : d ≠ 0 := fun e => by have := (whole_zero hb).mp e; omega
    subst ht
    show Whole n (sh (if d = 0 then _ else roundRatio b64 (s != false) c d (q - r)))
    rw [if_neg hd, Bool.bne_false]
    by_cases h0 : n = 0
    · have hk0 : k = 0 := by rw [hk, h0, Int.zero_mul]
      have hc := (whole_zero ha').mpr hk0
      subst hc h0
      exact zero_sh s
    · have hk0 : k ≠ 0 := by rw [hk]; exact Int.mul_ne_zero h0 (by omega)
      have hs : s = decide (n < 0) := by
        rw [whole_sign ha' hk0, hk, decide_eq_decide]
        constructor
        · intro q1
          refine Int.lt_of_not_ge fun q2 => ?_
          have := Int.mul_nonneg q2 (show (0 : Int) ≤ (D : Int) by omega)
          omega
        · intro q1; exact Int.mul_neg_of_neg_of_pos q1 (by omega)
      obtain ⟨c', q', hf, hv, hw⟩ := fit hn h0 s hs
      have e1 := whole_natAbs ha'
      have e2 := whole_natAbs hb
      have e3 := join hv e2
      have e4 : k.natAbs = n.natAbs * ((D : Int)).natAbs := by rw [hk, Int.natAbs_mul]
      rw [e4] at e1
      have e := cancel e1 e3
      rw [roundRatio_exact good_b64 (by omega) hf (by rw [show q - r - (q' - 1) = q + 1 - (q' + r) by omega, show q' - 1 - (q - r) = q' + r - (q + 1) by omega]; exact e)]
      exact hw
theorem h_cmp {k : Int} {a b : UInt64} (ha : HInt k a) (hb : HInt k b) : dcmp a b = some .eq := by
  show order (val64 a) (val64 b) = _
  unfold HInt at *
  generalize val64 a = x at ha
  generalize val64 b = y at hb
  cases x with
  | nan => exact ha.elim
  | inf => exact ha.elim
  | fin s c q =>
  cases y with
  | nan => exact hb.elim
  | inf => exact hb.elim
  | fin t d r =>
    rw [← order_sh]
    exact (order_whole (x := .fin s c (q + 1)) (y := .fin t d (r + 1)) ha hb).trans (by rw [compare_self_int])
end Jvm.Pilot.@@N@@.Half
namespace Jvm.Pilot.@@N@@
open Jvm Jvm.ClassFile Sem Op Lib Jvm.Free Jvm.Stand Jvm.LawKit Jvm.RoadKit Bundle Jvm.Pilot.@@N@@.Jvm.D
theorem pd___V : parseMethodDescriptor "()V" = some ⟨[], none⟩ := by decide +kernel
theorem pd__D_V : parseMethodDescriptor "(D)V" = some ⟨[.double], none⟩ := by decide +kernel
theorem pd___J : parseMethodDescriptor "()J" = some ⟨[], some .long⟩ := by decide +kernel
theorem pd___D : parseMethodDescriptor "()D" = some ⟨[], some .double⟩ := by decide +kernel

open Jvm.FP Jvm.Free.Fl in
theorem own_nn {K B : Nat} {x mu sg : UInt64} {n : Int64} (hx : Mag64 K x) (hm : Mag64 K mu) (hs : Mag64 B sg) (hK : K ≤ 1100 ∧ 2 * K ≤ B + 1013 ∧ B ≤ 1300 ∧ 1000 ≤ K) (hn : n + (1 : Int64) ≠ 0) :
    NoNaN64 (FP.dsub x mu) ∧ NoNaN64 (FP.ddiv (FP.dsub x mu) (FP.l2d (n + (1 : Int64)))) ∧ NoNaN64 (FP.dadd mu (FP.ddiv (FP.dsub x mu) (FP.l2d (n + (1 : Int64))))) ∧ NoNaN64 (FP.dsub x (FP.dadd mu (FP.ddiv (FP.dsub x mu) (FP.l2d (n + (1 : Int64)))))) ∧ NoNaN64 (FP.dmul (FP.dsub x mu) (FP.dsub x (FP.dadd mu (FP.ddiv (FP.dsub x mu) (FP.l2d (n + (1 : Int64))))))) ∧
      NoNaN64 (FP.dadd sg (FP.dmul (FP.dsub x mu) (FP.dsub x (FP.dadd mu (FP.ddiv (FP.dsub x mu) (FP.l2d (n + (1 : Int64)))))))) ∧ Mag64 (K + 5) (FP.dadd mu (FP.ddiv (FP.dsub x mu) (FP.l2d (n + (1 : Int64))))) ∧ Mag64 (B + 2) (FP.dadd sg (FP.dmul (FP.dsub x mu) (FP.dsub x (FP.dadd mu (FP.ddiv (FP.dsub x mu) (FP.l2d (n + (1 : Int64)))))))) := by
  obtain ⟨h1, h2, h3, h4⟩ := hK
  have a1 := dsub_mag hx hm (by omega)
  have a2 := (ddiv_mag a1 (l2d_big hn) (by omega) (by decide)).mono (K' := K + 3) (by omega)
  have a3 := dadd_mag (hm.mono (K' := K + 3) (by omega)) a2 (by omega)
  have a4 := dsub_mag (hx.mono (K' := K + 5) (by omega)) (a3.mono (K' := K + 5) (by omega)) (by omega)
  have a5 := (dmul_mag a1 a4 (by omega) (by omega)).mono (K' := B) (by omega)
  have a6 := dadd_mag hs a5 (by omega)
  exact ⟨(a1.fin (by omega)).noNaN, (a2.fin (by omega)).noNaN, (a3.fin (by omega)).noNaN, (a4.fin (by omega)).noNaN, (a5.fin (by omega)).noNaN, (a6.fin (by omega)).noNaN, a3.mono (by omega), a6⟩
theorem own_mean {x mu : UInt64} {n : Int64} {km kx kd : Int} {D : Nat} (hHx : Half.HInt kx x) (hHm : Half.HInt km mu) (hD : Jvm.FP.Core.Whole (D : Int) (Jvm.FP.Core.val64 (FP.l2d (n + (1 : Int64))))) (hD0 : 0 < D) (hk : kx - km = kd * (D : Int)) (hb1 : (kx - km).natAbs ≤ 2 ^ 53) (hb2 : kd.natAbs ≤ 2 ^ 53) (hb3 : (km + kd).natAbs ≤ 2 ^ 53) :
    Half.HInt (km + kd) (FP.dadd mu (FP.ddiv (FP.dsub x mu) (FP.l2d (n + (1 : Int64))))) :=
  Half.h_add hHm (Half.h_div (Half.h_sub hHx hHm hb1) hD hD0 hk hb2) hb3
theorem own_cmp {k k' : Int} {a b : UInt64} (ha : Half.HInt k a) (hb : Half.HInt k' b) (h : k = k') : cmpValue (FP.dcmp a b) .l = 0 := by
  subst h
  rw [show FP.dcmp a b = some .eq from Half.h_cmp ha hb]; rfl
theorem own_D {n : Int64} (D : Nat) (h : n.toInt = (D : Int)) (hD : D ≤ 1000) : Jvm.FP.Core.Whole (D : Int) (Jvm.FP.Core.val64 (FP.l2d n)) := by
  rw [← h]; exact Jvm.FP.Core.l2d_int (by rw [h]; omega)
theorem own_c (a b m : Int32) : ((((3 : Int64) * (m.toInt64)) - (a.toInt64)) - (b.toInt64)).toInt = 3 * m.toInt - a.toInt - b.toInt := by
  have q1 := c_lmul (3 : Int64) m.toInt64; have q2 := c_lsub ((3 : Int64) * m.toInt64) a.toInt64; have q3 := c_lsub (((3 : Int64) * m.toInt64) - a.toInt64) b.toInt64
  rw [c_i2l, show (3 : Int64).toInt = 3 from rfl] at q1
  rw [c_i2l] at q2 q3
  have r1 := rng32 a; have r2 := rng32 b; have r3 := rng32 m; have r4 := rng64 ((3 : Int64) * m.toInt64); have r5 := rng64 (((3 : Int64) * m.toInt64) - a.toInt64); have r6 := rng64 ((((3 : Int64) * m.toInt64) - a.toInt64) - b.toInt64)
  omega
theorem own_s (a b : Int32) : ((a.toInt64) + (b.toInt64)).toInt = a.toInt + b.toInt := by
  have q1 := c_ladd a.toInt64 b.toInt64
  rw [c_i2l, c_i2l] at q1
  have r1 := rng32 a; have r2 := rng32 b; have r4 := rng64 (a.toInt64 + b.toInt64)
  omega
theorem own_h3 (a b m : Int32) : Half.HInt (2 * (3 * m.toInt - a.toInt - b.toInt)) (FP.l2d ((((3 : Int64) * (m.toInt64)) - (a.toInt64)) - (b.toInt64))) := by
  rw [← own_c]
  refine Half.h_l2d ?_
  rw [own_c]
  have r1 := rng32 a; have r2 := rng32 b; have r3 := rng32 m
  omega
theorem own_two : Jvm.FP.Core.Whole ((2 : Nat) : Int) (Jvm.FP.Core.val64 (4611686018427387904 : UInt64)) := by
  rw [show Jvm.FP.Core.val64 (4611686018427387904 : UInt64) = .fin false (2 ^ 52) (-51) from by decide +kernel]
  show Jvm.FP.Core.signed false (2 ^ 52 * 2 ^ (-51 : Int).toNat) = ((2 : Nat) : Int) * ((2 ^ (-(-51 : Int)).toNat : Nat) : Int)
  decide +kernel
theorem own_h2 (a b : Int32) : Half.HInt (a.toInt + b.toInt) (FP.ddiv (FP.l2d ((a.toInt64) + (b.toInt64))) (4611686018427387904 : UInt64)) := by
  have r1 := rng32 a; have r2 := rng32 b
  have h1 : Half.HInt (2 * (a.toInt + b.toInt)) (FP.l2d ((a.toInt64) + (b.toInt64))) := by
    rw [← own_s]; refine Half.h_l2d ?_; rw [own_s]; omega
  exact Half.h_div h1 own_two (by decide) (by omega) (by omega)
open Jvm.FP Jvm.Free.Fl in
theorem own_n2 (v : Int64) : NoNaN64 (FP.ddiv (FP.l2d v) (4611686018427387904 : UInt64)) :=
  ((ddiv_mag (l2d_mag v) (show Big64 1023 (4611686018427387904 : UInt64) by unfold Big64; decide +kernel) (by decide) (by decide)).fin (by decide)).noNaN
open Jvm.FP Jvm.Free.Fl in
theorem own_m0 (K : Nat) (h : 0 < K) : Mag64 K (0 : UInt64) := by unfold Mag64; show 0 % _ < _; omega
theorem d1_0 : decode prog_137_method_1_code 0 = .ok (.aload_n 0, 1) := by decide +kernel
theorem d1_1 : decode prog_137_method_1_code 1 = .ok (.invokespecial 1, 3) := by decide +kernel
theorem d1_4 : decode prog_137_method_1_code 4 = .ok (.return_, 1) := by decide +kernel
theorem pn_rm1 : plainName "com/example/holdfast/holdfast/Sample" = true := by first | (simp [plainName, overriddenIn]; done) | decide +kernel
theorem ef_rm1 (m : MethodId) (x0 : Addr) : entryFrame m #[(.ref x0)] 1 = mkF m 0 #[.val (.ref x0)] [] := by first | (simp [entryFrame, mkF, argsToLocals, Value.category]; done) | rfl
def Q1 (Z : State) (a1 : Addr) (h0 : Heap) (n0 : Nat) (v : Option Value) (h : Heap) (L : List Loc) : Prop := v = none ∧ Fr n0 L ∧ h = h0
set_option maxRecDepth 65536 in
set_option maxHeartbeats 40000000 in
theorem rm1 (l : Launch) (Z : State) (a0 : Array Value) (hw : ∀ d ∈ tables_1, d.before a0 Z = true) (ws : List Jvm.Cond) (a1 : Addr) (h0 : Heap) (n0 : Nat) (Z0 : n0 ≤ h0.size) :
    MetFree l (⟨"com/example/holdfast/holdfast/Sample", "<init>", "()V"⟩ : MethodName) (head1 (Jvm.Cond.code (⟨"com/example/holdfast/holdfast/Sample", "<init>", "()V"⟩ : MethodName) prog_137_method_1_code 1 none :: ws) ({ frames := 1, cells := 0, slots := 0, locals := 12 } : Room)) (fun a U => a = #[(.ref a1)] ∧ Z.Warmed39 U.vm ∧ U.heap = h0) (fun _ _ _ _ _ => True) (fun _ U o U' => ∃ v L, o = .returned v ∧ Q1 Z a1 h0 n0 v U'.heap L ∧ FrameEnd U o U' L ({ frames := 1, cells := 0, slots := 0, locals := 12 } : Room).cells ({ frames := 1, cells := 0, slots := 0, locals := 12 } : Room).slots) := by
  refine MetFree.of_bodySF (plainFor_of_name pn_rm1) hisR ?_
  intro p e s m args below meth c s₁ Bd hml0 hP hK
  obtain ⟨rfl, hZ, hh⟩ := hP
  have hx := Bd.exec
  have hby := Bd.bytes
  have hlk : meth.locks = false := BodyLoose.notSynchronized Bd
  have hml : c.maxLocals = 1 := hml0
  have hown : s.vm.findClass "com/example/holdfast/holdfast/Sample" = some m.cls := findClass_of_methodNamed Bd.named
  have hnm := (name_of_methodNamed Bd.named Bd.method).1
  have X0 : Stand p l e ({ frames := 1, cells := 0, slots := 0, locals := 12 } : Room) s m #[(.ref a1)] below meth c s₁ [] 0 0 := Stand.of_body Bd
  have e0 : s₁.heap = h0 := by rw [← hh, Bd.state]; rfl
  have N0 := Fr.nil n0
  show OwnW p e below (OwnG s (Q1 Z a1 h0 n0) ({ frames := 1, cells := 0, slots := 0, locals := 12 } : Room).cells ({ frames := 1, cells := 0, slots := 0, locals := 12 } : Room).slots) (s₁.setTop (entryFrame m #[(.ref a1)] 1))
  rw [ef_rm1]
  refine own_aloadN X0 hx (hb hby d1_0) rfl rfl 1 rfl ?_
  refine own_initO X0 hx hZ hown (hw _ (List.mem_of_getElem? (i := 6) rfl)) (hw _ (List.mem_of_getElem? (i := 7) rfl)) (hw _ (List.mem_of_getElem? (i := 8) rfl)) e0 (by rw [hml]; rfl) (hb hby d1_1) (by decide) 0 (Nat.le_of_eq rfl) (by decide) 4 rfl ?_
  intro T1 X1 e1
  refine own_retV X1 hx hlk Bd.returns (hb hby d1_4) (by decide) (by decide) ?_
  show Q1 Z a1 h0 n0 _ T1.heap _
  rw [e1]
  exact ⟨rfl, N0, rfl⟩
theorem d3_0 : decode prog_137_method_2_code 0 = .ok (.aload_n 0, 1) := by decide +kernel
theorem d3_1 : decode prog_137_method_2_code 1 = .ok (.dup, 1) := by decide +kernel
theorem d3_2 : decode prog_137_method_2_code 2 = .ok (.getfield 7, 3) := by decide +kernel
theorem d3_5 : decode prog_137_method_2_code 5 = .ok (.lconst 1, 1) := by decide +kernel
theorem d3_6 : decode prog_137_method_2_code 6 = .ok (.ladd, 1) := by decide +kernel
theorem d3_7 : decode prog_137_method_2_code 7 = .ok (.putfield 7, 3) := by decide +kernel
theorem d3_10 : decode prog_137_method_2_code 10 = .ok (.dload_n 1, 1) := by decide +kernel
theorem d3_11 : decode prog_137_method_2_code 11 = .ok (.aload_n 0, 1) := by decide +kernel
theorem d3_12 : decode prog_137_method_2_code 12 = .ok (.getfield 13, 3) := by decide +kernel
theorem d3_15 : decode prog_137_method_2_code 15 = .ok (.dsub, 1) := by decide +kernel
theorem d3_16 : decode prog_137_method_2_code 16 = .ok (.dstore_n 3, 1) := by decide +kernel
theorem d3_17 : decode prog_137_method_2_code 17 = .ok (.aload_n 0, 1) := by decide +kernel
theorem d3_18 : decode prog_137_method_2_code 18 = .ok (.dup, 1) := by decide +kernel
theorem d3_19 : decode prog_137_method_2_code 19 = .ok (.getfield 13, 3) := by decide +kernel
theorem d3_22 : decode prog_137_method_2_code 22 = .ok (.dload_n 3, 1) := by decide +kernel
theorem d3_23 : decode prog_137_method_2_code 23 = .ok (.aload_n 0, 1) := by decide +kernel
theorem d3_24 : decode prog_137_method_2_code 24 = .ok (.getfield 7, 3) := by decide +kernel
theorem d3_27 : decode prog_137_method_2_code 27 = .ok (.l2d, 1) := by decide +kernel
theorem d3_28 : decode prog_137_method_2_code 28 = .ok (.ddiv, 1) := by decide +kernel
theorem d3_29 : decode prog_137_method_2_code 29 = .ok (.dadd, 1) := by decide +kernel
theorem d3_30 : decode prog_137_method_2_code 30 = .ok (.putfield 13, 3) := by decide +kernel
theorem d3_33 : decode prog_137_method_2_code 33 = .ok (.aload_n 0, 1) := by decide +kernel
theorem d3_34 : decode prog_137_method_2_code 34 = .ok (.dup, 1) := by decide +kernel
theorem d3_35 : decode prog_137_method_2_code 35 = .ok (.getfield 17, 3) := by decide +kernel
theorem d3_38 : decode prog_137_method_2_code 38 = .ok (.dload_n 3, 1) := by decide +kernel
theorem d3_39 : decode prog_137_method_2_code 39 = .ok (.dload_n 1, 1) := by decide +kernel
theorem d3_40 : decode prog_137_method_2_code 40 = .ok (.aload_n 0, 1) := by decide +kernel
theorem d3_41 : decode prog_137_method_2_code 41 = .ok (.getfield 13, 3) := by decide +kernel
theorem d3_44 : decode prog_137_method_2_code 44 = .ok (.dsub, 1) := by decide +kernel
theorem d3_45 : decode prog_137_method_2_code 45 = .ok (.dmul, 1) := by decide +kernel
theorem d3_46 : decode prog_137_method_2_code 46 = .ok (.dadd, 1) := by decide +kernel
theorem d3_47 : decode prog_137_method_2_code 47 = .ok (.putfield 17, 3) := by decide +kernel
theorem d3_50 : decode prog_137_method_2_code 50 = .ok (.return_, 1) := by decide +kernel
theorem pn_rm3 : plainName "com/example/holdfast/holdfast/Sample" = true := by first | (simp [plainName, overriddenIn]; done) | decide +kernel
theorem ef_rm3 (m : MethodId) (x0 : Addr) (x1 : UInt64) : entryFrame m #[(.ref x0), (.double x1)] 5 = mkF m 0 #[.val (.ref x0), .val (.double x1), .second, .unset, .unset] [] := by first | (simp [entryFrame, mkF, argsToLocals, Value.category]; done) | rfl
def Q3 (Z : State) (a1 : Addr) (x : UInt64) (n : Int64) (mu : UInt64) (sg : UInt64) (km : Int) (kx : Int) (kd : Int) (D : Nat) (K : Nat) (B : Nat) (h0 : Heap) (n0 : Nat) (v : Option Value) (h : Heap) (L : List Loc) : Prop := ∃ (mm : UInt64) (ss : UInt64), v = none ∧ Fr n0 L ∧ Keep h0 h [a1] ∧ Exa Z h a1 "com/example/holdfast/holdfast/Sample" ∧ Fld Z h a1 "com/example/holdfast/holdfast/Sample" "count" "J" (.long (n + (1 : Int64))) ∧ Fld Z h a1 "com/example/holdfast/holdfast/Sample" "mean" "D" (.double mm) ∧ Fld Z h a1 "com/example/holdfast/holdfast/Sample" "squares" "D" (.double ss) ∧ Half.HInt (km + kd) mm ∧ Jvm.Free.Fl.Mag64 (K + 5) mm ∧ Jvm.Free.Fl.Mag64 (B + 2) ss
set_option maxRecDepth 65536 in
set_option maxHeartbeats 40000000 in
theorem rm3 (l : Launch) (Z : State) (a0 : Array Value) (hw : ∀ d ∈ tables_1, d.before a0 Z = true) (ws : List Jvm.Cond) (a1 : Addr) (x : UInt64) (n : Int64) (mu : UInt64) (sg : UInt64) (km : Int) (kx : Int) (kd : Int) (D : Nat) (K : Nat) (B : Nat) (h0 : Heap) (n0 : Nat) (Z0 : n0 ≤ h0.size) (E_a1 : Exa Z h0 a1 "com/example/holdfast/holdfast/Sample") (g_a1 : n0 ≤ a1) (F_count_a1 : Fld Z h0 a1 "com/example/holdfast/holdfast/Sample" "count" "J" (.long n)) (F_mean_a1 : Fld Z h0 a1 "com/example/holdfast/holdfast/Sample" "mean" "D" (.double mu)) (F_squares_a1 : Fld Z h0 a1 "com/example/holdfast/holdfast/Sample" "squares" "D" (.double sg)) (hMx : Jvm.Free.Fl.Mag64 K x) (hMm : Jvm.Free.Fl.Mag64 K mu) (hMs : Jvm.Free.Fl.Mag64 B sg) (hKB : K ≤ 1100 ∧ 2 * K ≤ B + 1013 ∧ B ≤ 1300 ∧ 1000 ≤ K) (hn : n + (1 : Int64) ≠ 0) (hD : Jvm.FP.Core.Whole (D : Int) (Jvm.FP.Core.val64 (FP.l2d (n + (1 : Int64))))) (hD0 : 0 < D) (hHx : Half.HInt kx x) (hHm : Half.HInt km mu) (hk : kx - km = kd * (D : Int)) (hb1 : (kx - km).natAbs ≤ 2 ^ 53) (hb2 : kd.natAbs ≤ 2 ^ 53) (hb3 : (km + kd).natAbs ≤ 2 ^ 53) :
    MetFree l (⟨"com/example/holdfast/holdfast/Sample", "add", "(D)V"⟩ : MethodName) (head1 (Jvm.Cond.code (⟨"com/example/holdfast/holdfast/Sample", "add", "(D)V"⟩ : MethodName) prog_137_method_2_code 5 none :: ws) ({ frames := 0, cells := 0, slots := 0, locals := 0 } : Room)) (fun a U => a = #[(.ref a1), (.double x)] ∧ Z.Warmed39 U.vm ∧ U.heap = h0) (fun _ _ _ _ _ => True) (fun _ U o U' => ∃ v L, o = .returned v ∧ Q3 Z a1 x n mu sg km kx kd D K B h0 n0 v U'.heap L ∧ FrameEnd U o U' L ({ frames := 0, cells := 0, slots := 0, locals := 0 } : Room).cells ({ frames := 0, cells := 0, slots := 0, locals := 0 } : Room).slots) := by
  refine MetFree.of_bodySF (plainFor_of_name pn_rm3) hisR ?_
  intro p e s m args below meth c s₁ Bd hml0 hP hK
  obtain ⟨rfl, hZ, hh⟩ := hP
  have hx := Bd.exec
  have hby := Bd.bytes
  have hlk : meth.locks = false := BodyLoose.notSynchronized Bd
  have hml : c.maxLocals = 5 := hml0
  have hown : s.vm.findClass "com/example/holdfast/holdfast/Sample" = some m.cls := findClass_of_methodNamed Bd.named
  have hnm := (name_of_methodNamed Bd.named Bd.method).1
  have X0 : Stand p l e ({ frames := 0, cells := 0, slots := 0, locals := 0 } : Room) s m #[(.ref a1), (.double x)] below meth c s₁ [] 0 0 := Stand.of_body Bd
  have e0 : s₁.heap = h0 := by rw [← hh, Bd.state]; rfl
  have N0 := Fr.nil n0
  show OwnW p e below (OwnG s (Q3 Z a1 x n mu sg km kx kd D K B h0 n0) ({ frames := 0, cells := 0, slots := 0, locals := 0 } : Room).cells ({ frames := 0, cells := 0, slots := 0, locals := 0 } : Room).slots) (s₁.setTop (entryFrame m #[(.ref a1), (.double x)] 5))
  rw [ef_rm3]
  obtain ⟨n1, n2, n3, n4, n5, n6, y1, y2⟩ := own_nn hMx hMm hMs hKB hn
  refine own_aloadN X0 hx (hb hby d3_0) rfl rfl 1 rfl ?_
  refine own_dup X0 hx (hb hby d3_1) rfl 2 rfl ?_
  refine own_getF X0 hx hZ hown (hw _ (List.mem_of_getElem? (i := 14) rfl)) Via.refl e0 F_count_a1 (hb hby d3_2) 5 rfl ?_
  intro T1 X1 e1
  refine own_lconst1 X1 hx (hb hby d3_5) 6 rfl ?_
  refine own_ladd X1 hx (hb hby d3_6) 7 rfl ?_
  refine own_putF X1 hx hZ hown (hw _ (List.mem_of_getElem? (i := 14) rfl)) Via.refl e1 F_count_a1 E_a1 (Or.inl (hw _ (List.mem_of_getElem? (i := 15) rfl))) (hw _ (List.mem_of_getElem? (i := 1) rfl)) (ty := .long) (by decide) rfl rfl (hb hby d3_7) 10 rfl ?_
  intro T2 h2 X2 e2 W2
  have Fw2 := F_count_a1.same W2
  have N2 := Fr.snoc X2 N0 g_a1
  refine own_dloadN X2 hx (hb hby d3_10) rfl 11 rfl ?_
  refine own_aloadN X2 hx (hb hby d3_11) rfl rfl 12 rfl ?_
  have Fa1_mean_3 := (F_mean_a1.other W2 (Or.inr (slot_ne (Or.inl (hw _ (List.mem_of_getElem? (i := 17) rfl))) (Or.inl (hw _ (List.mem_of_getElem? (i := 15) rfl))) (by decide) (t := .double) (t' := .long) (by decide) (by decide))))
  refine own_getF X2 hx hZ hown (hw _ (List.mem_of_getElem? (i := 16) rfl)) Via.refl e2 Fa1_mean_3 (hb hby d3_12) 15 rfl ?_
  intro T4 X4 e4
  refine own_dsub X4 hx (hb hby d3_15) n1 16 rfl ?_
  refine own_dstoreN X4 hx (hb hby d3_16) #[.val (.ref a1), .val (.double x), .second, .val (.double (FP.dsub x mu)), .second] rfl 17 rfl ?_
  refine own_aloadN X4 hx (hb hby d3_17) rfl rfl 18 rfl ?_
  refine own_dup X4 hx (hb hby d3_18) rfl 19 rfl ?_
  refine own_getF X4 hx hZ hown (hw _ (List.mem_of_getElem? (i := 16) rfl)) Via.refl e4 Fa1_mean_3 (hb hby d3_19) 22 rfl ?_
  intro T5 X5 e5
  refine own_dloadN X5 hx (hb hby d3_22) rfl 23 rfl ?_
  refine own_aloadN X5 hx (hb hby d3_23) rfl rfl 24 rfl ?_
  refine own_getF X5 hx hZ hown (hw _ (List.mem_of_getElem? (i := 14) rfl)) Via.refl e5 Fw2 (hb hby d3_24) 27 rfl ?_
  intro T6 X6 e6
  refine own_l2d X6 hx (hb hby d3_27) 28 rfl ?_
  refine own_ddiv X6 hx (hb hby d3_28) n2 29 rfl ?_
  refine own_dadd X6 hx (hb hby d3_29) n3 30 rfl ?_
  have Ea1_7 := (E_a1.wr W2)
  refine own_putF X6 hx hZ hown (hw _ (List.mem_of_getElem? (i := 16) rfl)) Via.refl e6 Fa1_mean_3 Ea1_7 (Or.inl (hw _ (List.mem_of_getElem? (i := 17) rfl))) (hw _ (List.mem_of_getElem? (i := 1) rfl)) (ty := .double) (by decide) rfl rfl (hb hby d3_30) 33 rfl ?_
  intro T8 h8 X8 e8 W8
  have Fw8 := Fa1_mean_3.same W8
  have N8 := Fr.snoc X8 N2 g_a1
  refine own_aloadN X8 hx (hb hby d3_33) rfl rfl 34 rfl ?_
  refine own_dup X8 hx (hb hby d3_34) rfl 35 rfl ?_
  have Fa1_squares_9 := ((F_squares_a1.other W2 (Or.inr (slot_ne (Or.inl (hw _ (List.mem_of_getElem? (i := 19) rfl))) (Or.inl (hw _ (List.mem_of_getElem? (i := 15) rfl))) (by decide) (t := .double) (t' := .long) (by decide) (by decide)))).other W8 (Or.inr (slot_ne (Or.inl (hw _ (List.mem_of_getElem? (i := 19) rfl))) (Or.inl (hw _ (List.mem_of_getElem? (i := 17) rfl))) (by decide) (t := .double) (t' := .double) (by decide) (by decide))))
  refine own_getF X8 hx hZ hown (hw _ (List.mem_of_getElem? (i := 18) rfl)) Via.refl e8 Fa1_squares_9 (hb hby d3_35) 38 rfl ?_
  intro T10 X10 e10
  refine own_dloadN X10 hx (hb hby d3_38) rfl 39 rfl ?_
  refine own_dloadN X10 hx (hb hby d3_39) rfl 40 rfl ?_
  refine own_aloadN X10 hx (hb hby d3_40) rfl rfl 41 rfl ?_
  refine own_getF X10 hx hZ hown (hw _ (List.mem_of_getElem? (i := 16) rfl)) Via.refl e10 Fw8 (hb hby d3_41) 44 rfl ?_
  intro T11 X11 e11
  refine own_dsub X11 hx (hb hby d3_44) n4 45 rfl ?_
  refine own_dmul X11 hx (hb hby d3_45) n5 46 rfl ?_
  refine own_dadd X11 hx (hb hby d3_46) n6 47 rfl ?_
  have Ea1_12 := (Ea1_7.wr W8)
  refine own_putF X11 hx hZ hown (hw _ (List.mem_of_getElem? (i := 18) rfl)) Via.refl e11 Fa1_squares_9 Ea1_12 (Or.inl (hw _ (List.mem_of_getElem? (i := 19) rfl))) (hw _ (List.mem_of_getElem? (i := 1) rfl)) (ty := .double) (by decide) rfl rfl (hb hby d3_47) 50 rfl ?_
  intro T13 h13 X13 e13 W13
  have Fw13 := Fa1_squares_9.same W13
  have N13 := Fr.snoc X13 N8 g_a1
  refine own_retV X13 hx hlk Bd.returns (hb hby d3_50) (by decide) (by decide) ?_
  have K14 : Keep h0 h13 [a1] := ((((Keep.refl h0 [a1]).wr W2 (Or.inl (List.mem_of_getElem? (i := 0) rfl))).wr W8 (Or.inl (List.mem_of_getElem? (i := 0) rfl))).wr W13 (Or.inl (List.mem_of_getElem? (i := 0) rfl)))
  have Ea1_15 := (Ea1_12.wr W13)
  have Fa1_count_16 := ((Fw2.other W8 (Or.inr (slot_ne (Or.inl (hw _ (List.mem_of_getElem? (i := 15) rfl))) (Or.inl (hw _ (List.mem_of_getElem? (i := 17) rfl))) (by decide) (t := .long) (t' := .double) (by decide) (by decide)))).other W13 (Or.inr (slot_ne (Or.inl (hw _ (List.mem_of_getElem? (i := 15) rfl))) (Or.inl (hw _ (List.mem_of_getElem? (i := 19) rfl))) (by decide) (t := .long) (t' := .double) (by decide) (by decide))))
  have Fa1_mean_17 := (Fw8.other W13 (Or.inr (slot_ne (Or.inl (hw _ (List.mem_of_getElem? (i := 17) rfl))) (Or.inl (hw _ (List.mem_of_getElem? (i := 19) rfl))) (by decide) (t := .double) (t' := .double) (by decide) (by decide))))
  show Q3 Z a1 x n mu sg km kx kd D K B h0 n0 _ T13.heap _
  rw [e13]
  exact ⟨(FP.dadd mu (FP.ddiv (FP.dsub x mu) (FP.l2d (n + (1 : Int64))))), (FP.dadd sg (FP.dmul (FP.dsub x mu) (FP.dsub x (FP.dadd mu (FP.ddiv (FP.dsub x mu) (FP.l2d (n + (1 : Int64)))))))), rfl, N13, K14, Ea1_15, Fa1_count_16, Fa1_mean_17, Fw13, (own_mean hHx hHm hD hD0 hk hb1 hb2 hb3), y1, y2⟩
theorem d4_0 : decode prog_137_method_3_code 0 = .ok (.aload_n 0, 1) := by decide +kernel
theorem d4_1 : decode prog_137_method_3_code 1 = .ok (.getfield 7, 3) := by decide +kernel
theorem d4_4 : decode prog_137_method_3_code 4 = .ok (.lreturn, 1) := by decide +kernel
theorem pn_rm4 : plainName "com/example/holdfast/holdfast/Sample" = true := by first | (simp [plainName, overriddenIn]; done) | decide +kernel
theorem ef_rm4 (m : MethodId) (x0 : Addr) : entryFrame m #[(.ref x0)] 1 = mkF m 0 #[.val (.ref x0)] [] := by first | (simp [entryFrame, mkF, argsToLocals, Value.category]; done) | rfl
def Q4 (Z : State) (a1 : Addr) (w2 : Int64) (h0 : Heap) (n0 : Nat) (v : Option Value) (h : Heap) (L : List Loc) : Prop := v = some (.long w2) ∧ Fr n0 L ∧ h = h0
set_option maxRecDepth 65536 in
set_option maxHeartbeats 40000000 in
theorem rm4 (l : Launch) (Z : State) (a0 : Array Value) (hw : ∀ d ∈ tables_1, d.before a0 Z = true) (ws : List Jvm.Cond) (a1 : Addr) (w2 : Int64) (h0 : Heap) (n0 : Nat) (Z0 : n0 ≤ h0.size) (F_count_a1 : Fld Z h0 a1 "com/example/holdfast/holdfast/Sample" "count" "J" (.long w2)) :
    MetFree l (⟨"com/example/holdfast/holdfast/Sample", "count", "()J"⟩ : MethodName) (head1 (Jvm.Cond.code (⟨"com/example/holdfast/holdfast/Sample", "count", "()J"⟩ : MethodName) prog_137_method_3_code 1 (some .long) :: ws) ({ frames := 0, cells := 0, slots := 0, locals := 0 } : Room)) (fun a U => a = #[(.ref a1)] ∧ Z.Warmed39 U.vm ∧ U.heap = h0) (fun _ _ _ _ _ => True) (fun _ U o U' => ∃ v L, o = .returned v ∧ Q4 Z a1 w2 h0 n0 v U'.heap L ∧ FrameEnd U o U' L ({ frames := 0, cells := 0, slots := 0, locals := 0 } : Room).cells ({ frames := 0, cells := 0, slots := 0, locals := 0 } : Room).slots) := by
  refine MetFree.of_bodySF (plainFor_of_name pn_rm4) hisR ?_
  intro p e s m args below meth c s₁ Bd hml0 hP hK
  obtain ⟨rfl, hZ, hh⟩ := hP
  have hx := Bd.exec
  have hby := Bd.bytes
  have hlk : meth.locks = false := BodyLoose.notSynchronized Bd
  have hml : c.maxLocals = 1 := hml0
  have hown : s.vm.findClass "com/example/holdfast/holdfast/Sample" = some m.cls := findClass_of_methodNamed Bd.named
  have hnm := (name_of_methodNamed Bd.named Bd.method).1
  have X0 : Stand p l e ({ frames := 0, cells := 0, slots := 0, locals := 0 } : Room) s m #[(.ref a1)] below meth c s₁ [] 0 0 := Stand.of_body Bd
  have e0 : s₁.heap = h0 := by rw [← hh, Bd.state]; rfl
  have N0 := Fr.nil n0
  show OwnW p e below (OwnG s (Q4 Z a1 w2 h0 n0) ({ frames := 0, cells := 0, slots := 0, locals := 0 } : Room).cells ({ frames := 0, cells := 0, slots := 0, locals := 0 } : Room).slots) (s₁.setTop (entryFrame m #[(.ref a1)] 1))
  rw [ef_rm4]
  refine own_aloadN X0 hx (hb hby d4_0) rfl rfl 1 rfl ?_
  refine own_getF X0 hx hZ hown (hw _ (List.mem_of_getElem? (i := 14) rfl)) Via.refl e0 F_count_a1 (hb hby d4_1) 4 rfl ?_
  intro T1 X1 e1
  refine own_retJ X1 hx hlk Bd.returns (hb hby d4_4) (by decide) (by decide) ?_
  show Q4 Z a1 w2 h0 n0 _ T1.heap _
  rw [e1]
  exact ⟨rfl, N0, rfl⟩
theorem d5_0 : decode prog_137_method_4_code 0 = .ok (.aload_n 0, 1) := by decide +kernel
theorem d5_1 : decode prog_137_method_4_code 1 = .ok (.getfield 13, 3) := by decide +kernel
theorem d5_4 : decode prog_137_method_4_code 4 = .ok (.dreturn, 1) := by decide +kernel
theorem pn_rm5 : plainName "com/example/holdfast/holdfast/Sample" = true := by first | (simp [plainName, overriddenIn]; done) | decide +kernel
theorem ef_rm5 (m : MethodId) (x0 : Addr) : entryFrame m #[(.ref x0)] 1 = mkF m 0 #[.val (.ref x0)] [] := by first | (simp [entryFrame, mkF, argsToLocals, Value.category]; done) | rfl
def Q5 (Z : State) (a1 : Addr) (w2 : UInt64) (h0 : Heap) (n0 : Nat) (v : Option Value) (h : Heap) (L : List Loc) : Prop := v = some (.double w2) ∧ Fr n0 L ∧ h = h0
set_option maxRecDepth 65536 in
set_option maxHeartbeats 40000000 in
theorem rm5 (l : Launch) (Z : State) (a0 : Array Value) (hw : ∀ d ∈ tables_1, d.before a0 Z = true) (ws : List Jvm.Cond) (a1 : Addr) (w2 : UInt64) (h0 : Heap) (n0 : Nat) (Z0 : n0 ≤ h0.size) (F_mean_a1 : Fld Z h0 a1 "com/example/holdfast/holdfast/Sample" "mean" "D" (.double w2)) :
    MetFree l (⟨"com/example/holdfast/holdfast/Sample", "mean", "()D"⟩ : MethodName) (head1 (Jvm.Cond.code (⟨"com/example/holdfast/holdfast/Sample", "mean", "()D"⟩ : MethodName) prog_137_method_4_code 1 (some .double) :: ws) ({ frames := 0, cells := 0, slots := 0, locals := 0 } : Room)) (fun a U => a = #[(.ref a1)] ∧ Z.Warmed39 U.vm ∧ U.heap = h0) (fun _ _ _ _ _ => True) (fun _ U o U' => ∃ v L, o = .returned v ∧ Q5 Z a1 w2 h0 n0 v U'.heap L ∧ FrameEnd U o U' L ({ frames := 0, cells := 0, slots := 0, locals := 0 } : Room).cells ({ frames := 0, cells := 0, slots := 0, locals := 0 } : Room).slots) := by
  refine MetFree.of_bodySF (plainFor_of_name pn_rm5) hisR ?_
  intro p e s m args below meth c s₁ Bd hml0 hP hK
  obtain ⟨rfl, hZ, hh⟩ := hP
  have hx := Bd.exec
  have hby := Bd.bytes
  have hlk : meth.locks = false := BodyLoose.notSynchronized Bd
  have hml : c.maxLocals = 1 := hml0
  have hown : s.vm.findClass "com/example/holdfast/holdfast/Sample" = some m.cls := findClass_of_methodNamed Bd.named
  have hnm := (name_of_methodNamed Bd.named Bd.method).1
  have X0 : Stand p l e ({ frames := 0, cells := 0, slots := 0, locals := 0 } : Room) s m #[(.ref a1)] below meth c s₁ [] 0 0 := Stand.of_body Bd
  have e0 : s₁.heap = h0 := by rw [← hh, Bd.state]; rfl
  have N0 := Fr.nil n0
  show OwnW p e below (OwnG s (Q5 Z a1 w2 h0 n0) ({ frames := 0, cells := 0, slots := 0, locals := 0 } : Room).cells ({ frames := 0, cells := 0, slots := 0, locals := 0 } : Room).slots) (s₁.setTop (entryFrame m #[(.ref a1)] 1))
  rw [ef_rm5]
  refine own_aloadN X0 hx (hb hby d5_0) rfl rfl 1 rfl ?_
  refine own_getF X0 hx hZ hown (hw _ (List.mem_of_getElem? (i := 16) rfl)) Via.refl e0 F_mean_a1 (hb hby d5_1) 4 rfl ?_
  intro T1 X1 e1
  refine own_retD X1 hx hlk Bd.returns (hb hby d5_4) (by decide) (by decide) ?_
  show Q5 Z a1 w2 h0 n0 _ T1.heap _
  rw [e1]
  exact ⟨rfl, N0, rfl⟩
theorem pn_rm0 : plainName "com/example/holdfast/holdfast/SampleAddPinLaw" = true := by first | (simp [plainName, overriddenIn]; done) | decide +kernel
theorem ef_rm0 (m : MethodId) (x0 : Int32) (x1 : Int32) (x2 : Int32) : entryFrame m #[(.int x0), (.int x1), (.int x2)] maxLocals = mkF m 0 #[.val (.int x0), .val (.int x1), .val (.int x2), .unset, .unset, .unset, .unset, .unset, .unset] [] := by first | (simp [entryFrame, mkF, argsToLocals, Value.category, maxLocals]; done) | rfl
def Q0 (Z : State) (i0 : Int32) (i1 : Int32) (i2 : Int32) (h0 : Heap) (n0 : Nat) (v : Option Value) (h : Heap) (L : List Loc) : Prop := v = some (.int (1 : Int32)) ∧ Fr n0 L
set_option maxRecDepth 65536 in
set_option maxHeartbeats 40000000 in
theorem rm0 (l : Launch) (Z : State) (a0 : Array Value) (hw : ∀ d ∈ tables_1, d.before a0 Z = true) (ws : List Jvm.Cond) (i0 : Int32) (i1 : Int32) (i2 : Int32) (h0 : Heap) (n0 : Nat) (Z0 : n0 ≤ h0.size) :
    MetFree l x (head1 (Jvm.Cond.code x code maxLocals ret :: ws) room_1) (fun a U => a = #[(.int i0), (.int i1), (.int i2)] ∧ Z.Warmed39 U.vm ∧ U.heap = h0) (fun _ _ _ _ _ => True) (fun _ U o U' => ∃ v L, o = .returned v ∧ Q0 Z i0 i1 i2 h0 n0 v U'.heap L ∧ FrameEnd U o U' L room_1.cells room_1.slots) := by
  refine MetFree.of_bodySF (plainFor_of_name pn_rm0) hisR ?_
  intro p e s m args below meth c s₁ Bd hml0 hP hK
  obtain ⟨rfl, hZ, hh⟩ := hP
  have hx := Bd.exec
  have hby := Bd.bytes
  have hlk : meth.locks = false := BodyLoose.notSynchronized Bd
  have hml : c.maxLocals = 9 := hml0
  have hown : s.vm.findClass "com/example/holdfast/holdfast/SampleAddPinLaw" = some m.cls := findClass_of_methodNamed Bd.named
  have hnm := (name_of_methodNamed Bd.named Bd.method).1
  have X0 : Stand p l e room_1 s m #[(.int i0), (.int i1), (.int i2)] below meth c s₁ [] 0 0 := Stand.of_body Bd
  have e0 : s₁.heap = h0 := by rw [← hh, Bd.state]; rfl
  have N0 := Fr.nil n0
  show OwnW p e below (OwnG s (Q0 Z i0 i1 i2 h0 n0) room_1.cells room_1.slots) (s₁.setTop (entryFrame m #[(.int i0), (.int i1), (.int i2)] maxLocals))
  rw [ef_rm0]
  refine own_new X0 hx hZ hown (hw _ (List.mem_of_getElem? (i := 0) rfl)) (hw _ (List.mem_of_getElem? (i := 1) rfl)) (hw _ (List.mem_of_getElem? (i := 2) rfl)) e0 (hb hby at_0) (by decide) (by decide) 3 rfl ?_
  intro T1 h1 b1 qe1 X1 e1 E1 A1 D1
  have g_b1 : n0 ≤ b1 := Nat.le_trans Z0 (Nat.le_of_eq qe1.symm)
  have F1_count : Fld Z h1 b1 "com/example/holdfast/holdfast/Sample" "count" "J" (.long (0 : Int64)) := D1 (Or.inl (hw _ (List.mem_of_getElem? (i := 15) rfl))) (ty := .long) (by decide)
  have F1_mean : Fld Z h1 b1 "com/example/holdfast/holdfast/Sample" "mean" "D" (.double (0 : UInt64)) := D1 (Or.inl (hw _ (List.mem_of_getElem? (i := 17) rfl))) (ty := .double) (by decide)
  have F1_squares : Fld Z h1 b1 "com/example/holdfast/holdfast/Sample" "squares" "D" (.double (0 : UInt64)) := D1 (Or.inl (hw _ (List.mem_of_getElem? (i := 19) rfl))) (ty := .double) (by decide)
  refine own_dup X1 hx (hb hby at_3) rfl 4 rfl ?_
  have Zs2 : n0 ≤ h1.size := (Nat.le_trans Z0 E1.1)
  refine own_callI X1 hx hZ hown rfl (hw _ (List.mem_of_getElem? (i := 3) rfl)) (hw _ (List.mem_of_getElem? (i := 4) rfl)) (hw _ (List.mem_of_getElem? (i := 5) rfl)) (hw _ (List.mem_of_getElem? (i := 2) rfl)) (by decide) (rm1 l Z a0 hw [] b1 h1 n0 Zs2) e1 (hb hby at_4) pd___V rfl (by rw [hml]; rfl) (st := [(.ref b1)]) rfl 1 (Nat.le_of_eq rfl) (by decide) (by decide) (by decide) (by decide) 7 rfl ?_
  intro T3 v3 L3 X3 hQ3
  obtain ⟨rfl, N3q, e3⟩ := hQ3
  have N3 := Fr.app N0 N3q
  show OwnW p e below (OwnG s (Q0 Z i0 i1 i2 h0 n0) room_1.cells room_1.slots) (T3.setTop (mkF m 7 #[.val (.int i0), .val (.int i1), .val (.int i2), .unset, .unset, .unset, .unset, .unset, .unset] [(.ref b1)]))
  refine own_astoreN X3 hx (hb hby at_7) rfl #[.val (.int i0), .val (.int i1), .val (.int i2), .val (.ref b1), .unset, .unset, .unset, .unset, .unset] rfl 8 rfl ?_
  refine own_aloadN X3 hx (hb hby at_8) rfl rfl 9 rfl ?_
  refine own_iloadN X3 hx (hb hby at_9) rfl 10 rfl ?_
  refine own_i2d X3 hx (hb hby at_10) 11 rfl ?_
  refine own_callV X3 hx hZ hown (hw _ (List.mem_of_getElem? (i := 9) rfl)) (hw _ (List.mem_of_getElem? (i := 10) rfl)) (hw _ (List.mem_of_getElem? (i := 12) rfl)) (hw _ (List.mem_of_getElem? (i := 11) rfl)) (hw _ (List.mem_of_getElem? (i := 13) rfl)) (hw _ (List.mem_of_getElem? (i := 2) rfl)) (by decide) A1 (rm3 l Z a0 hw [] b1 (FP.i2d i0) (0 : Int64) (0 : UInt64) (0 : UInt64) 0 (2 * i0.toInt) (2 * i0.toInt) 1 1056 1099 h1 n0 Zs2 A1 g_b1 F1_count F1_mean F1_squares (Jvm.Free.Fl.i2d_mag i0) (own_m0 1056 (by decide)) (own_m0 1099 (by decide)) (by decide) (by decide) (own_D 1 (by decide) (by decide)) (by decide) (Half.h_i2d i0) Half.h_zero (by omega) (by have r1 := rng32 i0; have r2 := rng32 i1; have r3 := rng32 i2; omega) (by have r1 := rng32 i0; have r2 := rng32 i1; have r3 := rng32 i2; omega) (by have r1 := rng32 i0; have r2 := rng32 i1; have r3 := rng32 i2; omega)) e3 (hb hby at_11) pd__D_V rfl (by rw [hml]; rfl) (st := []) rfl 0 (Nat.le_of_eq rfl) (by decide) (by decide) (by decide) (by decide) 14 rfl ?_
  intro T4 v4 L4 X4 hQ4
  obtain ⟨mm_4, ss_4, rfl, N4q, Kc4, P4_0, P4_1, P4_2, P4_3, P4_4, P4_5, P4_6⟩ := hQ4
  have N4 := Fr.app N3 N4q
  show OwnW p e below (OwnG s (Q0 Z i0 i1 i2 h0 n0) room_1.cells room_1.slots) (T4.setTop (mkF m 14 #[.val (.int i0), .val (.int i1), .val (.int i2), .val (.ref b1), .unset, .unset, .unset, .unset, .unset] []))
  refine own_aloadN X4 hx (hb hby at_14) rfl rfl 15 rfl ?_
  have Zs5 : n0 ≤ T4.heap.size := (Nat.le_trans Zs2 Kc4.1)
  refine own_callV X4 hx hZ hown (hw _ (List.mem_of_getElem? (i := 20) rfl)) (hw _ (List.mem_of_getElem? (i := 21) rfl)) (hw _ (List.mem_of_getElem? (i := 23) rfl)) (hw _ (List.mem_of_getElem? (i := 22) rfl)) (hw _ (List.mem_of_getElem? (i := 24) rfl)) (hw _ (List.mem_of_getElem? (i := 2) rfl)) (by decide) P4_0 (rm4 l Z a0 hw [] b1 ((0 : Int64) + (1 : Int64)) T4.heap n0 Zs5 P4_1) rfl (hb hby at_15) pd___J rfl (by rw [hml]; rfl) (st := []) rfl 0 (Nat.le_of_eq rfl) (by decide) (by decide) (by decide) (by decide) 18 rfl ?_
  intro T6 v6 L6 X6 hQ6
  obtain ⟨rfl, N6q, e6⟩ := hQ6
  have N6 := Fr.app N4 N6q
  show OwnW p e below (OwnG s (Q0 Z i0 i1 i2 h0 n0) room_1.cells room_1.slots) (T6.setTop (mkF m 18 #[.val (.int i0), .val (.int i1), .val (.int i2), .val (.ref b1), .unset, .unset, .unset, .unset, .unset] [(.long ((0 : Int64) + (1 : Int64)))]))
  refine own_lconst1 X6 hx (hb hby at_18) 19 rfl ?_
  refine own_lcmp X6 hx (hb hby at_19) 20 rfl ?_
  have hc20 : ((0 : Int64) + (1 : Int64)) = (1 : Int64) := by decide
  refine own_ifN X6 hx (hb hby at_20) (teq ((lw_eq _ _).mpr hc20)).2 23 (by decide) ?_
  refine own_aloadN X6 hx (hb hby at_23) rfl rfl 24 rfl ?_
  refine own_callV X6 hx hZ hown (hw _ (List.mem_of_getElem? (i := 25) rfl)) (hw _ (List.mem_of_getElem? (i := 26) rfl)) (hw _ (List.mem_of_getElem? (i := 28) rfl)) (hw _ (List.mem_of_getElem? (i := 27) rfl)) (hw _ (List.mem_of_getElem? (i := 29) rfl)) (hw _ (List.mem_of_getElem? (i := 2) rfl)) (by decide) P4_0 (rm5 l Z a0 hw [] b1 mm_4 T4.heap n0 Zs5 P4_2) e6 (hb hby at_24) pd___D rfl (by rw [hml]; rfl) (st := []) rfl 0 (Nat.le_of_eq rfl) (by decide) (by decide) (by decide) (by decide) 27 rfl ?_
  intro T7 v7 L7 X7 hQ7
  obtain ⟨rfl, N7q, e7⟩ := hQ7
  have N7 := Fr.app N6 N7q
  show OwnW p e below (OwnG s (Q0 Z i0 i1 i2 h0 n0) room_1.cells room_1.slots) (T7.setTop (mkF m 27 #[.val (.int i0), .val (.int i1), .val (.int i2), .val (.ref b1), .unset, .unset, .unset, .unset, .unset] [(.double mm_4)]))
  refine own_iloadN X7 hx (hb hby at_27) rfl 28 rfl ?_
  refine own_i2d X7 hx (hb hby at_28) 29 rfl ?_
  refine own_dcmp X7 hx (hb hby at_29) 30 rfl ?_
  have hc30 : (cmpValue (FP.dcmp mm_4 (FP.i2d i0)) .l) = (0 : Int32) := own_cmp P4_4 (Half.h_i2d i0) (by omega)
  refine own_ifN X7 hx (hb hby at_30) (teq hc30).2 33 (by decide) ?_
  refine own_iconst X7 hx (hb hby at_33) (1 : Int32) rfl 34 rfl ?_
  refine own_goto X7 hx (hb hby at_34) 38 (by decide) ?_
  refine own_istore X7 hx (hb hby at_38) #[.val (.int i0), .val (.int i1), .val (.int i2), .val (.ref b1), .val (.int (1 : Int32)), .unset, .unset, .unset, .unset] rfl 40 rfl ?_
  refine own_aloadN X7 hx (hb hby at_40) rfl rfl 41 rfl ?_
  refine own_iloadN X7 hx (hb hby at_41) rfl 42 rfl ?_
  refine own_i2d X7 hx (hb hby at_42) 43 rfl ?_
  refine own_callV X7 hx hZ hown (hw _ (List.mem_of_getElem? (i := 9) rfl)) (hw _ (List.mem_of_getElem? (i := 10) rfl)) (hw _ (List.mem_of_getElem? (i := 12) rfl)) (hw _ (List.mem_of_getElem? (i := 11) rfl)) (hw _ (List.mem_of_getElem? (i := 13) rfl)) (hw _ (List.mem_of_getElem? (i := 2) rfl)) (by decide) P4_0 (rm3 l Z a0 hw [] b1 (FP.i2d i1) ((0 : Int64) + (1 : Int64)) mm_4 ss_4 (0 + (2 * i0.toInt)) (2 * i1.toInt) (i1.toInt - i0.toInt) 2 1061 1109 T4.heap n0 Zs5 P4_0 g_b1 P4_1 P4_2 P4_3 ((Jvm.Free.Fl.i2d_mag i1).mono (by decide)) P4_5 (P4_6.mono (by decide)) (by decide) (by decide) (own_D 2 (by decide) (by decide)) (by decide) (Half.h_i2d i1) P4_4 (by omega) (by have r1 := rng32 i0; have r2 := rng32 i1; have r3 := rng32 i2; omega) (by have r1 := rng32 i0; have r2 := rng32 i1; have r3 := rng32 i2; omega) (by have r1 := rng32 i0; have r2 := rng32 i1; have r3 := rng32 i2; omega)) e7 (hb hby at_43) pd__D_V rfl (by rw [hml]; rfl) (st := []) rfl 0 (Nat.le_of_eq rfl) (by decide) (by decide) (by decide) (by decide) 46 rfl ?_
  intro T8 v8 L8 X8 hQ8
  obtain ⟨mm_8, ss_8, rfl, N8q, Kc8, P8_0, P8_1, P8_2, P8_3, P8_4, P8_5, P8_6⟩ := hQ8
  have N8 := Fr.app N7 N8q
  show OwnW p e below (OwnG s (Q0 Z i0 i1 i2 h0 n0) room_1.cells room_1.slots) (T8.setTop (mkF m 46 #[.val (.int i0), .val (.int i1), .val (.int i2), .val (.ref b1), .val (.int (1 : Int32)), .unset, .unset, .unset, .unset] []))
  refine own_iloadN X8 hx (hb hby at_46) rfl 47 rfl ?_
  refine own_i2l X8 hx (hb hby at_47) 48 rfl ?_
  refine own_iloadN X8 hx (hb hby at_48) rfl 49 rfl ?_
  refine own_i2l X8 hx (hb hby at_49) 50 rfl ?_
  refine own_ladd X8 hx (hb hby at_50) 51 rfl ?_
  refine own_l2d X8 hx (hb hby at_51) 52 rfl ?_
  refine own_ldcD X8 hx hZ hown (hw _ (List.mem_of_getElem? (i := 30) rfl)) (hb hby at_52) 55 rfl ?_
  refine own_ddiv X8 hx (hb hby at_55) (own_n2 _) 56 rfl ?_
  refine own_dstore X8 hx (hb hby at_56) #[.val (.int i0), .val (.int i1), .val (.int i2), .val (.ref b1), .val (.int (1 : Int32)), .val (.double (FP.ddiv (FP.l2d ((i0.toInt64) + (i1.toInt64))) (4611686018427387904 : UInt64))), .second, .unset, .unset] rfl 58 rfl ?_
  refine own_iload X8 hx (hb hby at_58) rfl 60 rfl ?_
  refine own_ifN X8 hx (hb hby at_60) (feq (by decide : ¬ ((1 : Int32) = (0 : Int32)))).1 63 (by decide) ?_
  refine own_aloadN X8 hx (hb hby at_63) rfl rfl 64 rfl ?_
  have Zs9 : n0 ≤ T8.heap.size := (Nat.le_trans Zs5 Kc8.1)
  refine own_callV X8 hx hZ hown (hw _ (List.mem_of_getElem? (i := 20) rfl)) (hw _ (List.mem_of_getElem? (i := 21) rfl)) (hw _ (List.mem_of_getElem? (i := 23) rfl)) (hw _ (List.mem_of_getElem? (i := 22) rfl)) (hw _ (List.mem_of_getElem? (i := 24) rfl)) (hw _ (List.mem_of_getElem? (i := 2) rfl)) (by decide) P8_0 (rm4 l Z a0 hw [] b1 (((0 : Int64) + (1 : Int64)) + (1 : Int64)) T8.heap n0 Zs9 P8_1) rfl (hb hby at_64) pd___J rfl (by rw [hml]; rfl) (st := []) rfl 0 (Nat.le_of_eq rfl) (by decide) (by decide) (by decide) (by decide) 67 rfl ?_
  intro T10 v10 L10 X10 hQ10
  obtain ⟨rfl, N10q, e10⟩ := hQ10
  have N10 := Fr.app N8 N10q
  show OwnW p e below (OwnG s (Q0 Z i0 i1 i2 h0 n0) room_1.cells room_1.slots) (T10.setTop (mkF m 67 #[.val (.int i0), .val (.int i1), .val (.int i2), .val (.ref b1), .val (.int (1 : Int32)), .val (.double (FP.ddiv (FP.l2d ((i0.toInt64) + (i1.toInt64))) (4611686018427387904 : UInt64))), .second, .unset, .unset] [(.long (((0 : Int64) + (1 : Int64)) + (1 : Int64)))]))
  refine own_ldcJ X10 hx hZ hown (hw _ (List.mem_of_getElem? (i := 31) rfl)) (hb hby at_67) 70 rfl ?_
  refine own_lcmp X10 hx (hb hby at_70) 71 rfl ?_
  have hc71 : (((0 : Int64) + (1 : Int64)) + (1 : Int64)) = (2 : Int64) := by decide
  refine own_ifN X10 hx (hb hby at_71) (teq ((lw_eq _ _).mpr hc71)).2 74 (by decide) ?_
  refine own_aloadN X10 hx (hb hby at_74) rfl rfl 75 rfl ?_
  refine own_callV X10 hx hZ hown (hw _ (List.mem_of_getElem? (i := 25) rfl)) (hw _ (List.mem_of_getElem? (i := 26) rfl)) (hw _ (List.mem_of_getElem? (i := 28) rfl)) (hw _ (List.mem_of_getElem? (i := 27) rfl)) (hw _ (List.mem_of_getElem? (i := 29) rfl)) (hw _ (List.mem_of_getElem? (i := 2) rfl)) (by decide) P8_0 (rm5 l Z a0 hw [] b1 mm_8 T8.heap n0 Zs9 P8_2) e10 (hb hby at_75) pd___D rfl (by rw [hml]; rfl) (st := []) rfl 0 (Nat.le_of_eq rfl) (by decide) (by decide) (by decide) (by decide) 78 rfl ?_
  intro T11 v11 L11 X11 hQ11
  obtain ⟨rfl, N11q, e11⟩ := hQ11
  have N11 := Fr.app N10 N11q
  show OwnW p e below (OwnG s (Q0 Z i0 i1 i2 h0 n0) room_1.cells room_1.slots) (T11.setTop (mkF m 78 #[.val (.int i0), .val (.int i1), .val (.int i2), .val (.ref b1), .val (.int (1 : Int32)), .val (.double (FP.ddiv (FP.l2d ((i0.toInt64) + (i1.toInt64))) (4611686018427387904 : UInt64))), .second, .unset, .unset] [(.double mm_8)]))
  refine own_dload X11 hx (hb hby at_78) rfl 80 rfl ?_
  refine own_dcmp X11 hx (hb hby at_80) 81 rfl ?_
  have hc81 : (cmpValue (FP.dcmp mm_8 (FP.ddiv (FP.l2d ((i0.toInt64) + (i1.toInt64))) (4611686018427387904 : UInt64))) .l) = (0 : Int32) := own_cmp P8_4 (own_h2 i0 i1) (by omega)
  refine own_ifN X11 hx (hb hby at_81) (teq hc81).2 84 (by decide) ?_
  refine own_iconst X11 hx (hb hby at_84) (1 : Int32) rfl 85 rfl ?_
  refine own_goto X11 hx (hb hby at_85) 89 (by decide) ?_
  refine own_istore X11 hx (hb hby at_89) #[.val (.int i0), .val (.int i1), .val (.int i2), .val (.ref b1), .val (.int (1 : Int32)), .val (.double (FP.ddiv (FP.l2d ((i0.toInt64) + (i1.toInt64))) (4611686018427387904 : UInt64))), .second, .unset, .unset] rfl 91 rfl ?_
  refine own_ldcJ X11 hx hZ hown (hw _ (List.mem_of_getElem? (i := 32) rfl)) (hb hby at_91) 94 rfl ?_
  refine own_iloadN X11 hx (hb hby at_94) rfl 95 rfl ?_
  refine own_i2l X11 hx (hb hby at_95) 96 rfl ?_
  refine own_lmul X11 hx (hb hby at_96) 97 rfl ?_
  refine own_iloadN X11 hx (hb hby at_97) rfl 98 rfl ?_
  refine own_i2l X11 hx (hb hby at_98) 99 rfl ?_
  refine own_lsub X11 hx (hb hby at_99) 100 rfl ?_
  refine own_iloadN X11 hx (hb hby at_100) rfl 101 rfl ?_
  refine own_i2l X11 hx (hb hby at_101) 102 rfl ?_
  refine own_lsub X11 hx (hb hby at_102) 103 rfl ?_
  refine own_lstore X11 hx (hb hby at_103) #[.val (.int i0), .val (.int i1), .val (.int i2), .val (.ref b1), .val (.int (1 : Int32)), .val (.double (FP.ddiv (FP.l2d ((i0.toInt64) + (i1.toInt64))) (4611686018427387904 : UInt64))), .second, .val (.long ((((3 : Int64) * (i2.toInt64)) - (i0.toInt64)) - (i1.toInt64))), .second] rfl 105 rfl ?_
  refine own_aloadN X11 hx (hb hby at_105) rfl rfl 106 rfl ?_
  refine own_lload X11 hx (hb hby at_106) rfl 108 rfl ?_
  refine own_l2d X11 hx (hb hby at_108) 109 rfl ?_
  refine own_callV X11 hx hZ hown (hw _ (List.mem_of_getElem? (i := 9) rfl)) (hw _ (List.mem_of_getElem? (i := 10) rfl)) (hw _ (List.mem_of_getElem? (i := 12) rfl)) (hw _ (List.mem_of_getElem? (i := 11) rfl)) (hw _ (List.mem_of_getElem? (i := 13) rfl)) (hw _ (List.mem_of_getElem? (i := 2) rfl)) (by decide) P8_0 (rm3 l Z a0 hw [] b1 (FP.l2d ((((3 : Int64) * (i2.toInt64)) - (i0.toInt64)) - (i1.toInt64))) (((0 : Int64) + (1 : Int64)) + (1 : Int64)) mm_8 ss_8 ((0 + (2 * i0.toInt)) + (i1.toInt - i0.toInt)) (2 * (3 * i2.toInt - i0.toInt - i1.toInt)) (2 * i2.toInt - i0.toInt - i1.toInt) 3 1088 1163 T8.heap n0 Zs9 P8_0 g_b1 P8_1 P8_2 P8_3 (Jvm.Free.Fl.l2d_mag _) (P8_5.mono (by decide)) (P8_6.mono (by decide)) (by decide) (by decide) (own_D 3 (by decide) (by decide)) (by decide) (own_h3 i0 i1 i2) P8_4 (by omega) (by have r1 := rng32 i0; have r2 := rng32 i1; have r3 := rng32 i2; omega) (by have r1 := rng32 i0; have r2 := rng32 i1; have r3 := rng32 i2; omega) (by have r1 := rng32 i0; have r2 := rng32 i1; have r3 := rng32 i2; omega)) e11 (hb hby at_109) pd__D_V rfl (by rw [hml]; rfl) (st := []) rfl 0 (Nat.le_of_eq rfl) (by decide) (by decide) (by decide) (by decide) 112 rfl ?_
  intro T12 v12 L12 X12 hQ12
  obtain ⟨mm_12, ss_12, rfl, N12q, Kc12, P12_0, P12_1, P12_2, P12_3, P12_4, P12_5, P12_6⟩ := hQ12
  have N12 := Fr.app N11 N12q
  show OwnW p e below (OwnG s (Q0 Z i0 i1 i2 h0 n0) room_1.cells room_1.slots) (T12.setTop (mkF m 112 #[.val (.int i0), .val (.int i1), .val (.int i2), .val (.ref b1), .val (.int (1 : Int32)), .val (.double (FP.ddiv (FP.l2d ((i0.toInt64) + (i1.toInt64))) (4611686018427387904 : UInt64))), .second, .val (.long ((((3 : Int64) * (i2.toInt64)) - (i0.toInt64)) - (i1.toInt64))), .second] []))
  refine own_iload X12 hx (hb hby at_112) rfl 114 rfl ?_
  refine own_ifN X12 hx (hb hby at_114) (feq (by decide : ¬ ((1 : Int32) = (0 : Int32)))).1 117 (by decide) ?_
  refine own_aloadN X12 hx (hb hby at_117) rfl rfl 118 rfl ?_
  have Zs13 : n0 ≤ T12.heap.size := (Nat.le_trans Zs9 Kc12.1)
  refine own_callV X12 hx hZ hown (hw _ (List.mem_of_getElem? (i := 20) rfl)) (hw _ (List.mem_of_getElem? (i := 21) rfl)) (hw _ (List.mem_of_getElem? (i := 23) rfl)) (hw _ (List.mem_of_getElem? (i := 22) rfl)) (hw _ (List.mem_of_getElem? (i := 24) rfl)) (hw _ (List.mem_of_getElem? (i := 2) rfl)) (by decide) P12_0 (rm4 l Z a0 hw [] b1 ((((0 : Int64) + (1 : Int64)) + (1 : Int64)) + (1 : Int64)) T12.heap n0 Zs13 P12_1) rfl (hb hby at_118) pd___J rfl (by rw [hml]; rfl) (st := []) rfl 0 (Nat.le_of_eq rfl) (by decide) (by decide) (by decide) (by decide) 121 rfl ?_
  intro T14 v14 L14 X14 hQ14
  obtain ⟨rfl, N14q, e14⟩ := hQ14
  have N14 := Fr.app N12 N14q
  show OwnW p e below (OwnG s (Q0 Z i0 i1 i2 h0 n0) room_1.cells room_1.slots) (T14.setTop (mkF m 121 #[.val (.int i0), .val (.int i1), .val (.int i2), .val (.ref b1), .val (.int (1 : Int32)), .val (.double (FP.ddiv (FP.l2d ((i0.toInt64) + (i1.toInt64))) (4611686018427387904 : UInt64))), .second, .val (.long ((((3 : Int64) * (i2.toInt64)) - (i0.toInt64)) - (i1.toInt64))), .second] [(.long ((((0 : Int64) + (1 : Int64)) + (1 : Int64)) + (1 : Int64)))]))
  refine own_ldcJ X14 hx hZ hown (hw _ (List.mem_of_getElem? (i := 32) rfl)) (hb hby at_121) 124 rfl ?_
  refine own_lcmp X14 hx (hb hby at_124) 125 rfl ?_
  have hc125 : ((((0 : Int64) + (1 : Int64)) + (1 : Int64)) + (1 : Int64)) = (3 : Int64) := by decide
  refine own_ifN X14 hx (hb hby at_125) (teq ((lw_eq _ _).mpr hc125)).2 128 (by decide) ?_
  refine own_aloadN X14 hx (hb hby at_128) rfl rfl 129 rfl ?_
  refine own_callV X14 hx hZ hown (hw _ (List.mem_of_getElem? (i := 25) rfl)) (hw _ (List.mem_of_getElem? (i := 26) rfl)) (hw _ (List.mem_of_getElem? (i := 28) rfl)) (hw _ (List.mem_of_getElem? (i := 27) rfl)) (hw _ (List.mem_of_getElem? (i := 29) rfl)) (hw _ (List.mem_of_getElem? (i := 2) rfl)) (by decide) P12_0 (rm5 l Z a0 hw [] b1 mm_12 T12.heap n0 Zs13 P12_2) e14 (hb hby at_129) pd___D rfl (by rw [hml]; rfl) (st := []) rfl 0 (Nat.le_of_eq rfl) (by decide) (by decide) (by decide) (by decide) 132 rfl ?_
  intro T15 v15 L15 X15 hQ15
  obtain ⟨rfl, N15q, e15⟩ := hQ15
  have N15 := Fr.app N14 N15q
  show OwnW p e below (OwnG s (Q0 Z i0 i1 i2 h0 n0) room_1.cells room_1.slots) (T15.setTop (mkF m 132 #[.val (.int i0), .val (.int i1), .val (.int i2), .val (.ref b1), .val (.int (1 : Int32)), .val (.double (FP.ddiv (FP.l2d ((i0.toInt64) + (i1.toInt64))) (4611686018427387904 : UInt64))), .second, .val (.long ((((3 : Int64) * (i2.toInt64)) - (i0.toInt64)) - (i1.toInt64))), .second] [(.double mm_12)]))
  refine own_iloadN X15 hx (hb hby at_132) rfl 133 rfl ?_
  refine own_i2d X15 hx (hb hby at_133) 134 rfl ?_
  refine own_dcmp X15 hx (hb hby at_134) 135 rfl ?_
  have hc135 : (cmpValue (FP.dcmp mm_12 (FP.i2d i2)) .l) = (0 : Int32) := own_cmp P12_4 (Half.h_i2d i2) (by omega)
  refine own_ifN X15 hx (hb hby at_135) (teq hc135).2 138 (by decide) ?_
  refine own_iconst X15 hx (hb hby at_138) (1 : Int32) rfl 139 rfl ?_
  refine own_goto X15 hx (hb hby at_139) 143 (by decide) ?_
  refine own_istore X15 hx (hb hby at_143) #[.val (.int i0), .val (.int i1), .val (.int i2), .val (.ref b1), .val (.int (1 : Int32)), .val (.double (FP.ddiv (FP.l2d ((i0.toInt64) + (i1.toInt64))) (4611686018427387904 : UInt64))), .second, .val (.long ((((3 : Int64) * (i2.toInt64)) - (i0.toInt64)) - (i1.toInt64))), .second] rfl 145 rfl ?_
  refine own_iload X15 hx (hb hby at_145) rfl 147 rfl ?_
  refine own_retZ X15 hx hlk Bd.returns (by decide) (hb hby at_147) (by decide) (by decide) ?_
  show Q0 Z i0 i1 i2 h0 n0 _ T15.heap _
  rw [e15]
  exact ⟨rfl, N15⟩
set_option maxRecDepth 65536 in
set_option maxHeartbeats 40000000 in
theorem comes_1 {Post : Tables → Env → Array Value → State → Outcome → State → Prop} (hpost : ∀ tb e args s v u, (limb_1_1.after args s (.returned v) u = true ∧ limb_1_2.after args s (.returned v) u = true) → FrameEnd s (.returned v) u (Jvm.fieldLocs frame_1_writes args s ++ Jvm.arrayLocs frame_1_arrays args s ++ Jvm.staticLocs frame_1_statics s) 16 128 → Post tb e args s (.returned v) u) :
    ArmFor flags0 classFile x code maxLocals ret World_1 tables_1 room_1 Calls_1 rest_1 Pre_1 Post := by
  intro l hfl _ _ p e ha hc hk s m args below hf hA hF happ hP
  obtain ⟨hcalls, hrest, hpre⟩ := hP
  obtain ⟨-, -, -, hnamed, -, -, -, hat⟩ := (Spec.applies_iff hf).mp happ
  obtain ⟨hg, hn⟩ := and_e (Cond.before_iff.mp (show (Jvm.Cond.and given_1 narrow_1).before args s = true from hpre))
  obtain ⟨gc, gr⟩ := and_e hg
  obtain ⟨ga0, gr0⟩ := and_e gr
  obtain ⟨ga1, gr1⟩ := and_e gr0
  have ga2 := gr1
  obtain ⟨w0, w1, w2, rfl⟩ : ∃ w0 w1 w2 : Value, args = #[w0, w1, w2] := by
    have hs : args.size = 3 := by simpa [Cond.value, given_1] using gc
    obtain ⟨L⟩ := args
    match L, hs with
    | [w0, w1, w2], _ => exact ⟨w0, w1, w2, rfl⟩
  have hw := fun d (hd : d ∈ tables_1) => atoms_spec (ws := Jvm.Cond.code x code maxLocals ret :: tables_1) hat d (List.mem_cons_of_mem _ hd)
  have hfit : Fit s := fun {y c} hc i hi => by
    obtain ⟨ha, rfl⟩ := Array.getElem?_eq_some_iff.mp hc
    have q := List.all_eq_true.mp ((Array.all_eq_true_iff_forall_mem.mp hF) _ (Array.getElem_mem ha)) i (List.mem_range.mpr hi)
    simpa [Array.getElem?_eq_getElem hi] using q
  obtain ⟨i0, ei0⟩ := is_v ga0
  obtain rfl : w0 = (.int i0) := Option.some.inj ei0
  obtain ⟨i1, ei1⟩ := is_v ga1
  obtain rfl : w1 = (.int i1) := Option.some.inj ei1
  obtain ⟨i2, ei2⟩ := is_v ga2
  obtain rfl : w2 = (.int i2) := Option.some.inj ei2
  obtain ⟨n, o, h1, h2, h3, _, L, rfl, ⟨rfl, N⟩, hq⟩ := rm0 l s _ hw tables_1 i0 i1 i2 s.heap s.heap.size (Nat.le_refl _)  p e ha hc hk s m _ below hf ((Spec.applies_iff_loose hf).mp happ).1 ⟨rfl, State.Warmed39.refl s, rfl⟩ trivial
  refine ⟨n, _, h1, h2, h3, hpost _ _ _ _ _ _ ⟨Cond.after_iff.mpr rfl, Cond.after_iff.mpr (eq_i res_at (Term.int_eval (1)) rfl)⟩ ⟨hq.1, hq.2.1, (hq.2.2.sift fun y hy => Or.inr (N y hy)).mono (by decide) (by decide)⟩⟩
theorem main_1_1 : Claimed_1_1 := comes_1 fun _ _ _ _ _ _ h hF => ⟨h.1, hF⟩
theorem main_1_2 : Claimed_1_2 := comes_1 fun _ _ _ _ _ _ h hF => ⟨h.2, hF⟩
end Jvm.Pilot.@@N@@
namespace Jvm.Pilot.@@N@@
open Jvm Jvm.ClassFile Sem Op Lib Jvm.Free Jvm.Stand Jvm.Pilot.@@N@@.Jvm.D
/-! MADE BY PROGRAM (witnessworld.py) out of the Statement's table words and the real class files: 9 classes; the members and pool entries that the words name. The judged class is class 1, her method 1. -/
namespace start1
open Jvm.ClassFile
def u (s : String) : CpInfo := .utf8 (stringToUtf16 s)
/-- a pool by its gaps: so many unusable entries, then the entry; so many at the end -/
def gap : Nat → List CpInfo → List CpInfo
  | 0, r => r
  | n + 1, r => .unusable :: gap n r
def poolList (es : List (Nat × CpInfo)) (last : Nat) : List CpInfo := es.foldr (fun e r => gap e.1 (e.2 :: r)) (gap last [])
def pool (es : List (Nat × CpInfo)) (last : Nat) : Array CpInfo := ⟨poolList es last⟩
def fileOf (pool : Array CpInfo) (this : Nat) (attrs : Array Attribute := #[]) (ms : Array MethodInfo := #[]) (fl : Nat := 33) (sup : Nat := 0) (ifs : Array Nat := #[]) (fds : Array FieldInfo := #[]) : ClassFile where
  minorVersion := 0
  majorVersion := 65
  constantPool := pool
  accessFlags := fl
  thisClass := this
  superClass := sup
  interfaces := ifs
  fields := fds
  methods := ms
  attributes := attrs
def plain (name : String) (sup : Option ClassId) : Class where
  name := name
  kind := .ordinary
  loader := none
  accessFlags := 33
  super := sup
  interfaces := #[]
  cf := none
  fields := #[]
  methods := #[]
  instanceTypes := #[]
  staticTypes := #[]
  resolved := #[]
  callSites := []
  init := .initialized
  statics := none
  mirror := none

def pool0 : Array CpInfo := pool [(5, u "<init>"), (0, u "()V"), (1, .class_ 10), (1, u "java/lang/Object")] 113

def k0c0 : Code := { maxStack := 0, maxLocals := 1, code := object_method_1_code, exceptionTable := #[], attributes := #[] }
def k0m0 : Method := { name := "<init>", desc := "()V", sig := { parameters := [], returnType := none }, accessFlags := 1, code := some k0c0 }
/-- java/lang/Object -/
def k0 : Class := { plain "java/lang/Object" none with
  accessFlags := 33
  interfaces := #[]
  cf := some (fileOf pool0 8 #[] #[{ accessFlags := 1, nameIndex := 5, descriptorIndex := 6, attributes := #[] }] 33 0 #[] #[])
  fields := #[]
  methods := #[k0m0]
  instanceTypes := #[]
  staticTypes := #[]
  resolved := Array.replicate 124 none
  statics := none }

def pool1 : Array CpInfo := pool [(2, .class_ 4), (0, .nameAndType 5 6), (0, u "java/lang/Object"), (0, u "<init>"), (0, u "()V"), (0, .class_ 8), (0, u "com/example/holdfast/holdfast/Sample"), (0, .methodref 7 3), (0, .methodref 7 11), (0, .nameAndType 12 13), (0, u "add"), (0, u "(D)V"), (0, .methodref 7 15), (0, .nameAndType 16 17), (0, u "count"), (0, u "()J"), (0, .methodref 7 19), (0, .nameAndType 20 21), (0, u "mean"), (0, u "()D"), (0, .double 4611686018427387904), (1, .long 2), (1, .long 3), (1, .class_ 29), (0, u "com/example/holdfast/holdfast/SampleAddPinLaw"), (2, u "law"), (0, u "(III)Z")] 3

def k1m0 : Method := { name := "<init>", desc := "()V", sig := { parameters := [], returnType := none }, accessFlags := 2, code := none }
def k1c1 : Code := { maxStack := 4, maxLocals := 9, code := code, exceptionTable := #[], attributes := #[] }
def k1m1 : Method := { name := "law", desc := "(III)Z", sig := { parameters := [.int, .int, .int], returnType := some .boolean }, accessFlags := 9, code := some k1c1 }
/-- com/example/holdfast/holdfast/SampleAddPinLaw -/
def k1 : Class := { plain "com/example/holdfast/holdfast/SampleAddPinLaw" (some 0) with
  accessFlags := 49
  interfaces := #[]
  cf := some (fileOf pool1 28 #[] #[{ accessFlags := 2, nameIndex := 5, descriptorIndex := 6, attributes := #[] }, { accessFlags := 9, nameIndex := 32, descriptorIndex := 33, attributes := #[] }] 49 2 #[] #[])
  fields := #[]
  methods := #[k1m0, k1m1]
  instanceTypes := #[]
  staticTypes := #[]
  resolved := Array.replicate 37 none
  statics := none }

def pool2 : Array CpInfo := pool [(1, .methodref 2 3), (0, .class_ 4), (0, .nameAndType 5 6), (0, u "java/lang/Object"), (0, u "<init>"), (0, u "()V"), (0, .fieldref 8 9), (0, .class_ 10), (0, .nameAndType 11 12), (0, u "com/example/holdfast/holdfast/Sample"), (0, u "count"), (0, u "J"), (0, .fieldref 8 14), (0, .nameAndType 15 16), (0, u "mean"), (0, u "D"), (0, .fieldref 8 18), (0, .nameAndType 19 16), (0, u "squares"), (66, u "NORMAL_QUANTILE"), (1, u "EXPANDED_FROM"), (2, u "add"), (0, u "(D)V"), (0, u "()J"), (0, u "()D")] 19

def k2c0 : Code := { maxStack := 1, maxLocals := 1, code := prog_137_method_1_code, exceptionTable := #[], attributes := #[] }
def k2m0 : Method := { name := "<init>", desc := "()V", sig := { parameters := [], returnType := none }, accessFlags := 0, code := some k2c0 }
def k2c1 : Code := { maxStack := 9, maxLocals := 5, code := prog_137_method_2_code, exceptionTable := #[], attributes := #[] }
def k2m1 : Method := { name := "add", desc := "(D)V", sig := { parameters := [.double], returnType := none }, accessFlags := 0, code := some k2c1 }
def k2c2 : Code := { maxStack := 2, maxLocals := 1, code := prog_137_method_3_code, exceptionTable := #[], attributes := #[] }
def k2m2 : Method := { name := "count", desc := "()J", sig := { parameters := [], returnType := some .long }, accessFlags := 0, code := some k2c2 }
def k2c3 : Code := { maxStack := 2, maxLocals := 1, code := prog_137_method_4_code, exceptionTable := #[], attributes := #[] }
def k2m3 : Method := { name := "mean", desc := "()D", sig := { parameters := [], returnType := some .double }, accessFlags := 0, code := some k2c3 }
/-- com/example/holdfast/holdfast/Sample -/
def k2 : Class := { plain "com/example/holdfast/holdfast/Sample" (some 0) with
  accessFlags := 48
  interfaces := #[]
  cf := some (fileOf pool2 8 #[] #[{ accessFlags := 0, nameIndex := 5, descriptorIndex := 6, attributes := #[] }, { accessFlags := 0, nameIndex := 91, descriptorIndex := 92, attributes := #[] }, { accessFlags := 0, nameIndex := 11, descriptorIndex := 93, attributes := #[] }, { accessFlags := 0, nameIndex := 15, descriptorIndex := 94, attributes := #[] }] 48 2 #[] #[{ accessFlags := 26, nameIndex := 86, descriptorIndex := 16, attributes := #[] }, { accessFlags := 26, nameIndex := 88, descriptorIndex := 12, attributes := #[] }, { accessFlags := 2, nameIndex := 11, descriptorIndex := 12, attributes := #[] }, { accessFlags := 2, nameIndex := 15, descriptorIndex := 16, attributes := #[] }, { accessFlags := 2, nameIndex := 19, descriptorIndex := 16, attributes := #[] }])
  fields := #[{ name := "NORMAL_QUANTILE", type := .double, accessFlags := 26, slot := 0, constantValue := 0 }, { name := "EXPANDED_FROM", type := .long, accessFlags := 26, slot := 1, constantValue := 0 }, { name := "count", type := .long, accessFlags := 2, slot := 0, constantValue := 0 }, { name := "mean", type := .double, accessFlags := 2, slot := 1, constantValue := 0 }, { name := "squares", type := .double, accessFlags := 2, slot := 2, constantValue := 0 }]
  methods := #[k2m0, k2m1, k2m2, k2m3]
  instanceTypes := #[.long, .double, .double]
  staticTypes := #[.double, .long]
  resolved := Array.replicate 114 none
  statics := none }

def pool3 : Array CpInfo := pool [(1, u "java/lang/Cloneable"), (0, .class_ 1), (0, u "java/lang/Object"), (0, .class_ 3)] 3

/-- java/lang/Cloneable -/
def k3 : Class := { plain "java/lang/Cloneable" (some 0) with
  accessFlags := 1537
  interfaces := #[]
  cf := some (fileOf pool3 2 #[] #[] 1537 4 #[] #[])
  fields := #[]
  methods := #[]
  instanceTypes := #[]
  staticTypes := #[]
  resolved := Array.replicate 8 none
  statics := none }

def pool4 : Array CpInfo := pool [(1, u "java/io/Serializable"), (0, .class_ 1), (0, u "java/lang/Object"), (0, .class_ 3)] 3

/-- java/io/Serializable -/
def k4 : Class := { plain "java/io/Serializable" (some 0) with
  accessFlags := 1537
  interfaces := #[]
  cf := some (fileOf pool4 2 #[] #[] 1537 4 #[] #[])
  fields := #[]
  methods := #[]
  instanceTypes := #[]
  staticTypes := #[]
  resolved := Array.replicate 8 none
  statics := none }

/-- the primitive byte -/
def k5 : Class := { plain "byte" none with kind := .primitive 'B', accessFlags := 0x411 }
/-- [B -/
def k6 : Class := { plain "[B" (some 0) with kind := .array 5 .byte, interfaces := #[3, 4], accessFlags := 1041 }

/-- the primitive int -/
def k7 : Class := { plain "int" none with kind := .primitive 'I', accessFlags := 0x411 }
/-- [I -/
def k8 : Class := { plain "[I" (some 0) with kind := .array 7 .int, interfaces := #[3, 4], accessFlags := 1041 }

def heap : Heap := #[]
def classes : Array Class := #[k0, k1, k2, k3, k4, k5, k6, k7, k8]
def interned : List (Array UInt16 × Addr) := []
def slotsUsed : Nat := 0
def theMethod : MethodId := ⟨1, 1⟩
def args0 : Array Value := #[.int 5, .int 9, .int 7]
def aboutOver (below : List Frame) : State where
  vm := { classes := classes, interned := interned.toArray }
  heap := heap
  slotsUsed := slotsUsed
  threads := #[{ frames := .invoking theMethod args0 :: below }]
def below0 : List Frame := [.native { method := ⟨0, 0⟩, args := #[] }]
def about1 : State := aboutOver below0
def p0 : Program := .bare "" "" ""
def e0 : Env := launch0.env 0 0 0
theorem w_frames : about1.frames = Frame.invoking theMethod args0 :: below0 := rfl
set_option maxRecDepth 65536 in
theorem w_args : argsFit about1.vm theMethod args0 = true := by decide +kernel
set_option maxRecDepth 65536 in
theorem w_heap : heapFits about1 = true := by decide +kernel
set_option maxRecDepth 65536 in
theorem w_runnable : about1.curStatus? = some .runnable := by decide +kernel
set_option maxRecDepth 65536 in
theorem w_alone : about1.alone = true := by decide +kernel
set_option maxRecDepth 65536 in
theorem w_named : about1.methodNamed? x = some theMethod := by decide +kernel
set_option maxRecDepth 65536 in
theorem w_hears : about1.hears theMethod below0 = true := by decide +kernel
set_option maxRecDepth 65536 in
theorem w_ripe : about1.ripe theMethod args0 below0 = true := by decide +kernel
theorem w_running : about1.status = .running := rfl
set_option maxRecDepth 65536 in
theorem w_room : about1.hasRoom e0.platform room_1 = true :=
  launch0.hasRoom_least _ room_1 (by decide +kernel) (by decide +kernel) (by decide +kernel) (by decide +kernel) (by decide +kernel) (by decide +kernel)
theorem allAtoms_all (ts : List Jvm.Cond) (a : Array Jvm.Value) (st : Jvm.State) : (allAtoms ts).before a st = ts.all (fun c => c.before a st) := by
  induction ts with
  | nil => rfl
  | cons c t ih =>
    show (Jvm.Cond.and c (allAtoms t)).before a st = _
    rw [Jvm.Cond.before_and, ih, List.all_cons]
def words1 : List Jvm.Cond := Jvm.Cond.code x code maxLocals ret :: tables_1
/-- a 'code' word, met by the world's own term for the bytes: nothing is compared byte by byte -/
theorem code_word {y : MethodName} {bytes : ByteArray} {mx : Nat} {rt : Option FieldType} {a : Array Value} {s : State} {m : MethodId} {meth : Method} {c : Code} (h1 : s.methodNamed? y = some m) (h2 : s.vm.method? m = some meth) (h3 : meth.code = some c) (h4 : c.code = bytes)
    (h5 : (c.maxLocals == mx && c.exceptionTable.isEmpty && decide (c.maxStack ≤ mostOperands) && decide (meth.sig.returnType = rt) && !meth.locks && decide (parseMethodDescriptor y.desc = some meth.sig)) = true) : (Jvm.Cond.code y bytes mx rt).before a s = true := by
  simp only [Bool.and_eq_true, beq_iff_eq, Bool.not_eq_true', decide_eq_true_eq] at h5
  obtain ⟨⟨⟨⟨⟨g1, g2⟩, g3⟩, g4⟩, g5⟩, g6⟩ := h5
  simp [Cond.before, Cond.holds, Cond.value, h1, h2, h3, h4, g1, g2, g3, g4, g5, g6]
def isCode : Jvm.Cond → Bool
  | .code _ _ _ _ => true
  | _ => false
theorem all_split {L : List Jvm.Cond} {P : Jvm.Cond → Bool} (h1 : L.all (fun c => isCode c || P c) = true) (h2 : ∀ c ∈ L.filter isCode, P c = true) : L.all P = true := by
  refine List.all_eq_true.mpr fun c hc => ?_
  have h := List.all_eq_true.mp h1 c hc
  rcases Bool.eq_false_or_eq_true (isCode c) with hi | hi
  · exact h2 c (List.mem_filter.mpr ⟨hc, hi⟩)
  · simpa [hi] using h
set_option maxRecDepth 65536 in
theorem w_c0 : (Jvm.Cond.code x code maxLocals ret).before args0 about1 = true := code_word (m := ⟨1, 1⟩) (meth := k1m1) (c := k1c1) (by decide +kernel) rfl rfl rfl (by decide +kernel)
set_option maxRecDepth 65536 in
theorem w_c1 : (Jvm.Cond.code ({ cls := "com/example/holdfast/holdfast/Sample", name := "<init>", desc := "()V" } : Jvm.MethodName) prog_137_method_1_code (1 : Nat) (Option.none : Option Jvm.ClassFile.FieldType)).before args0 about1 = true := code_word (m := ⟨2, 0⟩) (meth := k2m0) (c := k2c0) (by decide +kernel) rfl rfl rfl (by decide +kernel)
set_option maxRecDepth 65536 in
theorem w_c2 : (Jvm.Cond.code ({ cls := "java/lang/Object", name := "<init>", desc := "()V" } : Jvm.MethodName) object_method_1_code (1 : Nat) (Option.none : Option Jvm.ClassFile.FieldType)).before args0 about1 = true := code_word (m := ⟨0, 0⟩) (meth := k0m0) (c := k0c0) (by decide +kernel) rfl rfl rfl (by decide +kernel)
set_option maxRecDepth 65536 in
theorem w_c3 : (Jvm.Cond.code ({ cls := "com/example/holdfast/holdfast/Sample", name := "add", desc := "(D)V" } : Jvm.MethodName) prog_137_method_2_code (5 : Nat) (Option.none : Option Jvm.ClassFile.FieldType)).before args0 about1 = true := code_word (m := ⟨2, 1⟩) (meth := k2m1) (c := k2c1) (by decide +kernel) rfl rfl rfl (by decide +kernel)
set_option maxRecDepth 65536 in
theorem w_c4 : (Jvm.Cond.code ({ cls := "com/example/holdfast/holdfast/Sample", name := "count", desc := "()J" } : Jvm.MethodName) prog_137_method_3_code (1 : Nat) (Option.some Jvm.ClassFile.FieldType.long)).before args0 about1 = true := code_word (m := ⟨2, 2⟩) (meth := k2m2) (c := k2c2) (by decide +kernel) rfl rfl rfl (by decide +kernel)
set_option maxRecDepth 65536 in
theorem w_c5 : (Jvm.Cond.code ({ cls := "com/example/holdfast/holdfast/Sample", name := "mean", desc := "()D" } : Jvm.MethodName) prog_137_method_4_code (1 : Nat) (Option.some Jvm.ClassFile.FieldType.double)).before args0 about1 = true := code_word (m := ⟨2, 3⟩) (meth := k2m3) (c := k2c3) (by decide +kernel) rfl rfl rfl (by decide +kernel)
def codes1 : List Jvm.Cond := [Jvm.Cond.code x code maxLocals ret, Jvm.Cond.code ({ cls := "com/example/holdfast/holdfast/Sample", name := "<init>", desc := "()V" } : Jvm.MethodName) prog_137_method_1_code (1 : Nat) (Option.none : Option Jvm.ClassFile.FieldType), Jvm.Cond.code ({ cls := "java/lang/Object", name := "<init>", desc := "()V" } : Jvm.MethodName) object_method_1_code (1 : Nat) (Option.none : Option Jvm.ClassFile.FieldType), Jvm.Cond.code ({ cls := "com/example/holdfast/holdfast/Sample", name := "add", desc := "(D)V" } : Jvm.MethodName) prog_137_method_2_code (5 : Nat) (Option.none : Option Jvm.ClassFile.FieldType), Jvm.Cond.code ({ cls := "com/example/holdfast/holdfast/Sample", name := "count", desc := "()J" } : Jvm.MethodName) prog_137_method_3_code (1 : Nat) (Option.some Jvm.ClassFile.FieldType.long), Jvm.Cond.code ({ cls := "com/example/holdfast/holdfast/Sample", name := "mean", desc := "()D" } : Jvm.MethodName) prog_137_method_4_code (1 : Nat) (Option.some Jvm.ClassFile.FieldType.double)]
set_option maxRecDepth 65536 in
theorem codes_eq : words1.filter isCode = codes1 := rfl
theorem w_codes : ∀ c ∈ words1.filter isCode, c.before args0 about1 = true := by
  rw [codes_eq]
  intro c hc
  simp only [codes1, List.mem_cons, List.not_mem_nil, or_false] at hc
  rcases hc with rfl | rfl | rfl | rfl | rfl | rfl
  · exact w_c0
  · exact w_c1
  · exact w_c2
  · exact w_c3
  · exact w_c4
  · exact w_c5
set_option maxRecDepth 65536 in
theorem w_t1 : (words1.take 24).all (fun c => isCode c || c.before args0 about1) = true := by decide +kernel
set_option maxRecDepth 65536 in
theorem w_t2 : (words1.drop 24).all (fun c => isCode c || c.before args0 about1) = true := by decide +kernel
theorem w_tables : (allAtoms (Jvm.Cond.code x code maxLocals ret :: tables_1)).before args0 about1 = true := by
  rw [allAtoms_all]
  show words1.all (fun c => c.before args0 about1) = true
  refine all_split ?_ w_codes
  rw [← List.take_append_drop 24 words1, List.all_append, w_t1, w_t2]
  rfl
set_option maxRecDepth 65536 in
theorem w_case : (Jvm.Cond.and given_1 narrow_1).before args0 about1 = true := by decide +kernel
theorem w_applies : (headSpec (Jvm.Cond.code x code maxLocals ret :: tables_1) room_1).applies x e0.platform about1 = true :=
  (Spec.applies_iff w_frames).mpr ⟨w_running, w_runnable, w_alone, w_named, w_hears, w_ripe, w_room, w_tables⟩
theorem atStart : AtStart classFile x code maxLocals ret World_1 tables_1 room_1 Calls_1 rest_1 Pre_1 launch0 p0 e0 about1 theMethod args0 below0 :=
  ⟨lists_1, trivial, launch0.admits_env _ _ _, launch0.least_env, fairChoices_fair.cas, fairChoices_fair.clock, w_frames, w_args, w_heap, w_applies, trivial, trivial, w_case⟩
end start1
theorem witness_1 : WitnessClaimed_1 := ⟨start1.p0, start1.e0, start1.about1, start1.theMethod, start1.args0, start1.below0, start1.atStart⟩
end Jvm.Pilot.@@N@@
