import JvmDerived
import JvmDerived.Pilot.@@N@@Statement
import JvmDerived.Pilot.@@N@@Code
set_option linter.unusedVariables false
set_option linter.unusedSimpArgs false
namespace Jvm.Pilot.@@N@@
open Jvm Jvm.ClassFile Sem Op Lib Jvm.Free Jvm.Stand Jvm.LawKit Jvm.RoadKit Bundle Jvm.Pilot.@@N@@.Jvm.D
section Own
variable {p : Program} {l : Launch} {e : Env} {R : Room} {s : State} {m : MethodId} {args : Array Value} {below : List Frame} {meth : Method} {c : Code} {T : State} {locs : List Loc} {cells slots : Nat} {Q : Option Value → Heap → List Loc → Prop} {rc rs : Nat} {G : Outcome → State → Prop} {Ls : Array Slot} {st : List Value} {Z : State} {a0 : Array Value} {h : Heap} {pc : Nat}
/-- what is left of a body's walk: from U it comes to its end, of which G holds -/
def OwnW (p : Program) (e : Env) (below : List Frame) (G : Outcome → State → Prop) (U : State) : Prop :=
  ∃ s₂ o, Steps p.tables e below U s₂ ∧ s₂.status = .running ∧ Ended s₂ below o ∧ G o s₂
/-- it returned, Q holds of what it returned, the heap and the written places; the frame -/
def OwnG (s : State) (Q : Option Value → Heap → List Loc → Prop) (rc rs : Nat) (o : Outcome) (t : State) : Prop := ∃ v L, o = .returned v ∧ Q v t.heap L ∧ FrameEnd s o t L rc rs
theorem OwnW.go {U V : State} (k : OwnW p e below G V) (st : ∀ t, Steps p.tables e below V t → Steps p.tables e below U t) : OwnW p e below G U := by
  obtain ⟨s₂, o, h1, h2⟩ := k
  exact ⟨s₂, o, st _ h1, h2⟩
theorem OwnW.tr {U V : State} (k : OwnW p e below G V) (st : Steps p.tables e below U V) : OwnW p e below G U := k.go fun _ h => st.trans h
theorem own_aload (X : Stand p l e R s m args below meth c T locs cells slots) (hx : p.tables.exec = Jvm.exec) {k : Nat} {v : Value} (hd : decode c.code pc = .ok (.aload k, 2)) (hl : Ls[k]? = some (.val v)) (hv : v.isRef = true) (pc' : Nat) (hp : pc + 2 = pc')
    (K : OwnW p e below G (T.setTop (mkF m pc' Ls (v :: st)))) : OwnW p e below G (T.setTop (mkF m pc Ls st)) := by
  subst hp; exact K.go fun _ k => XS.aload X.here hx rfl hd hl hv k
theorem own_aloadN (X : Stand p l e R s m args below meth c T locs cells slots) (hx : p.tables.exec = Jvm.exec) {k : Fin 4} {v : Value} (hd : decode c.code pc = .ok (.aload_n k, 1)) (hl : Ls[k.val]? = some (.val v)) (hv : v.isRef = true) (pc' : Nat) (hp : pc + 1 = pc')
    (K : OwnW p e below G (T.setTop (mkF m pc' Ls (v :: st)))) : OwnW p e below G (T.setTop (mkF m pc Ls st)) := by
  subst hp; exact K.go fun _ k => XS.aloadN X.here hx rfl hd hl hv k
theorem own_iload (X : Stand p l e R s m args below meth c T locs cells slots) (hx : p.tables.exec = Jvm.exec) {k : Nat} {v : Int32} (hd : decode c.code pc = .ok (.iload k, 2)) (hl : Ls[k]? = some (.val (.int v))) (pc' : Nat) (hp : pc + 2 = pc')
    (K : OwnW p e below G (T.setTop (mkF m pc' Ls (.int v :: st)))) : OwnW p e below G (T.setTop (mkF m pc Ls st)) := by
  subst hp; exact K.go fun _ k => XS.iload X.here hx rfl hd hl k
theorem own_iloadN (X : Stand p l e R s m args below meth c T locs cells slots) (hx : p.tables.exec = Jvm.exec) {k : Fin 4} {v : Int32} (hd : decode c.code pc = .ok (.iload_n k, 1)) (hl : Ls[k.val]? = some (.val (.int v))) (pc' : Nat) (hp : pc + 1 = pc')
    (K : OwnW p e below G (T.setTop (mkF m pc' Ls (.int v :: st)))) : OwnW p e below G (T.setTop (mkF m pc Ls st)) := by
  subst hp; exact K.go fun _ k => XS.iloadN X.here hx rfl hd hl k
theorem own_lload (X : Stand p l e R s m args below meth c T locs cells slots) (hx : p.tables.exec = Jvm.exec) {k : Nat} {v : Int64} (hd : decode c.code pc = .ok (.lload k, 2)) (hl : Ls[k]? = some (.val (.long v))) (pc' : Nat) (hp : pc + 2 = pc')
    (K : OwnW p e below G (T.setTop (mkF m pc' Ls (.long v :: st)))) : OwnW p e below G (T.setTop (mkF m pc Ls st)) := by
  subst hp; exact K.go fun _ k => XS.lload X.here hx rfl hd hl k
theorem own_lloadN (X : Stand p l e R s m args below meth c T locs cells slots) (hx : p.tables.exec = Jvm.exec) {k : Fin 4} {v : Int64} (hd : decode c.code pc = .ok (.lload_n k, 1)) (hl : Ls[k.val]? = some (.val (.long v))) (pc' : Nat) (hp : pc + 1 = pc')
    (K : OwnW p e below G (T.setTop (mkF m pc' Ls (.long v :: st)))) : OwnW p e below G (T.setTop (mkF m pc Ls st)) := by
  subst hp; exact K.go fun _ k => XS.lloadN X.here hx rfl hd hl k
theorem own_istore (X : Stand p l e R s m args below meth c T locs cells slots) (hx : p.tables.exec = Jvm.exec) {k : Nat} {x : Int32} (hd : decode c.code pc = .ok (.istore k, 2)) (Ls' : Array Slot) (hl : storeLocals Ls k (.int x) = some Ls') (pc' : Nat) (hp : pc + 2 = pc')
    (K : OwnW p e below G (T.setTop (mkF m pc' Ls' st))) : OwnW p e below G (T.setTop (mkF m pc Ls (.int x :: st))) := by
  subst hp; exact K.go fun _ k => XS.istore X.here hx rfl hd rfl hl k
theorem own_istoreN (X : Stand p l e R s m args below meth c T locs cells slots) (hx : p.tables.exec = Jvm.exec) {k : Fin 4} {x : Int32} (hd : decode c.code pc = .ok (.istore_n k, 1)) (Ls' : Array Slot) (hl : storeLocals Ls k.val (.int x) = some Ls') (pc' : Nat) (hp : pc + 1 = pc')
    (K : OwnW p e below G (T.setTop (mkF m pc' Ls' st))) : OwnW p e below G (T.setTop (mkF m pc Ls (.int x :: st))) := by
  subst hp; exact K.go fun _ k => XS.istoreN X.here hx rfl hd rfl hl k
theorem own_lstore (X : Stand p l e R s m args below meth c T locs cells slots) (hx : p.tables.exec = Jvm.exec) {k : Nat} {x : Int64} (hd : decode c.code pc = .ok (.lstore k, 2)) (Ls' : Array Slot) (hl : storeLocals Ls k (.long x) = some Ls') (pc' : Nat) (hp : pc + 2 = pc')
    (K : OwnW p e below G (T.setTop (mkF m pc' Ls' st))) : OwnW p e below G (T.setTop (mkF m pc Ls (.long x :: st))) := by
  subst hp; exact K.go fun _ k => XS.lstore X.here hx rfl hd rfl hl k
theorem own_lstoreN (X : Stand p l e R s m args below meth c T locs cells slots) (hx : p.tables.exec = Jvm.exec) {k : Fin 4} {x : Int64} (hd : decode c.code pc = .ok (.lstore_n k, 1)) (Ls' : Array Slot) (hl : storeLocals Ls k.val (.long x) = some Ls') (pc' : Nat) (hp : pc + 1 = pc')
    (K : OwnW p e below G (T.setTop (mkF m pc' Ls' st))) : OwnW p e below G (T.setTop (mkF m pc Ls (.long x :: st))) := by
  subst hp; exact K.go fun _ k => XS.lstoreN X.here hx rfl hd rfl hl k
theorem own_astore (X : Stand p l e R s m args below meth c T locs cells slots) (hx : p.tables.exec = Jvm.exec) {k : Nat} {x : Value} (hd : decode c.code pc = .ok (.astore k, 2)) (hv : x.isRef = true) (Ls' : Array Slot) (hl : storeLocals Ls k x = some Ls') (pc' : Nat) (hp : pc + 2 = pc')
    (K : OwnW p e below G (T.setTop (mkF m pc' Ls' st))) : OwnW p e below G (T.setTop (mkF m pc Ls (x :: st))) := by
  subst hp; exact K.go fun _ k => XS.astore X.here hx rfl hd rfl hv hl k
theorem own_astoreN (X : Stand p l e R s m args below meth c T locs cells slots) (hx : p.tables.exec = Jvm.exec) {k : Fin 4} {x : Value} (hd : decode c.code pc = .ok (.astore_n k, 1)) (hv : x.isRef = true) (Ls' : Array Slot) (hl : storeLocals Ls k.val x = some Ls') (pc' : Nat) (hp : pc + 1 = pc')
    (K : OwnW p e below G (T.setTop (mkF m pc' Ls' st))) : OwnW p e below G (T.setTop (mkF m pc Ls (x :: st))) := by
  subst hp; exact K.go fun _ k => XS.astoreN X.here hx rfl hd rfl hv hl k
theorem own_iinc (X : Stand p l e R s m args below meth c T locs cells slots) (hx : p.tables.exec = Jvm.exec) {k : Nat} {cst : Int} {x : Int32} (hd : decode c.code pc = .ok (.iinc k cst, 3)) (hl : Ls[k]? = some (.val (.int x))) (Ls' : Array Slot) (hl' : storeLocals Ls k (.int (x + Int32.ofInt cst)) = some Ls') (pc' : Nat) (hp : pc + 3 = pc')
    (K : OwnW p e below G (T.setTop (mkF m pc' Ls' st))) : OwnW p e below G (T.setTop (mkF m pc Ls st)) := by
  subst hp; exact K.go fun _ k => XS.iinc X.here hx rfl hd hl hl' k
theorem own_iconst (X : Stand p l e R s m args below meth c T locs cells slots) (hx : p.tables.exec = Jvm.exec) {i : Int} (hd : decode c.code pc = .ok (.iconst i, 1)) (v : Int32) (hv : Int32.ofInt i = v) (pc' : Nat) (hp : pc + 1 = pc')
    (K : OwnW p e below G (T.setTop (mkF m pc' Ls (.int v :: st)))) : OwnW p e below G (T.setTop (mkF m pc Ls st)) := by
  subst hp hv; exact K.go fun _ k => XS.iconst X.here hx rfl hd k
theorem own_bipush (X : Stand p l e R s m args below meth c T locs cells slots) (hx : p.tables.exec = Jvm.exec) {i : Int} (hd : decode c.code pc = .ok (.bipush i, 2)) (v : Int32) (hv : (Int8.ofInt i).toInt32 = v) (pc' : Nat) (hp : pc + 2 = pc')
    (K : OwnW p e below G (T.setTop (mkF m pc' Ls (.int v :: st)))) : OwnW p e below G (T.setTop (mkF m pc Ls st)) := by
  subst hp hv; exact K.go fun _ k => XS.bipush X.here hx rfl hd k
theorem own_sipush (X : Stand p l e R s m args below meth c T locs cells slots) (hx : p.tables.exec = Jvm.exec) {i : Int} (hd : decode c.code pc = .ok (.sipush i, 3)) (v : Int32) (hv : (Int16.ofInt i).toInt32 = v) (pc' : Nat) (hp : pc + 3 = pc')
    (K : OwnW p e below G (T.setTop (mkF m pc' Ls (.int v :: st)))) : OwnW p e below G (T.setTop (mkF m pc Ls st)) := by
  subst hp hv; exact K.go fun _ k => XS.sipush X.here hx rfl hd k
theorem own_lconst0 (X : Stand p l e R s m args below meth c T locs cells slots) (hx : p.tables.exec = Jvm.exec) (hd : decode c.code pc = .ok (.lconst 0, 1)) (pc' : Nat) (hp : pc + 1 = pc')
    (K : OwnW p e below G (T.setTop (mkF m pc' Ls (.long (0 : Int64) :: st)))) : OwnW p e below G (T.setTop (mkF m pc Ls st)) := by
  subst hp; exact K.go fun _ k => XS.lconst X.here hx rfl hd k
theorem own_lconst1 (X : Stand p l e R s m args below meth c T locs cells slots) (hx : p.tables.exec = Jvm.exec) (hd : decode c.code pc = .ok (.lconst 1, 1)) (pc' : Nat) (hp : pc + 1 = pc')
    (K : OwnW p e below G (T.setTop (mkF m pc' Ls (.long (1 : Int64) :: st)))) : OwnW p e below G (T.setTop (mkF m pc Ls st)) := by
  subst hp; exact K.go fun _ k => XS.lconst X.here hx rfl hd k
theorem own_null (X : Stand p l e R s m args below meth c T locs cells slots) (hx : p.tables.exec = Jvm.exec) (hd : decode c.code pc = .ok (.aconst_null, 1)) (pc' : Nat) (hp : pc + 1 = pc')
    (K : OwnW p e below G (T.setTop (mkF m pc' Ls (.null :: st)))) : OwnW p e below G (T.setTop (mkF m pc Ls st)) := by
  subst hp; exact K.go fun _ k => XS.aconstNull X.here hx rfl hd k
theorem own_ldcI (X : Stand p l e R s m args below meth c T locs cells slots) (hx : p.tables.exec = Jvm.exec) (hZ : Z.Warmed39 s.vm) {own : String} {index : Nat} {v : Int32} (hown : s.vm.findClass own = some m.cls) (w : (Cond.constant own index v).before a0 Z = true) (hd : decode c.code pc = .ok (.ldc index, 2)) (pc' : Nat) (hp : pc + 2 = pc')
    (K : OwnW p e below G (T.setTop (mkF m pc' Ls (.int v :: st)))) : OwnW p e below G (T.setTop (mkF m pc Ls st)) := by
  subst hp; exact K.go (X.ldcInt hx hown (mvT hZ w) (g := mkF m pc Ls st) rfl hd)
theorem own_ldcJ (X : Stand p l e R s m args below meth c T locs cells slots) (hx : p.tables.exec = Jvm.exec) (hZ : Z.Warmed39 s.vm) {own : String} {index : Nat} {v : Int64} (hown : s.vm.findClass own = some m.cls) (w : (Cond.constantLong own index v).before a0 Z = true) (hd : decode c.code pc = .ok (.ldc2_w index, 3)) (pc' : Nat) (hp : pc + 3 = pc')
    (K : OwnW p e below G (T.setTop (mkF m pc' Ls (.long v :: st)))) : OwnW p e below G (T.setTop (mkF m pc Ls st)) := by
  subst hp; exact K.go (X.ldc2Long hx hown (mvT hZ w) (g := mkF m pc Ls st) rfl hd)
theorem own_irem (X : Stand p l e R s m args below meth c T locs cells slots) (hx : p.tables.exec = Jvm.exec) {x y : Int32} (hd : decode c.code pc = .ok (.irem, 1)) (hy : y ≠ 0) (pc' : Nat) (hp : pc + 1 = pc')
    (K : OwnW p e below G (T.setTop (mkF m pc' Ls (.int (x % y) :: st)))) : OwnW p e below G (T.setTop (mkF m pc Ls (.int y :: .int x :: st))) := by
  subst hp; exact K.go fun _ k => iremM X hx rfl hd rfl hy k
theorem own_iadd (X : Stand p l e R s m args below meth c T locs cells slots) (hx : p.tables.exec = Jvm.exec) {x y : Int32} (hd : decode c.code pc = .ok (.iadd, 1)) (pc' : Nat) (hp : pc + 1 = pc')
    (K : OwnW p e below G (T.setTop (mkF m pc' Ls (.int (x + y) :: st)))) : OwnW p e below G (T.setTop (mkF m pc Ls (.int y :: .int x :: st))) := by
  subst hp; exact K.go fun _ k => XS.iadd X.here hx rfl hd rfl k
theorem own_isub (X : Stand p l e R s m args below meth c T locs cells slots) (hx : p.tables.exec = Jvm.exec) {x y : Int32} (hd : decode c.code pc = .ok (.isub, 1)) (pc' : Nat) (hp : pc + 1 = pc')
    (K : OwnW p e below G (T.setTop (mkF m pc' Ls (.int (x - y) :: st)))) : OwnW p e below G (T.setTop (mkF m pc Ls (.int y :: .int x :: st))) := by
  subst hp; exact K.go fun _ k => XS.isub X.here hx rfl hd rfl k
theorem own_imul (X : Stand p l e R s m args below meth c T locs cells slots) (hx : p.tables.exec = Jvm.exec) {x y : Int32} (hd : decode c.code pc = .ok (.imul, 1)) (pc' : Nat) (hp : pc + 1 = pc')
    (K : OwnW p e below G (T.setTop (mkF m pc' Ls (.int (x * y) :: st)))) : OwnW p e below G (T.setTop (mkF m pc Ls (.int y :: .int x :: st))) := by
  subst hp; exact K.go fun _ k => XS.imul X.here hx rfl hd rfl k
theorem own_iand (X : Stand p l e R s m args below meth c T locs cells slots) (hx : p.tables.exec = Jvm.exec) {x y : Int32} (hd : decode c.code pc = .ok (.iand, 1)) (pc' : Nat) (hp : pc + 1 = pc')
    (K : OwnW p e below G (T.setTop (mkF m pc' Ls (.int (x &&& y) :: st)))) : OwnW p e below G (T.setTop (mkF m pc Ls (.int y :: .int x :: st))) := by
  subst hp; exact K.go fun _ k => XS.iand X.here hx rfl hd rfl k
theorem own_ior (X : Stand p l e R s m args below meth c T locs cells slots) (hx : p.tables.exec = Jvm.exec) {x y : Int32} (hd : decode c.code pc = .ok (.ior, 1)) (pc' : Nat) (hp : pc + 1 = pc')
    (K : OwnW p e below G (T.setTop (mkF m pc' Ls (.int (x ||| y) :: st)))) : OwnW p e below G (T.setTop (mkF m pc Ls (.int y :: .int x :: st))) := by
  subst hp; exact K.go fun _ k => XS.ior X.here hx rfl hd rfl k
theorem own_ixor (X : Stand p l e R s m args below meth c T locs cells slots) (hx : p.tables.exec = Jvm.exec) {x y : Int32} (hd : decode c.code pc = .ok (.ixor, 1)) (pc' : Nat) (hp : pc + 1 = pc')
    (K : OwnW p e below G (T.setTop (mkF m pc' Ls (.int (x ^^^ y) :: st)))) : OwnW p e below G (T.setTop (mkF m pc Ls (.int y :: .int x :: st))) := by
  subst hp; exact K.go fun _ k => XS.ixor X.here hx rfl hd rfl k
theorem own_ladd (X : Stand p l e R s m args below meth c T locs cells slots) (hx : p.tables.exec = Jvm.exec) {x y : Int64} (hd : decode c.code pc = .ok (.ladd, 1)) (pc' : Nat) (hp : pc + 1 = pc')
    (K : OwnW p e below G (T.setTop (mkF m pc' Ls (.long (x + y) :: st)))) : OwnW p e below G (T.setTop (mkF m pc Ls (.long y :: .long x :: st))) := by
  subst hp; exact K.go fun _ k => XS.ladd X.here hx rfl hd rfl k
theorem own_lsub (X : Stand p l e R s m args below meth c T locs cells slots) (hx : p.tables.exec = Jvm.exec) {x y : Int64} (hd : decode c.code pc = .ok (.lsub, 1)) (pc' : Nat) (hp : pc + 1 = pc')
    (K : OwnW p e below G (T.setTop (mkF m pc' Ls (.long (x - y) :: st)))) : OwnW p e below G (T.setTop (mkF m pc Ls (.long y :: .long x :: st))) := by
  subst hp; exact K.go fun _ k => XS.lsub X.here hx rfl hd rfl k
theorem own_lmul (X : Stand p l e R s m args below meth c T locs cells slots) (hx : p.tables.exec = Jvm.exec) {x y : Int64} (hd : decode c.code pc = .ok (.lmul, 1)) (pc' : Nat) (hp : pc + 1 = pc')
    (K : OwnW p e below G (T.setTop (mkF m pc' Ls (.long (x * y) :: st)))) : OwnW p e below G (T.setTop (mkF m pc Ls (.long y :: .long x :: st))) := by
  subst hp; exact K.go fun _ k => XS.lmul X.here hx rfl hd rfl k
theorem own_iushr (X : Stand p l e R s m args below meth c T locs cells slots) (hx : p.tables.exec = Jvm.exec) {x y : Int32} (hd : decode c.code pc = .ok (.iushr, 1)) (pc' : Nat) (hp : pc + 1 = pc')
    (K : OwnW p e below G (T.setTop (mkF m pc' Ls (.int ((x.toUInt32 >>> (y &&& 31).toUInt32).toInt32) :: st)))) : OwnW p e below G (T.setTop (mkF m pc Ls (.int y :: .int x :: st))) := by
  subst hp; exact K.go fun _ k => XS.iushr X.here hx rfl hd rfl k
theorem own_i2l (X : Stand p l e R s m args below meth c T locs cells slots) (hx : p.tables.exec = Jvm.exec) {x : Int32} (hd : decode c.code pc = .ok (.i2l, 1)) (pc' : Nat) (hp : pc + 1 = pc')
    (K : OwnW p e below G (T.setTop (mkF m pc' Ls (.long x.toInt64 :: st)))) : OwnW p e below G (T.setTop (mkF m pc Ls (.int x :: st))) := by
  subst hp; exact K.go fun _ k => XS.i2l X.here hx rfl hd rfl k
theorem own_l2i (X : Stand p l e R s m args below meth c T locs cells slots) (hx : p.tables.exec = Jvm.exec) {x : Int64} (hd : decode c.code pc = .ok (.l2i, 1)) (pc' : Nat) (hp : pc + 1 = pc')
    (K : OwnW p e below G (T.setTop (mkF m pc' Ls (.int x.toInt32 :: st)))) : OwnW p e below G (T.setTop (mkF m pc Ls (.long x :: st))) := by
  subst hp; exact K.go fun _ k => XS.l2i X.here hx rfl hd rfl k
theorem own_lcmp (X : Stand p l e R s m args below meth c T locs cells slots) (hx : p.tables.exec = Jvm.exec) {x y : Int64} (hd : decode c.code pc = .ok (.lcmp, 1)) (pc' : Nat) (hp : pc + 1 = pc')
    (K : OwnW p e below G (T.setTop (mkF m pc' Ls (.int (lcmpW x y) :: st)))) : OwnW p e below G (T.setTop (mkF m pc Ls (.long y :: .long x :: st))) := by
  subst hp; exact K.go fun _ k => XS.lcmp X.here hx rfl hd rfl k
theorem own_dup (X : Stand p l e R s m args below meth c T locs cells slots) (hx : p.tables.exec = Jvm.exec) {x : Value} (hd : decode c.code pc = .ok (.dup, 1)) (hc : x.category = 1) (pc' : Nat) (hp : pc + 1 = pc')
    (K : OwnW p e below G (T.setTop (mkF m pc' Ls (x :: x :: st)))) : OwnW p e below G (T.setTop (mkF m pc Ls (x :: st))) := by
  subst hp; exact K.go fun _ k => XS.dup X.here hx rfl hd rfl hc k
theorem own_dup2 (X : Stand p l e R s m args below meth c T locs cells slots) (hx : p.tables.exec = Jvm.exec) {x y : Value} (hd : decode c.code pc = .ok (.dup2, 1)) (hc : x.category = 1) (hc' : y.category = 1) (pc' : Nat) (hp : pc + 1 = pc')
    (K : OwnW p e below G (T.setTop (mkF m pc' Ls (x :: y :: x :: y :: st)))) : OwnW p e below G (T.setTop (mkF m pc Ls (x :: y :: st))) := by
  subst hp; exact K.go fun _ k => XT.dup2 X.here hx rfl hd rfl hc hc' k
theorem own_pop (X : Stand p l e R s m args below meth c T locs cells slots) (hx : p.tables.exec = Jvm.exec) {x : Value} (hd : decode c.code pc = .ok (.pop, 1)) (hc : x.category = 1) (pc' : Nat) (hp : pc + 1 = pc')
    (K : OwnW p e below G (T.setTop (mkF m pc' Ls st))) : OwnW p e below G (T.setTop (mkF m pc Ls (x :: st))) := by
  subst hp; exact K.go fun _ k => XS.pop X.here hx rfl hd rfl hc k
theorem own_goto (X : Stand p l e R s m args below meth c T locs cells slots) (hx : p.tables.exec = Jvm.exec) {o : Int} (hd : decode c.code pc = .ok (.goto o, 3)) (pc' : Nat) (hp : (pc : Int) + o = (pc' : Nat))
    (K : OwnW p e below G (T.setTop (mkF m pc' Ls st))) : OwnW p e below G (T.setTop (mkF m pc Ls st)) := by
  exact K.go fun _ k => XS.goto X.here hx rfl (pc0 := pc) (pc' := pc') rfl hd (by omega) (by omega) k
theorem own_ifY (X : Stand p l e R s m args below meth c T locs cells slots) (hx : p.tables.exec = Jvm.exec) {cd : ClassFile.Cond} {x : Int32} {o : Int} (hd : decode c.code pc = .ok (.ifCond cd o, 3)) (hc : if_icmp.holds cd x 0 = true) (pc' : Nat) (hp : (pc : Int) + o = (pc' : Nat))
    (K : OwnW p e below G (T.setTop (mkF m pc' Ls st))) : OwnW p e below G (T.setTop (mkF m pc Ls (.int x :: st))) := by
  exact K.go fun _ k => XS.ifYes X.here hx rfl (pc0 := pc) (pc' := pc') rfl hd rfl ((if0 _ _).trans hc) (by omega) (by omega) k
theorem own_ifN (X : Stand p l e R s m args below meth c T locs cells slots) (hx : p.tables.exec = Jvm.exec) {cd : ClassFile.Cond} {x : Int32} {o : Int} (hd : decode c.code pc = .ok (.ifCond cd o, 3)) (hc : if_icmp.holds cd x 0 = false) (pc' : Nat) (hp : pc + 3 = pc')
    (K : OwnW p e below G (T.setTop (mkF m pc' Ls st))) : OwnW p e below G (T.setTop (mkF m pc Ls (.int x :: st))) := by
  subst hp; exact K.go fun _ k => XS.ifNo X.here hx rfl hd rfl ((if0 _ _).trans hc) k
theorem own_icmpY (X : Stand p l e R s m args below meth c T locs cells slots) (hx : p.tables.exec = Jvm.exec) {cd : ClassFile.Cond} {x y : Int32} {o : Int} (hd : decode c.code pc = .ok (.if_icmp cd o, 3)) (hc : if_icmp.holds cd x y = true) (pc' : Nat) (hp : (pc : Int) + o = (pc' : Nat))
    (K : OwnW p e below G (T.setTop (mkF m pc' Ls st))) : OwnW p e below G (T.setTop (mkF m pc Ls (.int y :: .int x :: st))) := by
  exact K.go fun _ k => XS.icmpYes X.here hx rfl (pc0 := pc) (pc' := pc') rfl hd rfl hc (by omega) (by omega) k
theorem own_icmpN (X : Stand p l e R s m args below meth c T locs cells slots) (hx : p.tables.exec = Jvm.exec) {cd : ClassFile.Cond} {x y : Int32} {o : Int} (hd : decode c.code pc = .ok (.if_icmp cd o, 3)) (hc : if_icmp.holds cd x y = false) (pc' : Nat) (hp : pc + 3 = pc')
    (K : OwnW p e below G (T.setTop (mkF m pc' Ls st))) : OwnW p e below G (T.setTop (mkF m pc Ls (.int y :: .int x :: st))) := by
  subst hp; exact K.go fun _ k => XS.icmpNo X.here hx rfl hd rfl hc k
theorem own_acmp (X : Stand p l e R s m args below meth c T locs cells slots) (hx : p.tables.exec = Jvm.exec) {cd : ACond} {x y : Value} (h1 : x.isRef = true) (h2 : y.isRef = true) {o : Int} (hd : decode c.code pc = .ok (.if_acmp cd o, 3)) (same : Bool) (hq : decide (x = y) = same) (ho : 0 ≤ (pc : Int) + o) (pc' : Nat) (hp : pc' = if acV cd same = true then ((pc : Int) + o).toNat else pc + 3)
    (K : OwnW p e below G (T.setTop (mkF m pc' Ls st))) : OwnW p e below G (T.setTop (mkF m pc Ls (y :: x :: st))) := by
  exact K.go fun _ k => Jvm.RoadKit.acmp (g := mkF m pc Ls (y :: x :: st)) X hx rfl h1 h2 (pc0 := pc) (pc' := pc') (same := same) rfl hd rfl hq ho hp k
theorem own_ifnullY (X : Stand p l e R s m args below meth c T locs cells slots) (hx : p.tables.exec = Jvm.exec) {o : Int} (hd : decode c.code pc = .ok (.ifnull o, 3)) (pc' : Nat) (hp : (pc : Int) + o = (pc' : Nat))
    (K : OwnW p e below G (T.setTop (mkF m pc' Ls st))) : OwnW p e below G (T.setTop (mkF m pc Ls (.null :: st))) := by
  exact K.go fun _ k => XS.ifnullYes X.here hx rfl (pc0 := pc) (pc' := pc') rfl hd rfl (by omega) (by omega) k
theorem own_ifnullN (X : Stand p l e R s m args below meth c T locs cells slots) (hx : p.tables.exec = Jvm.exec) {o : Int} {b : Addr} (hd : decode c.code pc = .ok (.ifnull o, 3)) (pc' : Nat) (hp : pc + 3 = pc')
    (K : OwnW p e below G (T.setTop (mkF m pc' Ls st))) : OwnW p e below G (T.setTop (mkF m pc Ls (.ref b :: st))) := by
  subst hp; exact K.go fun _ k => XS.ifnullNo X.here hx rfl hd rfl k
theorem own_getF (X : Stand p l e R s m args below meth c T locs cells slots) (hx : p.tables.exec = Jvm.exec) (hZ : Z.Warmed39 s.vm) {own R0 O n d : String} {index : Nat} (hown : s.vm.findClass own = some m.cls) (w : (Cond.fieldLink own index R0 n d).before a0 Z = true) (via : Via Z R0 O n d) (eT : T.heap = h) {a : Addr} {v : Value} (F : Fld Z h a O n d v) (hd : decode c.code pc = .ok (.getfield index, 3)) (pc' : Nat) (hp : pc + 3 = pc')
    (K : ∀ T', Stand p l e R s m args below meth c T' locs cells slots → T'.heap = h → OwnW p e below G (T'.setTop (mkF m pc' Ls (v :: st)))) : OwnW p e below G (T.setTop (mkF m pc Ls (.ref a :: st))) := by
  subst hp
  obtain ⟨T', X', e', st'⟩ := getF X hx hZ hown (host := "") (Or.inl w) via eT F (g := mkF m pc Ls (.ref a :: st)) rfl rfl hd
  exact (K T' X' e').go st'
theorem own_getS (X : Stand p l e R s m args below meth c T locs cells slots) (hx : p.tables.exec = Jvm.exec) (hZ : Z.Warmed39 s.vm) {own R0 O n d : String} {index : Nat} (hown : s.vm.findClass own = some m.cls) (w : (Cond.fieldLink own index R0 n d).before a0 Z = true) (via : Via Z R0 O n d) (eT : T.heap = h) {v : Value} (F : Sta Z h O n d v) (hd : decode c.code pc = .ok (.getstatic index, 3)) (pc' : Nat) (hp : pc + 3 = pc')
    (K : ∀ T', Stand p l e R s m args below meth c T' locs cells slots → T'.heap = h → OwnW p e below G (T'.setTop (mkF m pc' Ls (v :: st)))) : OwnW p e below G (T.setTop (mkF m pc Ls st)) := by
  subst hp
  obtain ⟨T', X', e', st'⟩ := getS (host := "") X hx hZ hown w via eT F (g := mkF m pc Ls st) rfl hd
  exact (K T' X' e').go st'
theorem own_castY (X : Stand p l e R s m args below meth c T locs cells slots) (hx : p.tables.exec = Jvm.exec) (hZ : Z.Warmed39 s.vm) {own C : String} {index : Nat} (hown : s.vm.findClass own = some m.cls) (w : (Cond.classLink own index C).before a0 Z = true) (eT : T.heap = h) {a : Addr} (F : Ins Z h a C true) (hd : decode c.code pc = .ok (.checkcast index, 3)) (pc' : Nat) (hp : pc + 3 = pc')
    (K : ∀ T', Stand p l e R s m args below meth c T' locs cells slots → T'.heap = h → OwnW p e below G (T'.setTop (mkF m pc' Ls (.ref a :: st)))) : OwnW p e below G (T.setTop (mkF m pc Ls (.ref a :: st))) := by
  subst hp
  obtain ⟨T', X', e', st'⟩ := castY X hx hZ hown w eT F (g := mkF m pc Ls (.ref a :: st)) rfl rfl hd
  exact (K T' X' e').go st'
theorem own_instY (X : Stand p l e R s m args below meth c T locs cells slots) (hx : p.tables.exec = Jvm.exec) (hZ : Z.Warmed39 s.vm) {own C : String} {index : Nat} (hown : s.vm.findClass own = some m.cls) (w : (Cond.classLink own index C).before a0 Z = true) (eT : T.heap = h) {a : Addr} (F : Ins Z h a C true) (hd : decode c.code pc = .ok (.instanceof index, 3)) (pc' : Nat) (hp : pc + 3 = pc')
    (K : ∀ T', Stand p l e R s m args below meth c T' locs cells slots → T'.heap = h → OwnW p e below G (T'.setTop (mkF m pc' Ls (.int (1 : Int32) :: st)))) : OwnW p e below G (T.setTop (mkF m pc Ls (.ref a :: st))) := by
  subst hp
  obtain ⟨T', X', e', st'⟩ := instY X hx hZ hown w eT F (g := mkF m pc Ls (.ref a :: st)) rfl rfl hd
  exact (K T' X' e').go st'
theorem own_putF (X : Stand p l e R s m args below meth c T locs cells slots) (hx : p.tables.exec = Jvm.exec) (hZ : Z.Warmed39 s.vm) {own R0 O n d C : String} {index kk : Nat} {ty : FieldType} (hown : s.vm.findClass own = some m.cls) (w : (Cond.fieldLink own index R0 n d).before a0 Z = true) (via : Via Z R0 O n d)
    (eT : T.heap = h) {a : Addr} {v old : Value} (F : Fld Z h a O n d old) (E : Exa Z h a C) (L : (Cond.lays C O n d).before a0 Z = true ∨ ((Cond.laysFinal C O n d).before a0 Z = true ∧ own = O ∧ meth.name = "<init>")) (wi : (Cond.instantiable C kk).before a0 Z = true)
    (hty : parseFieldDescriptor d = some ty) (hn : narrow ty v = v) (hf : fits ty v = true) (hd : decode c.code pc = .ok (.putfield index, 3)) (pc' : Nat) (hp : pc + 3 = pc')
    (K : ∀ T' h', Stand p l e R s m args below meth c T' (locs ++ [⟨a, Jvm.RoadKit.slotOf Z O n d⟩]) cells slots → T'.heap = h' → Wr h h' a (Jvm.RoadKit.slotOf Z O n d) v → OwnW p e below G (T'.setTop (mkF m pc' Ls st))) : OwnW p e below G (T.setTop (mkF m pc Ls (v :: .ref a :: st))) := by
  subst hp
  obtain ⟨T', h', X', e', W', st'⟩ := putF X hx hZ hown (host := "") (Or.inl w) via eT F E L wi hty hn hf (g := mkF m pc Ls (v :: .ref a :: st)) rfl rfl hd
  exact (K T' h' X' e' W').go st'
theorem own_new (X : Stand p l e R s m args below meth c T locs cells slots) (hx : p.tables.exec = Jvm.exec) (hZ : Z.Warmed39 s.vm) {own C : String} {index n : Nat} (hown : s.vm.findClass own = some m.cls) (w : (Cond.classLink own index C).before a0 Z = true) (wi : (Cond.instantiable C n).before a0 Z = true) (wz : (Cond.initialized C).before a0 Z = true) (eT : T.heap = h)
    (hd : decode c.code pc = .ok (.new index, 3)) (hc : cells + 1 ≤ R.cells) (hl : slots + n ≤ R.slots) (pc' : Nat) (hp : pc + 3 = pc')
    (K : ∀ T' h' b, b = h.size → Stand p l e R s m args below meth c T' locs (cells + 1) (slots + n) → T'.heap = h' → Ext h h' → Exa Z h' b C → (∀ {O nm d : String} {ty : FieldType}, Laid Z a0 C O nm d → parseFieldDescriptor d = some ty → Fld Z h' b O nm d (defaultValue ty)) → OwnW p e below G (T'.setTop (mkF m pc' Ls (.ref b :: st)))) : OwnW p e below G (T.setTop (mkF m pc Ls st)) := by
  subst hp
  obtain ⟨T', h', X', e', E', A', D', -, st'⟩ := newO X hx hZ hown w wi wz eT (g := mkF m pc Ls st) rfl hd hc hl
  exact (K T' h' _ rfl X' e' E' A' D').go st'
theorem own_initO (X : Stand p l e R s m args below meth c T locs cells slots) (hx : p.tables.exec = Jvm.exec) (hZ : Z.Warmed39 s.vm) {own : String} {idx : Nat} (hown : s.vm.findClass own = some m.cls) (w1 : (Cond.methodLink own idx Lib.objectInit).before a0 Z = true) (w2 : (Cond.instanceMethod Lib.objectInit).before a0 Z = true)
    (w3 : (Cond.code Lib.objectInit ⟨#[0xb1]⟩ 1 none).before a0 Z = true) (eT : T.heap = h) (hsize : Ls.size = c.maxLocals) {a : Addr} (hd : decode c.code pc = .ok (.invokespecial idx, 3))
    (hf : 1 ≤ R.frames) (W : Nat) (hW : (st.map fun v => v.category).sum ≤ W) (hl : W + 12 ≤ R.locals) (pc' : Nat) (hp : pc + 3 = pc')
    (K : ∀ T', Stand p l e R s m args below meth c T' locs cells slots → T'.heap = h → OwnW p e below G (T'.setTop (mkF m pc' Ls st))) : OwnW p e below G (T.setTop (mkF m pc Ls (.ref a :: st))) := by
  subst hp
  obtain ⟨T', X', e', st'⟩ := initO X hx hZ hown w1 w2 w3 eT (g := mkF m pc Ls (.ref a :: st)) rfl hsize rfl hd hf (W := W) (by show 2 * 0 + _ ≤ _; omega) hl
  exact (K T' X' e').go st'
theorem own_callI {y : MethodName} {bytes : ByteArray} {maxL : Nat} {rm : Room} {Qc : Option Value → Heap → List Loc → Prop} {own : String} {index : Nat} {a : Addr} {argsL : List Value} {ps : List FieldType} {r : Option FieldType}
    (X : Stand p l e R s m args below meth c T locs cells slots) (hx : p.tables.exec = Jvm.exec) (hZ : Z.Warmed39 s.vm) (hown : s.vm.findClass own = some m.cls) (hy1 : y.name = "<init>") (wl : (Cond.methodLink own index y).before a0 Z = true) (wi : (Cond.instanceMethod y).before a0 Z = true)
    (wc : (Cond.code y bytes maxL none).before a0 Z = true) (wz : (Cond.initialized y.cls).before a0 Z = true) (hy : y.cls ≠ "java/lang/invoke/MethodHandle" ∧ y.cls ≠ "java/lang/invoke/VarHandle")
    (hM : MetFree l y (head1 [Cond.code y bytes maxL none] rm) (fun a' U => a' = (.ref a :: argsL).toArray ∧ Z.Warmed39 U.vm ∧ U.heap = h) (fun _ _ _ _ _ => True) (fun _ U o U' => ∃ v L, o = .returned v ∧ Qc v U'.heap L ∧ FrameEnd U o U' L rm.cells rm.slots))
    (eT : T.heap = h) (hd : decode c.code pc = .ok (.invokespecial index, 3)) (hpd : parseMethodDescriptor y.desc = some ⟨ps, r⟩) (hlen : argsL.length = ps.length) (hsz : Ls.size = c.maxLocals)
    {stk : List Value} (hst : stk = argsL.reverse ++ .ref a :: st) (W : Nat) (hW : (st.map fun v => v.category).sum ≤ W) (hf : rm.frames + 1 ≤ R.frames) (hl : W + (maxL + 11) + rm.locals ≤ R.locals) (hc : cells + rm.cells ≤ R.cells) (hs : slots + rm.slots ≤ R.slots) (pc' : Nat) (hp : pc + 3 = pc')
    (K : ∀ T' v L, Stand p l e R s m args below meth c T' (locs ++ L) (cells + rm.cells) (slots + rm.slots) → Qc v T'.heap L → OwnW p e below G (T'.setTop (mkF m pc' Ls (v.toList ++ st)))) : OwnW p e below G (T.setTop (mkF m pc Ls stk)) := by
  subst hp
  obtain ⟨v, _, ⟨T', L', k', n'⟩, -, X', ⟨Lc, hQ, q1, q2, q3⟩, st'⟩ := X.specialBack hx (y := y) hy1 hown (mvT hZ wl) (mvT hZ wi) (mvT hZ wc) hy (backOf (W := W) hM hZ wc wz hf hl) (g := mkF m pc Ls stk) rfl hsz (Steps.refl _) (a := a) (argsL := argsL) (rest := st) (lenOf hpd hlen) hst (by show 2 * 0 + _ ≤ _; omega) hd (fun _ _ => ⟨rfl, eT, hc, hs⟩)
  dsimp only [Pt.U, Pt.locs, Pt.cells, Pt.slots] at X' q1 q2 q3 st' hQ
  subst q1 q2 q3
  exact (K T' v Lc X' hQ).tr st'
theorem own_callIN {y : MethodName} {bytes : ByteArray} {maxL : Nat} {rm : Room} {Qc : Option Value → Heap → List Loc → Prop} {own host : String} {index : Nat} {a : Addr} {argsL : List Value} {ps : List FieldType} {r : Option FieldType}
    (X : Stand p l e R s m args below meth c T locs cells slots) (hx : p.tables.exec = Jvm.exec) (hZ : Z.Warmed39 s.vm) (hown : s.vm.findClass own = some m.cls) (hy1 : y.name = "<init>") (wl : (Cond.methodLinkNest own index y host).before a0 Z = true) (wi : (Cond.instanceMethod y).before a0 Z = true)
    (wc : (Cond.code y bytes maxL none).before a0 Z = true) (wz : (Cond.initialized y.cls).before a0 Z = true) (hy : y.cls ≠ "java/lang/invoke/MethodHandle" ∧ y.cls ≠ "java/lang/invoke/VarHandle")
    (hM : MetFree l y (head1 [Cond.code y bytes maxL none] rm) (fun a' U => a' = (.ref a :: argsL).toArray ∧ Z.Warmed39 U.vm ∧ U.heap = h) (fun _ _ _ _ _ => True) (fun _ U o U' => ∃ v L, o = .returned v ∧ Qc v U'.heap L ∧ FrameEnd U o U' L rm.cells rm.slots))
    (eT : T.heap = h) (hd : decode c.code pc = .ok (.invokespecial index, 3)) (hpd : parseMethodDescriptor y.desc = some ⟨ps, r⟩) (hlen : argsL.length = ps.length) (hsz : Ls.size = c.maxLocals)
    {stk : List Value} (hst : stk = argsL.reverse ++ .ref a :: st) (W : Nat) (hW : (st.map fun v => v.category).sum ≤ W) (hf : rm.frames + 1 ≤ R.frames) (hl : W + (maxL + 11) + rm.locals ≤ R.locals) (hc : cells + rm.cells ≤ R.cells) (hs : slots + rm.slots ≤ R.slots) (pc' : Nat) (hp : pc + 3 = pc')
    (K : ∀ T' v L, Stand p l e R s m args below meth c T' (locs ++ L) (cells + rm.cells) (slots + rm.slots) → Qc v T'.heap L → OwnW p e below G (T'.setTop (mkF m pc' Ls (v.toList ++ st)))) : OwnW p e below G (T.setTop (mkF m pc Ls stk)) := by
  subst hp
  obtain ⟨v, _, ⟨T', L', k', n'⟩, -, X', ⟨Lc, hQ, q1, q2, q3⟩, st'⟩ := X.specialBackNest hx (y := y) hy1 hown (Cond.methodLinkNest_wide hZ wl) (mvT hZ wi) (mvT hZ wc) hy (backOf (W := W) hM hZ wc wz hf hl) (g := mkF m pc Ls stk) rfl hsz (Steps.refl _) (a := a) (argsL := argsL) (rest := st) (lenOf hpd hlen) hst (by show 2 * 0 + _ ≤ _; omega) hd (fun _ _ => ⟨rfl, eT, hc, hs⟩)
  dsimp only [Pt.U, Pt.locs, Pt.cells, Pt.slots] at X' q1 q2 q3 st' hQ
  subst q1 q2 q3
  exact (K T' v Lc X' hQ).tr st'
theorem own_callV {y : MethodName} {bytes : ByteArray} {maxL : Nat} {ret : Option FieldType} {rm : Room} {Qc : Option Value → Heap → List Loc → Prop} {own C : String} {index : Nat} {a : Addr} {argsL : List Value} {ps : List FieldType} {r : Option FieldType}
    (X : Stand p l e R s m args below meth c T locs cells slots) (hx : p.tables.exec = Jvm.exec) (hZ : Z.Warmed39 s.vm) (hown : s.vm.findClass own = some m.cls) (wl : (Cond.methodLink own index y).before a0 Z = true) (wd : (Cond.declares y).before a0 Z = true) (ws : (Cond.selects C y y).before a0 Z = true) (wi : (Cond.instanceMethod y).before a0 Z = true)
    (wc : (Cond.code y bytes maxL ret).before a0 Z = true) (wz : (Cond.initialized y.cls).before a0 Z = true) (hy : y.cls ≠ "java/lang/invoke/MethodHandle" ∧ y.cls ≠ "java/lang/invoke/VarHandle") (E : Exa Z h a C)
    (hM : MetFree l y (head1 [Cond.code y bytes maxL ret] rm) (fun a' U => a' = (.ref a :: argsL).toArray ∧ Z.Warmed39 U.vm ∧ U.heap = h) (fun _ _ _ _ _ => True) (fun _ U o U' => ∃ v L, o = .returned v ∧ Qc v U'.heap L ∧ FrameEnd U o U' L rm.cells rm.slots))
    (eT : T.heap = h) (hd : decode c.code pc = .ok (.invokevirtual index, 3)) (hpd : parseMethodDescriptor y.desc = some ⟨ps, r⟩) (hlen : argsL.length = ps.length) (hsz : Ls.size = c.maxLocals)
    {stk : List Value} (hst : stk = argsL.reverse ++ .ref a :: st) (W : Nat) (hW : (st.map fun v => v.category).sum ≤ W) (hf : rm.frames + 1 ≤ R.frames) (hl : W + (maxL + 11) + rm.locals ≤ R.locals) (hc : cells + rm.cells ≤ R.cells) (hs : slots + rm.slots ≤ R.slots) (pc' : Nat) (hp : pc + 3 = pc')
    (K : ∀ T' v L, Stand p l e R s m args below meth c T' (locs ++ L) (cells + rm.cells) (slots + rm.slots) → Qc v T'.heap L → OwnW p e below G (T'.setTop (mkF m pc' Ls (v.toList ++ st)))) : OwnW p e below G (T.setTop (mkF m pc Ls stk)) := by
  subst hp
  obtain ⟨cq, kq, qa, qb, qc⟩ := isOf hZ eT E
  obtain ⟨v, _, ⟨T', L', k', n'⟩, -, X', ⟨Lc, hQ, q1, q2, q3⟩, st'⟩ := X.virtualBack hx (y := y) (z := y) hown (mvT hZ wl) (mvT hZ wd) (notFace_of_selects (args := #[]) (mvT hZ ws)) (mvT hZ ws) (mvT hZ wi) hy (backOf (W := W) hM hZ wc wz hf hl) qa qc (g := mkF m pc Ls stk) rfl hsz (Steps.refl _) (argsL := argsL) (rest := st) (lenOf hpd hlen) hst (by show 2 * 0 + _ ≤ _; omega) hd (fun _ _ => ⟨rfl, eT, hc, hs⟩)
  dsimp only [Pt.U, Pt.locs, Pt.cells, Pt.slots] at X' q1 q2 q3 st' hQ
  subst q1 q2 q3
  exact (K T' v Lc X' hQ).tr st'
theorem own_callS {y : MethodName} {bytes : ByteArray} {maxL : Nat} {ret : Option FieldType} {rm : Room} {Qc : Option Value → Heap → List Loc → Prop} {own : String} {index : Nat} {argsL : List Value} {ps : List FieldType} {r : Option FieldType}
    (X : Stand p l e R s m args below meth c T locs cells slots) (hx : p.tables.exec = Jvm.exec) (hZ : Z.Warmed39 s.vm) (hown : s.vm.findClass own = some m.cls) (wl : (Cond.methodLink own index y).before a0 Z = true) (wst : (Cond.static y).before a0 Z = true)
    (wc : (Cond.code y bytes maxL ret).before a0 Z = true) (wz : (Cond.initialized y.cls).before a0 Z = true) (hy : y.cls ≠ "java/lang/invoke/MethodHandle" ∧ y.cls ≠ "java/lang/invoke/VarHandle")
    (hM : MetFree l y (head1 [Cond.code y bytes maxL ret] rm) (fun a' U => a' = argsL.toArray ∧ Z.Warmed39 U.vm ∧ U.heap = h) (fun _ _ _ _ _ => True) (fun _ U o U' => ∃ v L, o = .returned v ∧ Qc v U'.heap L ∧ FrameEnd U o U' L rm.cells rm.slots))
    (eT : T.heap = h) (hd : decode c.code pc = .ok (.invokestatic index, 3)) (hpd : parseMethodDescriptor y.desc = some ⟨ps, r⟩) (hlen : argsL.length = ps.length) (hsz : Ls.size = c.maxLocals)
    {stk : List Value} (hst : stk = argsL.reverse ++ st) (W : Nat) (hW : (st.map fun v => v.category).sum ≤ W) (hf : rm.frames + 1 ≤ R.frames) (hl : W + (maxL + 11) + rm.locals ≤ R.locals) (hc : cells + rm.cells ≤ R.cells) (hs : slots + rm.slots ≤ R.slots) (pc' : Nat) (hp : pc + 3 = pc')
    (K : ∀ T' v L, Stand p l e R s m args below meth c T' (locs ++ L) (cells + rm.cells) (slots + rm.slots) → Qc v T'.heap L → OwnW p e below G (T'.setTop (mkF m pc' Ls (v.toList ++ st)))) : OwnW p e below G (T.setTop (mkF m pc Ls stk)) := by
  subst hp
  obtain ⟨v, _, ⟨T', L', k', n'⟩, -, X', ⟨Lc, hQ, q1, q2, q3⟩, st'⟩ := Jvm.LawKit.callS X hx (y := y) hown (mvT hZ wl) (mvT hZ wst) (mvT hZ wz) (mvT hZ wc) hy (backOf (W := W) hM hZ wc wz hf hl) (g := mkF m pc Ls stk) rfl hsz (argsL := argsL) (rest := st) (lenOf hpd hlen) hst (by show 2 * 0 + _ ≤ _; omega) hd (fun _ _ => ⟨rfl, eT, hc, hs⟩)
  dsimp only [Pt.U, Pt.locs, Pt.cells, Pt.slots] at X' q1 q2 q3 st' hQ
  subst q1 q2 q3
  exact (K T' v Lc X' hQ).go st'
theorem own_ret (X : Stand p l e R s m args below meth c T locs cells slots) (hx : p.tables.exec = Jvm.exec) (hlk : meth.locks = false) {w : Value} {t : FieldType} {i : Instr} (hret : meth.sig.returnType = some t) (hn : narrow t w = w)
    (hi : (i = .ireturn ∧ (t = .int ∨ t = .boolean ∨ t = .byte ∨ t = .char ∨ t = .short) ∧ ∃ z, w = .int z) ∨ (i = .lreturn ∧ t = .long ∧ ∃ z, w = .long z) ∨ (i = .dreturn ∧ t = .double ∧ ∃ z, w = .double z) ∨ (i = .freturn ∧ t = .float ∧ ∃ z, w = .float z) ∨ (i = .areturn ∧ t.isReference = true ∧ w.isRef = true))
    (hd : decode c.code pc = .ok (i, 1)) (hc : cells ≤ rc) (hs : slots ≤ rs) (hQ : Q (some w) T.heap locs) : OwnW p e below (OwnG s Q rc rs) (T.setTop (mkF m pc Ls (w :: st))) := by
  obtain ⟨fs, hr, hrun, hended, hW, hsame⟩ := X.leave (v := some w) (fun h => by rw [hret] at h; cases h) hlk
  exact ⟨_, _, retOut X hx hret hn hi hd hr, hrun, hended, _, _, rfl, hQ, ⟨_, rfl⟩, hW, hsame.mono hc hs⟩
theorem own_retI (X : Stand p l e R s m args below meth c T locs cells slots) (hx : p.tables.exec = Jvm.exec) (hlk : meth.locks = false) {z : Int32} (hret : meth.sig.returnType = some .int) (hd : decode c.code pc = .ok (.ireturn, 1)) (hc : cells ≤ rc) (hs : slots ≤ rs) (hQ : Q (some (.int z)) T.heap locs) : OwnW p e below (OwnG s Q rc rs) (T.setTop (mkF m pc Ls (.int z :: st))) :=
  own_ret X hx hlk hret rfl (Or.inl ⟨rfl, Or.inl rfl, z, rfl⟩) hd hc hs hQ
theorem own_retZ (X : Stand p l e R s m args below meth c T locs cells slots) (hx : p.tables.exec = Jvm.exec) (hlk : meth.locks = false) {z : Int32} (hret : meth.sig.returnType = some .boolean) (hz : z = 0 ∨ z = 1) (hd : decode c.code pc = .ok (.ireturn, 1)) (hc : cells ≤ rc) (hs : slots ≤ rs) (hQ : Q (some (.int z)) T.heap locs) : OwnW p e below (OwnG s Q rc rs) (T.setTop (mkF m pc Ls (.int z :: st))) :=
  own_ret X hx hlk hret (by rcases hz with rfl | rfl <;> rfl) (Or.inl ⟨rfl, Or.inr (Or.inl rfl), z, rfl⟩) hd hc hs hQ
theorem own_retJ (X : Stand p l e R s m args below meth c T locs cells slots) (hx : p.tables.exec = Jvm.exec) (hlk : meth.locks = false) {z : Int64} (hret : meth.sig.returnType = some .long) (hd : decode c.code pc = .ok (.lreturn, 1)) (hc : cells ≤ rc) (hs : slots ≤ rs) (hQ : Q (some (.long z)) T.heap locs) : OwnW p e below (OwnG s Q rc rs) (T.setTop (mkF m pc Ls (.long z :: st))) :=
  own_ret X hx hlk hret rfl (Or.inr (Or.inl ⟨rfl, rfl, z, rfl⟩)) hd hc hs hQ
theorem own_retA (X : Stand p l e R s m args below meth c T locs cells slots) (hx : p.tables.exec = Jvm.exec) (hlk : meth.locks = false) {w : Value} {t : FieldType} (hret : meth.sig.returnType = some t) (ht : t.isReference = true) (hw : w.isRef = true) (hn : narrow t w = w) (hd : decode c.code pc = .ok (.areturn, 1)) (hc : cells ≤ rc) (hs : slots ≤ rs) (hQ : Q (some w) T.heap locs) : OwnW p e below (OwnG s Q rc rs) (T.setTop (mkF m pc Ls (w :: st))) :=
  own_ret X hx hlk hret hn (Or.inr (Or.inr (Or.inr (Or.inr ⟨rfl, ht, hw⟩)))) hd hc hs hQ
theorem own_retV (X : Stand p l e R s m args below meth c T locs cells slots) (hx : p.tables.exec = Jvm.exec) (hlk : meth.locks = false) (hret : meth.sig.returnType = none) (hd : decode c.code pc = .ok (.return_, 1)) (hc : cells ≤ rc) (hs : slots ≤ rs) (hQ : Q none T.heap locs) : OwnW p e below (OwnG s Q rc rs) (T.setTop (mkF m pc Ls [])) := by
  obtain ⟨fs, hr, hrun, hended, hW, hsame⟩ := X.leave (v := none) (fun _ => rfl) hlk
  exact ⟨_, _, X.returnOut hx hret hd hr, hrun, hended, _, _, rfl, hQ, ⟨_, rfl⟩, hW, hsame.mono hc hs⟩
/-- a cell that is no class's statics -/
def OwnP (h : Heap) (x : Addr) : Prop := ∃ cell : Cell, h[x]? = some cell ∧ cell.vm.isStatics = false
theorem own_pE {a : Addr} {C : String} (E : Exa Z h a C) : OwnP h a := by obtain ⟨cell, k, h1, -, -, h4, -⟩ := E; exact ⟨cell, h1, h4⟩
theorem own_pV {a : Addr} {k : ClassId} {ty : FieldType} {n : Int32} {vs : List Value} {dv : Value} (F : Arv Z h a k ty n vs dv) : OwnP h a := by obtain ⟨cl, A, -⟩ := F; exact ⟨cl, A.1, A.plain⟩
theorem own_sta_keep {h' : Heap} {C n d : String} {v : Value} {ws : List Addr} (F : Sta Z h C n d v) (K : Keep h h' ws) (q : ∀ x ∈ ws, OwnP h x) : Sta Z h' C n d v := by
  obtain ⟨cf, i, k, f, st, cell, h1, h2, h3, h4, h5, h6, h7⟩ := F
  refine ⟨cf, i, k, f, st, cell, h1, h2, h3, h4, K.2.1 st cell h5 (fun z => ?_), h6, h7⟩
  obtain ⟨cell', e1, e2⟩ := q st z
  cases h5.symm.trans e1
  rw [h6] at e2; cases e2
theorem own_feq {t : Term} {C n d : String} {k : Int32} {a : Addr} (ht : t.eval args s none [] s = some (.ref a)) (hc : (Jvm.Cond.eq (Jvm.Term.field t C n d) (Jvm.Term.int k)).value args s none s [] = some true) : Fld s s.heap a C n d (.int k) := by
  refine Fld.start ?_
  have e := fld_at (args := args) (first := s) (o := none) (idx := []) (C := C) (n := n) (dd := d) ht
  rw [← e]
  obtain ⟨x, y, hx, hy, -, -⟩ := cmp_v (Or.inl hc)
  have hy' : y = .int k := Option.some.inj (hy.symm.trans rfl)
  subst hy'
  have h2 := hc
  simp only [Cond.value, hx, hy] at h2
  cases x with
  | int z => simp only [Option.some.injEq, decide_eq_true_eq] at h2; rw [hx, h2]
  | _ => simp at h2
theorem own_newP (X : Stand p l e R s m args below meth c T locs cells slots) (hx : p.tables.exec = Jvm.exec) (hZ : Z.Warmed39 s.vm) {aty : ArrayType} (w : (Cond.arrayClass (newarray.typeOf aty)).before a0 Z = true) (eT : T.heap = h) (hd : decode c.code pc = .ok (.newarray aty, 2)) {n : Int32}
    (hn : ¬ n < 0) (cap : Nat) (hcap : n.toNatClampNeg ≤ cap) (hb : cap * 8 ≤ 536870912) (hc : cells + 1 ≤ R.cells) (hl : slots + cap ≤ R.slots) (pc' : Nat) (hp : pc + 2 = pc')
    (K : ∀ T' h' b cA, b = h.size → Stand p l e R s m args below meth c T' locs (cells + 1) (slots + cap) → T'.heap = h' → Ext h h' → Arr Z h' b (newA cA (newarray.typeOf aty) n) (newarray.typeOf aty) → OwnW p e below G (T'.setTop (mkF m pc' Ls (.ref b :: st)))) : OwnW p e below G (T.setTop (mkF m pc Ls (.int n :: st))) := by
  subst hp
  obtain ⟨T', h', cA, X', e', E', A', st'⟩ := newP X hx hZ w eT (g := mkF m pc Ls (.int n :: st)) rfl hd rfl hn hcap hb hc hl
  exact (K T' h' _ cA rfl X' e' E' A').go st'
theorem own_stZ (X : Stand p l e R s m args below meth c T locs cells slots) (hx : p.tables.exec = Jvm.exec) (hZ : Z.Warmed39 s.vm) (eT : T.heap = h) {a : Addr} {cl : Cell} (A : Arr Z h a cl .boolean) {j x : Int32} (hj : ¬ (j < 0 ∨ cl.slots.size ≤ j.toNatClampNeg)) (hd : decode c.code pc = .ok (.bastore, 1)) (pc' : Nat) (hp : pc + 1 = pc')
    (K : ∀ T' h', Stand p l e R s m args below meth c T' (locs ++ [⟨a, j.toNatClampNeg⟩]) cells slots → T'.heap = h' → Wr h h' a j.toNatClampNeg (.int (nar .boolean x)) → OwnW p e below G (T'.setTop (mkF m pc' Ls st))) : OwnW p e below G (T.setTop (mkF m pc Ls (.int x :: .int j :: .ref a :: st))) := by
  subst hp
  obtain ⟨T', h', X', e', W', st'⟩ := stZ X hx hZ eT A hj (g := mkF m pc Ls (.int x :: .int j :: .ref a :: st)) rfl rfl hd
  exact (K T' h' X' e' W').go st'
theorem own_stJ (X : Stand p l e R s m args below meth c T locs cells slots) (hx : p.tables.exec = Jvm.exec) (hZ : Z.Warmed39 s.vm) (eT : T.heap = h) {a : Addr} {cl : Cell} (A : Arr Z h a cl .long) {j : Int32} {x : Int64} (hj : ¬ (j < 0 ∨ cl.slots.size ≤ j.toNatClampNeg)) (hd : decode c.code pc = .ok (.lastore, 1)) (pc' : Nat) (hp : pc + 1 = pc')
    (K : ∀ T' h', Stand p l e R s m args below meth c T' (locs ++ [⟨a, j.toNatClampNeg⟩]) cells slots → T'.heap = h' → Wr h h' a j.toNatClampNeg (.long x) → OwnW p e below G (T'.setTop (mkF m pc' Ls st))) : OwnW p e below G (T.setTop (mkF m pc Ls (.long x :: .int j :: .ref a :: st))) := by
  subst hp
  obtain ⟨T', h', X', e', W', st'⟩ := stJ X hx hZ eT A hj (g := mkF m pc Ls (.long x :: .int j :: .ref a :: st)) rfl rfl hd
  exact (K T' h' X' e' W').go st'
theorem own_stI (X : Stand p l e R s m args below meth c T locs cells slots) (hx : p.tables.exec = Jvm.exec) (hZ : Z.Warmed39 s.vm) (eT : T.heap = h) {a : Addr} {cl : Cell} (A : Arr Z h a cl .int) {j x : Int32} (hj : ¬ (j < 0 ∨ cl.slots.size ≤ j.toNatClampNeg)) (hd : decode c.code pc = .ok (.iastore, 1)) (pc' : Nat) (hp : pc + 1 = pc')
    (K : ∀ T' h', Stand p l e R s m args below meth c T' (locs ++ [⟨a, j.toNatClampNeg⟩]) cells slots → T'.heap = h' → Wr h h' a j.toNatClampNeg (.int x) → OwnW p e below G (T'.setTop (mkF m pc' Ls st))) : OwnW p e below G (T.setTop (mkF m pc Ls (.int x :: .int j :: .ref a :: st))) := by
  subst hp
  obtain ⟨T', h', X', e', W', st'⟩ := stI X hx hZ eT A hj (g := mkF m pc Ls (.int x :: .int j :: .ref a :: st)) rfl rfl hd
  exact (K T' h' X' e' W').go st'
theorem own_ldZ (X : Stand p l e R s m args below meth c T locs cells slots) (hx : p.tables.exec = Jvm.exec) (hZ : Z.Warmed39 s.vm) (eT : T.heap = h) {a : Addr} {k : ClassId} {n : Int32} {vs : List Value} {dv : Value} (F : Arv Z h a k .boolean n vs dv) {j : Int32} (hj : ¬ j < 0 ∧ j < n) (v : Value) (hv : vs.getD j.toNatClampNeg dv = v) (hd : decode c.code pc = .ok (.baload, 1)) (pc' : Nat) (hp : pc + 1 = pc')
    (K : OwnW p e below G (T.setTop (mkF m pc' Ls (v :: st)))) : OwnW p e below G (T.setTop (mkF m pc Ls (.int j :: .ref a :: st))) := by
  subst hp
  obtain ⟨cl, A, -, S, -, H, -⟩ := F
  have hin := inb_of S hj
  exact K.go (X.baloadBooleans hx (j := j) (v := v) (by rw [eT]; exact A.1) (State.isArrayOf_alike hZ.alike A.2.1) A.2.2 hin (H.at hin hv) (g := mkF m pc Ls (.int j :: .ref a :: st)) rfl rfl hd)
theorem own_ldJ (X : Stand p l e R s m args below meth c T locs cells slots) (hx : p.tables.exec = Jvm.exec) (hZ : Z.Warmed39 s.vm) (eT : T.heap = h) {a : Addr} {k : ClassId} {n : Int32} {vs : List Value} {dv : Value} (F : Arv Z h a k .long n vs dv) {j : Int32} (hj : ¬ j < 0 ∧ j < n) (v : Value) (hv : vs.getD j.toNatClampNeg dv = v) (hd : decode c.code pc = .ok (.laload, 1)) (pc' : Nat) (hp : pc + 1 = pc')
    (K : OwnW p e below G (T.setTop (mkF m pc' Ls (v :: st)))) : OwnW p e below G (T.setTop (mkF m pc Ls (.int j :: .ref a :: st))) := by
  subst hp
  obtain ⟨cl, A, -, S, -, H, -⟩ := F
  have hin := inb_of S hj
  exact K.go (X.laload hx (j := j) (v := v) (by rw [eT]; exact A.1) (State.isArrayOf_alike hZ.alike A.2.1) A.2.2 hin (H.at hin hv) (g := mkF m pc Ls (.int j :: .ref a :: st)) rfl rfl hd)
theorem own_len (X : Stand p l e R s m args below meth c T locs cells slots) (hx : p.tables.exec = Jvm.exec) (hZ : Z.Warmed39 s.vm) (eT : T.heap = h) {a : Addr} {k : ClassId} {ty : FieldType} {n : Int32} {vs : List Value} {dv : Value} (F : Arv Z h a k ty n vs dv) (hd : decode c.code pc = .ok (.arraylength, 1)) (pc' : Nat) (hp : pc + 1 = pc')
    (K : OwnW p e below G (T.setTop (mkF m pc' Ls (.int n :: st)))) : OwnW p e below G (T.setTop (mkF m pc Ls (.ref a :: st))) := by
  subst hp
  obtain ⟨cl, A, -, S, N, -, -⟩ := F
  rw [← len_of S N] at K
  exact K.go (X.arraylength hx (by rw [eT]; exact A.1) (State.isArrayOf_alike hZ.alike A.2.1) (g := mkF m pc Ls (.ref a :: st)) rfl rfl hd)
theorem own_instNull (X : Stand p l e R s m args below meth c T locs cells slots) (hx : p.tables.exec = Jvm.exec) {index : Nat} (hd : decode c.code pc = .ok (.instanceof index, 3)) (pc' : Nat) (hp : pc + 3 = pc')
    (K : OwnW p e below G (T.setTop (mkF m pc' Ls (.int (0 : Int32) :: st)))) : OwnW p e below G (T.setTop (mkF m pc Ls (.null :: st))) := by
  subst hp; exact K.go (X.instanceofNull hx (g := mkF m pc Ls (.null :: st)) rfl rfl hd)
theorem own_instNo (X : Stand p l e R s m args below meth c T locs cells slots) (hx : p.tables.exec = Jvm.exec) (hZ : Z.Warmed39 s.vm) {own C D : String} {index : Nat} (hown : s.vm.findClass own = some m.cls) (w : (Cond.classLink own index C).before a0 Z = true) (eT : T.heap = h) {a : Addr} (E : Exa Z h a D) (F : ∃ c t, Z.vm.findClass D = some c ∧ Z.vm.findClass C = some t ∧ Z.vm.assignable c t = false) (hd : decode c.code pc = .ok (.instanceof index, 3)) (pc' : Nat) (hp : pc + 3 = pc')
    (K : ∀ T', Stand p l e R s m args below meth c T' locs cells slots → T'.heap = h → OwnW p e below G (T'.setTop (mkF m pc' Ls (.int (0 : Int32) :: st)))) : OwnW p e below G (T.setTop (mkF m pc Ls (.ref a :: st))) := by
  subst hp
  obtain ⟨T', X', e', st'⟩ := instNo X hx hZ hown w eT E F (g := mkF m pc Ls (.ref a :: st)) rfl rfl hd
  exact (K T' X' e').go st'
theorem own_ldA (X : Stand p l e R s m args below meth c T locs cells slots) (hx : p.tables.exec = Jvm.exec) (hZ : Z.Warmed39 s.vm) (eT : T.heap = h) {a : Addr} {cl : Cell} {ty : FieldType} (A : Arr Z h a cl ty) (hty : ty.isReference = true) {j : Int32} (hin : ¬ (j < 0 ∨ cl.slots.size ≤ j.toNatClampNeg)) {v : Value} (hv : cl.slots[j.toNatClampNeg]? = some v) (hd : decode c.code pc = .ok (.aaload, 1)) (pc' : Nat) (hp : pc + 1 = pc')
    (K : OwnW p e below G (T.setTop (mkF m pc' Ls (v :: st)))) : OwnW p e below G (T.setTop (mkF m pc Ls (.int j :: .ref a :: st))) := by
  subst hp
  exact K.go (X.aaload hx (j := j) (v := v) (by rw [eT]; exact A.1) (State.isArrayOf_alike hZ.alike A.2.1) hty A.2.2 hin hv (g := mkF m pc Ls (.int j :: .ref a :: st)) rfl rfl hd)
theorem own_cp (X : Stand p l e R s m args below meth c T locs cells slots) (hx : p.tables.exec = Jvm.exec) (hZ : Z.Warmed39 s.vm) {own : String} {index : Nat} (hown : s.vm.findClass own = some m.cls)
    (w1 : (Cond.methodLink own index Jvm.Stand.acN).before a0 Z = true) (w2 : (Cond.native Jvm.Stand.acN).before a0 Z = true) (w3 : (Cond.static Jvm.Stand.acN).before a0 Z = true) (w4 : (Cond.initialized "java/lang/System").before a0 Z = true) (eT : T.heap = h)
    {a b : Addr} {k k' : ClassId} {ty : FieldType} {z z' sp dp nn : Int32} {vs vd : List Value} {dv dd : Value} (A : Arv Z h a k ty z vs dv) (B : Arv Z h b k' ty z' vd dd) (hty : refKind ty = false)
    (h1 : ¬ sp < 0) (h2 : ¬ dp < 0) (h3 : ¬ nn < 0) (h4 : sp.toNatClampNeg + nn.toNatClampNeg ≤ z.toNatClampNeg) (h5 : dp.toNatClampNeg + nn.toNatClampNeg ≤ z'.toNatClampNeg)
    (us : List Value) (hus : us = (List.range nn.toNatClampNeg).map fun i => vs.getD (sp.toNatClampNeg + i) dv) (hl : dp.toNatClampNeg + nn.toNatClampNeg ≤ vd.length) {n0 : Nat} (N : Fr n0 locs) (ge : n0 ≤ b)
    (hsize : Ls.size = c.maxLocals) (hd : decode c.code pc = .ok (.invokestatic index, 3)) (hf : 1 ≤ R.frames) (W : Nat) (hW : (st.map fun v => v.category).sum ≤ W) (hlo : W + (nativeFrameWords "java/lang/System" "arraycopy" 5 + 11) ≤ R.locals) (pc' : Nat) (hp : pc + 3 = pc')
    (K : ∀ T' h' L, Stand p l e R s m args below meth c T' L cells slots → T'.heap = h' → Fr n0 L → Keep h h' [b] → Arv Z h' b k' ty z' (vd.take dp.toNatClampNeg ++ us ++ vd.drop (dp.toNatClampNeg + nn.toNatClampNeg)) dd → OwnW p e below G (T'.setTop (mkF m pc' Ls st))) :
    OwnW p e below G (T.setTop (mkF m pc Ls (.int nn :: .int dp :: .ref b :: .int sp :: .ref a :: st))) := by
  subst hp
  obtain ⟨T', h', L', X', e', N', K', V', st'⟩ := cpA X hx hZ hown w1 w2 w3 w4 eT A B (Or.inl ⟨rfl, hty⟩) h1 h2 h3 h4 h5 hus hl N ge (g := mkF m pc Ls (.int nn :: .int dp :: .ref b :: .int sp :: .ref a :: st)) rfl hsize rfl hd hf (W := W) (by show 2 * 0 + _ ≤ _; omega) hlo
  exact (K T' h' L' X' e' N' K' V').go st'
theorem own_nar01 (x : Int32) : nar .boolean x = 0 ∨ nar .boolean x = 1 := and_one x
theorem own_nar {x : Int32} (h : x = 0 ∨ x = 1) : nar .boolean x = x := by rcases h with rfl | rfl <;> rfl
theorem own_newR (X : Stand p l e R s m args below meth c T locs cells slots) (hx : p.tables.exec = Jvm.exec) (hZ : Z.Warmed39 s.vm) {own C : String} {index : Nat} (hown : s.vm.findClass own = some m.cls) (w1 : (Cond.classLink own index C).before a0 Z = true) (w2 : (Cond.arrayOver (.object C)).before a0 Z = true) (eT : T.heap = h) (hd : decode c.code pc = .ok (.anewarray index, 3)) {n : Int32}
    (hn : ¬ n < 0) (cap : Nat) (hcap : n.toNatClampNeg ≤ cap) (hb : cap * 8 ≤ 536870912) (hc : cells + 1 ≤ R.cells) (hl : slots + cap ≤ R.slots) (pc' : Nat) (hp : pc + 3 = pc')
    (K : ∀ T' h' b cA, b = h.size → Stand p l e R s m args below meth c T' locs (cells + 1) (slots + cap) → T'.heap = h' → Ext h h' → Arr Z h' b (newA cA (.object C) n) (.object C) → Ovr Z cA C → OwnW p e below G (T'.setTop (mkF m pc' Ls (.ref b :: st)))) : OwnW p e below G (T.setTop (mkF m pc Ls (.int n :: st))) := by
  subst hp
  obtain ⟨T', h', cA, X', e', E', A', O', st'⟩ := newR X hx hZ hown w1 w2 eT (g := mkF m pc Ls (.int n :: st)) rfl hd rfl hn hcap hb hc hl
  exact (K T' h' _ cA rfl X' e' E' A' O').go st'
theorem own_stR (X : Stand p l e R s m args below meth c T locs cells slots) (hx : p.tables.exec = Jvm.exec) (hZ : Z.Warmed39 s.vm) (eT : T.heap = h) {a : Addr} {cl : Cell} {ty : FieldType} (A : Arr Z h a cl ty) {j : Int32} {v : Value} (hj : ¬ (j < 0 ∨ cl.slots.size ≤ j.toNatClampNeg)) (hty : ty.isReference = true) (F : Sto Z h a v) (hd : decode c.code pc = .ok (.aastore, 1)) (pc' : Nat) (hp : pc + 1 = pc')
    (K : ∀ T' h', Stand p l e R s m args below meth c T' (locs ++ [⟨a, j.toNatClampNeg⟩]) cells slots → T'.heap = h' → Wr h h' a j.toNatClampNeg v → OwnW p e below G (T'.setTop (mkF m pc' Ls st))) : OwnW p e below G (T.setTop (mkF m pc Ls (v :: .int j :: .ref a :: st))) := by
  subst hp
  obtain ⟨T', h', X', e', W', st'⟩ := stR X hx hZ eT A hj hty F (g := mkF m pc Ls (v :: .int j :: .ref a :: st)) rfl rfl hd
  exact (K T' h' X' e' W').go st'
/-- the end of a walk that loaded a String constant -/
def OwnGW (s : State) (Q : Option Value → Heap → List Loc → Prop) (rc rs : Nat) (o : Outcome) (t : State) : Prop := ∃ v L, o = .returned v ∧ Q v t.heap L ∧ ReturnedEndW s o t L rc rs
theorem own_ldcS (X : Stand p l e R s m args below meth c T locs cells slots) (hx : p.tables.exec = Jvm.exec) (hZ : Z.Warmed39 s.vm) {own text : String} {index : Nat} (hown : s.vm.findClass own = some m.cls) (w : (Cond.stringLink own index text).before a0 Z = true) (wS : ∀ a ∈ Bundle.stringAtoms, a.before a0 Z = true) (eT : T.heap = h)
    (hd : decode c.code pc = .ok (.ldc index, 2)) (n : Nat) (hn : 4 * text.toList.length ≤ n) (hbig : n ≤ 536870912) (hc : cells + 2 ≤ R.cells) (hl : slots + (n + 4) ≤ R.slots) (pc' : Nat) (hp : pc + 2 = pc')
    (K : ∀ s' a T' h' k1, Stand p l e R s' m args below meth c T' locs (cells + 2) (slots + (n + 4)) → T'.heap = h' → Ext h h' → k1 ≤ h'.size → Z.Warmed39 s'.vm → s'.vm.findClass own = some m.cls → OwnW p e below (OwnG s' (fun v hh L => Q v hh L ∧ k1 ≤ hh.size) rc rs) (T'.setTop (mkF m pc' Ls (.ref a :: st)))) : OwnW p e below (OwnGW s Q rc rs) (T.setTop (mkF m pc Ls st)) := by
  subst hp
  obtain ⟨a, T', h', k1, X', e', E', hS, hk, hZ', hown', st'⟩ := ldcS (s := s) (vm0 := s.vm) X hx hZ hown w wS eT ((State.WarmedH.refl s).since h.size) (Nat.le_refl _) (g := mkF m pc Ls st) rfl hd hn hbig hc hl
  obtain ⟨s₂, o, h1, h2, h3, v, L, rfl, ⟨hq, hsz⟩, hF⟩ := K (s.setVm T'.vm) a T' h' k1 X' e' E' hk hZ' hown'
  obtain ⟨a1, b1, c1⟩ := hS.ended (U := s₂) hF.2.1 hsz hF.2.2
  exact ⟨s₂, _, st' _ h1, h2, h3, v, L, rfl, hq, ⟨v, rfl⟩, a1, b1, c1⟩
end Own
theorem pd___JJ_V : parseMethodDescriptor "([JJ)V" = some ⟨[(.array .long), .long], none⟩ := by decide +kernel
theorem pd___Ljava_lang_Object_Ljava_lang_Object__V : parseMethodDescriptor "([Ljava/lang/Object;Ljava/lang/Object;)V" = some ⟨[(.array (.object "java/lang/Object")), (.object "java/lang/Object")], none⟩ := by decide +kernel
theorem pd___V : parseMethodDescriptor "()V" = some ⟨[], none⟩ := by decide +kernel
theorem pd___I : parseMethodDescriptor "()I" = some ⟨[], some .int⟩ := by decide +kernel
theorem pd__I_V : parseMethodDescriptor "(I)V" = some ⟨[.int], none⟩ := by decide +kernel
theorem pd__IJ_J : parseMethodDescriptor "(IJ)J" = some ⟨[.int, .long], some .long⟩ := by decide +kernel
theorem pd__ILjava_lang_String_I_V : parseMethodDescriptor "(ILjava/lang/String;I)V" = some ⟨[.int, (.object "java/lang/String"), .int], none⟩ := by decide +kernel
theorem pd__Lcom_example_holdfast_holdfast_Machine_JJI_V : parseMethodDescriptor "(Lcom/example/holdfast/holdfast/Machine;JJI)V" = some ⟨[(.object "com/example/holdfast/holdfast/Machine"), .long, .long, .int], none⟩ := by decide +kernel
theorem d3_0 : decode jdk_65_method_101_code 0 = .ok (.iconst 0, 1) := by decide +kernel
theorem d3_1 : decode jdk_65_method_101_code 1 = .ok (.istore_n 3, 1) := by decide +kernel
theorem d3_2 : decode jdk_65_method_101_code 2 = .ok (.aload_n 0, 1) := by decide +kernel
theorem d3_3 : decode jdk_65_method_101_code 3 = .ok (.arraylength, 1) := by decide +kernel
theorem d3_4 : decode jdk_65_method_101_code 4 = .ok (.istore 4, 2) := by decide +kernel
theorem d3_6 : decode jdk_65_method_101_code 6 = .ok (.iload_n 3, 1) := by decide +kernel
theorem d3_7 : decode jdk_65_method_101_code 7 = .ok (.iload 4, 2) := by decide +kernel
theorem d3_9 : decode jdk_65_method_101_code 9 = .ok (.if_icmp .ge 13, 3) := by decide +kernel
theorem d3_12 : decode jdk_65_method_101_code 12 = .ok (.aload_n 0, 1) := by decide +kernel
theorem d3_13 : decode jdk_65_method_101_code 13 = .ok (.iload_n 3, 1) := by decide +kernel
theorem d3_14 : decode jdk_65_method_101_code 14 = .ok (.lload_n 1, 1) := by decide +kernel
theorem d3_15 : decode jdk_65_method_101_code 15 = .ok (.lastore, 1) := by decide +kernel
theorem d3_16 : decode jdk_65_method_101_code 16 = .ok (.iinc 3 1, 3) := by decide +kernel
theorem d3_19 : decode jdk_65_method_101_code 19 = .ok (.goto (-13), 3) := by decide +kernel
theorem d3_22 : decode jdk_65_method_101_code 22 = .ok (.return_, 1) := by decide +kernel
theorem pn_rm3 : plainName "java/util/Arrays" = true := by first | (simp [plainName, overriddenIn]; done) | decide +kernel
theorem ef_rm3 (m : MethodId) (x0 : Addr) (x1 : Int64) : entryFrame m #[(.ref x0), (.long x1)] 5 = mkF m 0 #[.val (.ref x0), .val (.long x1), .second, .unset, .unset] [] := by first | (simp [entryFrame, mkF, argsToLocals, Value.category]; done) | rfl
def Q3 (Z : State) (a1 : Addr) (q2 : Int64) (ka : ClassId) (z0 : Int64) (z1 : Int64) (z2 : Int64) (h0 : Heap) (n0 : Nat) (v : Option Value) (h : Heap) (L : List Loc) : Prop := v = none ∧ Fr n0 L ∧ Keep h0 h [a1] ∧ Arv Z h a1 ka .long (3 : Int32) [(.long q2), (.long q2), (.long q2)] (.long (0 : Int64))
set_option maxRecDepth 65536 in
set_option maxHeartbeats 40000000 in
theorem rm3 (l : Launch) (Z : State) (a0 : Array Value) (hw : ∀ d ∈ tables_1, d.before a0 Z = true) (ws : List Jvm.Cond) (a1 : Addr) (q2 : Int64) (ka : ClassId) (z0 : Int64) (z1 : Int64) (z2 : Int64) (h0 : Heap) (n0 : Nat) (Z0 : n0 ≤ h0.size) (V_a1 : Arv Z h0 a1 ka .long (3 : Int32) [(.long z0), (.long z1), (.long z2)] (.long (0 : Int64))) (g_a1 : n0 ≤ a1) :
    MetFree l (⟨"java/util/Arrays", "fill", "([JJ)V"⟩ : MethodName) (head1 (Jvm.Cond.code (⟨"java/util/Arrays", "fill", "([JJ)V"⟩ : MethodName) jdk_65_method_101_code 5 none :: ws) ({ frames := 0, cells := 0, slots := 0, locals := 0 } : Room)) (fun a U => a = #[(.ref a1), (.long q2)] ∧ Z.Warmed39 U.vm ∧ U.heap = h0) (fun _ _ _ _ _ => True) (fun _ U o U' => ∃ v L, o = .returned v ∧ Q3 Z a1 q2 ka z0 z1 z2 h0 n0 v U'.heap L ∧ FrameEnd U o U' L ({ frames := 0, cells := 0, slots := 0, locals := 0 } : Room).cells ({ frames := 0, cells := 0, slots := 0, locals := 0 } : Room).slots) := by
  refine MetFree.of_bodySF (plainFor_of_name pn_rm3) hisR ?_
  intro p e s m args below meth c s₁ Bd hml0 hP hK
  obtain ⟨rfl, hZ, hh⟩ := hP
  have hx := Bd.exec
  have hby := Bd.bytes
  have hlk : meth.locks = false := BodyLoose.notSynchronized Bd
  have hml : c.maxLocals = 5 := hml0
  have hown : s.vm.findClass "java/util/Arrays" = some m.cls := findClass_of_methodNamed Bd.named
  have hnm := (name_of_methodNamed Bd.named Bd.method).1
  have X0 : Stand p l e ({ frames := 0, cells := 0, slots := 0, locals := 0 } : Room) s m #[(.ref a1), (.long q2)] below meth c s₁ [] 0 0 := Stand.of_body Bd
  have e0 : s₁.heap = h0 := by rw [← hh, Bd.state]; rfl
  have N0 := Fr.nil n0
  show OwnW p e below (OwnG s (Q3 Z a1 q2 ka z0 z1 z2 h0 n0) ({ frames := 0, cells := 0, slots := 0, locals := 0 } : Room).cells ({ frames := 0, cells := 0, slots := 0, locals := 0 } : Room).slots) (s₁.setTop (entryFrame m #[(.ref a1), (.long q2)] 5))
  rw [ef_rm3]
  refine own_iconst X0 hx (hb hby d3_0) (0 : Int32) rfl 1 rfl ?_
  refine own_istoreN X0 hx (hb hby d3_1) #[.val (.ref a1), .val (.long q2), .second, .val (.int (0 : Int32)), .unset] rfl 2 rfl ?_
  refine own_aloadN X0 hx (hb hby d3_2) rfl rfl 3 rfl ?_
  refine own_len X0 hx hZ e0 V_a1 (hb hby d3_3) 4 rfl ?_
  refine own_istore X0 hx (hb hby d3_4) #[.val (.ref a1), .val (.long q2), .second, .val (.int (0 : Int32)), .val (.int (3 : Int32))] rfl 6 rfl ?_
  refine own_iloadN X0 hx (hb hby d3_6) rfl 7 rfl ?_
  refine own_iload X0 hx (hb hby d3_7) rfl 9 rfl ?_
  refine own_icmpN X0 hx (hb hby d3_9) (tlt (by decide : (0 : Int32) < (3 : Int32))).2.1 12 (by decide) ?_
  refine own_aloadN X0 hx (hb hby d3_12) rfl rfl 13 rfl ?_
  refine own_iloadN X0 hx (hb hby d3_13) rfl 14 rfl ?_
  refine own_lloadN X0 hx (hb hby d3_14) rfl 15 rfl ?_
  obtain ⟨cl1, Ar1, qk1, Sz1, Nz1, Hz1, Gz1⟩ := V_a1
  refine own_stJ X0 hx hZ e0 Ar1 (j := (0 : Int32)) (inb_of Sz1 ⟨by decide, by decide⟩) (hb hby d3_15) 16 rfl ?_
  intro T1 h1 X1 e1 W1
  have V1 : Arv Z h1 a1 ka .long (3 : Int32) [(.long q2), (.long z1), (.long z2)] (.long (0 : Int64)) := Arv.set Ar1 qk1 Sz1 Nz1 Hz1 Gz1 rfl W1 0 rfl (Nat.le_of_ble_eq_true rfl)
  have N1 := Fr.snoc X1 N0 g_a1
  refine own_iinc X1 hx (hb hby d3_16) rfl #[.val (.ref a1), .val (.long q2), .second, .val (.int (1 : Int32)), .val (.int (3 : Int32))] rfl 19 rfl ?_
  refine own_goto X1 hx (hb hby d3_19) 6 (by decide) ?_
  refine own_iloadN X1 hx (hb hby d3_6) rfl 7 rfl ?_
  refine own_iload X1 hx (hb hby d3_7) rfl 9 rfl ?_
  refine own_icmpN X1 hx (hb hby d3_9) (tlt (by decide : (1 : Int32) < (3 : Int32))).2.1 12 (by decide) ?_
  refine own_aloadN X1 hx (hb hby d3_12) rfl rfl 13 rfl ?_
  refine own_iloadN X1 hx (hb hby d3_13) rfl 14 rfl ?_
  refine own_lloadN X1 hx (hb hby d3_14) rfl 15 rfl ?_
  obtain ⟨cl2, Ar2, qk2, Sz2, Nz2, Hz2, Gz2⟩ := V1
  refine own_stJ X1 hx hZ e1 Ar2 (j := (1 : Int32)) (inb_of Sz2 ⟨by decide, by decide⟩) (hb hby d3_15) 16 rfl ?_
  intro T2 h2 X2 e2 W2
  have V2 : Arv Z h2 a1 ka .long (3 : Int32) [(.long q2), (.long q2), (.long z2)] (.long (0 : Int64)) := Arv.set Ar2 qk2 Sz2 Nz2 Hz2 Gz2 rfl W2 1 rfl (Nat.le_of_ble_eq_true rfl)
  have N2 := Fr.snoc X2 N1 g_a1
  refine own_iinc X2 hx (hb hby d3_16) rfl #[.val (.ref a1), .val (.long q2), .second, .val (.int (2 : Int32)), .val (.int (3 : Int32))] rfl 19 rfl ?_
  refine own_goto X2 hx (hb hby d3_19) 6 (by decide) ?_
  refine own_iloadN X2 hx (hb hby d3_6) rfl 7 rfl ?_
  refine own_iload X2 hx (hb hby d3_7) rfl 9 rfl ?_
  refine own_icmpN X2 hx (hb hby d3_9) (tlt (by decide : (2 : Int32) < (3 : Int32))).2.1 12 (by decide) ?_
  refine own_aloadN X2 hx (hb hby d3_12) rfl rfl 13 rfl ?_
  refine own_iloadN X2 hx (hb hby d3_13) rfl 14 rfl ?_
  refine own_lloadN X2 hx (hb hby d3_14) rfl 15 rfl ?_
  obtain ⟨cl3, Ar3, qk3, Sz3, Nz3, Hz3, Gz3⟩ := V2
  refine own_stJ X2 hx hZ e2 Ar3 (j := (2 : Int32)) (inb_of Sz3 ⟨by decide, by decide⟩) (hb hby d3_15) 16 rfl ?_
  intro T3 h3 X3 e3 W3
  have V3 : Arv Z h3 a1 ka .long (3 : Int32) [(.long q2), (.long q2), (.long q2)] (.long (0 : Int64)) := Arv.set Ar3 qk3 Sz3 Nz3 Hz3 Gz3 rfl W3 2 rfl (Nat.le_of_ble_eq_true rfl)
  have N3 := Fr.snoc X3 N2 g_a1
  refine own_iinc X3 hx (hb hby d3_16) rfl #[.val (.ref a1), .val (.long q2), .second, .val (.int (3 : Int32)), .val (.int (3 : Int32))] rfl 19 rfl ?_
  refine own_goto X3 hx (hb hby d3_19) 6 (by decide) ?_
  refine own_iloadN X3 hx (hb hby d3_6) rfl 7 rfl ?_
  refine own_iload X3 hx (hb hby d3_7) rfl 9 rfl ?_
  refine own_icmpY X3 hx (hb hby d3_9) (flt (by decide : ¬ ((3 : Int32) < (3 : Int32)))).2.1 22 (by decide) ?_
  refine own_retV X3 hx hlk Bd.returns (hb hby d3_22) (by decide) (by decide) ?_
  have K4 : Keep h0 h3 [a1] := ((((Keep.refl h0 [a1]).wr W1 (Or.inl (List.mem_of_getElem? (i := 0) rfl))).wr W2 (Or.inl (List.mem_of_getElem? (i := 0) rfl))).wr W3 (Or.inl (List.mem_of_getElem? (i := 0) rfl)))
  show Q3 Z a1 q2 ka z0 z1 z2 h0 n0 _ T3.heap _
  rw [e3]
  exact ⟨rfl, N3, K4, V3⟩
theorem d4_0 : decode jdk_65_method_117_code 0 = .ok (.iconst 0, 1) := by decide +kernel
theorem d4_1 : decode jdk_65_method_117_code 1 = .ok (.istore_n 2, 1) := by decide +kernel
theorem d4_2 : decode jdk_65_method_117_code 2 = .ok (.aload_n 0, 1) := by decide +kernel
theorem d4_3 : decode jdk_65_method_117_code 3 = .ok (.arraylength, 1) := by decide +kernel
theorem d4_4 : decode jdk_65_method_117_code 4 = .ok (.istore_n 3, 1) := by decide +kernel
theorem d4_5 : decode jdk_65_method_117_code 5 = .ok (.iload_n 2, 1) := by decide +kernel
theorem d4_6 : decode jdk_65_method_117_code 6 = .ok (.iload_n 3, 1) := by decide +kernel
theorem d4_7 : decode jdk_65_method_117_code 7 = .ok (.if_icmp .ge 13, 3) := by decide +kernel
theorem d4_10 : decode jdk_65_method_117_code 10 = .ok (.aload_n 0, 1) := by decide +kernel
theorem d4_11 : decode jdk_65_method_117_code 11 = .ok (.iload_n 2, 1) := by decide +kernel
theorem d4_12 : decode jdk_65_method_117_code 12 = .ok (.aload_n 1, 1) := by decide +kernel
theorem d4_13 : decode jdk_65_method_117_code 13 = .ok (.aastore, 1) := by decide +kernel
theorem d4_14 : decode jdk_65_method_117_code 14 = .ok (.iinc 2 1, 3) := by decide +kernel
theorem d4_17 : decode jdk_65_method_117_code 17 = .ok (.goto (-12), 3) := by decide +kernel
theorem d4_20 : decode jdk_65_method_117_code 20 = .ok (.return_, 1) := by decide +kernel
theorem pn_rm4 : plainName "java/util/Arrays" = true := by first | (simp [plainName, overriddenIn]; done) | decide +kernel
theorem ef_rm4 (m : MethodId) (x0 : Addr) (x1 : Addr) : entryFrame m #[(.ref x0), (.ref x1)] 4 = mkF m 0 #[.val (.ref x0), .val (.ref x1), .unset, .unset] [] := by first | (simp [entryFrame, mkF, argsToLocals, Value.category]; done) | rfl
def Q4 (Z : State) (a1 : Addr) (a2 : Addr) (ka : ClassId) (h0 : Heap) (n0 : Nat) (v : Option Value) (h : Heap) (L : List Loc) : Prop := v = none ∧ Fr n0 L ∧ Keep h0 h [a1]
set_option maxRecDepth 65536 in
set_option maxHeartbeats 40000000 in
theorem rm4 (l : Launch) (Z : State) (a0 : Array Value) (hw : ∀ d ∈ tables_1, d.before a0 Z = true) (ws : List Jvm.Cond) (a1 : Addr) (a2 : Addr) (ka : ClassId) (h0 : Heap) (n0 : Nat) (Z0 : n0 ≤ h0.size) (V_a1 : Arv Z h0 a1 ka (.object "com/example/holdfast/holdfast/MachineStates$Uptime") (3 : Int32) [.null, .null, .null] .null) (g_a1 : n0 ≤ a1) (E_a2 : Exa Z h0 a2 "com/example/holdfast/holdfast/MachineStates$Uptime") (Ov : Ovr Z ka "com/example/holdfast/holdfast/MachineStates$Uptime") :
    MetFree l (⟨"java/util/Arrays", "fill", "([Ljava/lang/Object;Ljava/lang/Object;)V"⟩ : MethodName) (head1 (Jvm.Cond.code (⟨"java/util/Arrays", "fill", "([Ljava/lang/Object;Ljava/lang/Object;)V"⟩ : MethodName) jdk_65_method_117_code 4 none :: ws) ({ frames := 0, cells := 0, slots := 0, locals := 0 } : Room)) (fun a U => a = #[(.ref a1), (.ref a2)] ∧ Z.Warmed39 U.vm ∧ U.heap = h0) (fun _ _ _ _ _ => True) (fun _ U o U' => ∃ v L, o = .returned v ∧ Q4 Z a1 a2 ka h0 n0 v U'.heap L ∧ FrameEnd U o U' L ({ frames := 0, cells := 0, slots := 0, locals := 0 } : Room).cells ({ frames := 0, cells := 0, slots := 0, locals := 0 } : Room).slots) := by
  refine MetFree.of_bodySF (plainFor_of_name pn_rm4) hisR ?_
  intro p e s m args below meth c s₁ Bd hml0 hP hK
  obtain ⟨rfl, hZ, hh⟩ := hP
  have hx := Bd.exec
  have hby := Bd.bytes
  have hlk : meth.locks = false := BodyLoose.notSynchronized Bd
  have hml : c.maxLocals = 4 := hml0
  have hown : s.vm.findClass "java/util/Arrays" = some m.cls := findClass_of_methodNamed Bd.named
  have hnm := (name_of_methodNamed Bd.named Bd.method).1
  have X0 : Stand p l e ({ frames := 0, cells := 0, slots := 0, locals := 0 } : Room) s m #[(.ref a1), (.ref a2)] below meth c s₁ [] 0 0 := Stand.of_body Bd
  have e0 : s₁.heap = h0 := by rw [← hh, Bd.state]; rfl
  have N0 := Fr.nil n0
  show OwnW p e below (OwnG s (Q4 Z a1 a2 ka h0 n0) ({ frames := 0, cells := 0, slots := 0, locals := 0 } : Room).cells ({ frames := 0, cells := 0, slots := 0, locals := 0 } : Room).slots) (s₁.setTop (entryFrame m #[(.ref a1), (.ref a2)] 4))
  rw [ef_rm4]
  refine own_iconst X0 hx (hb hby d4_0) (0 : Int32) rfl 1 rfl ?_
  refine own_istoreN X0 hx (hb hby d4_1) #[.val (.ref a1), .val (.ref a2), .val (.int (0 : Int32)), .unset] rfl 2 rfl ?_
  refine own_aloadN X0 hx (hb hby d4_2) rfl rfl 3 rfl ?_
  refine own_len X0 hx hZ e0 V_a1 (hb hby d4_3) 4 rfl ?_
  refine own_istoreN X0 hx (hb hby d4_4) #[.val (.ref a1), .val (.ref a2), .val (.int (0 : Int32)), .val (.int (3 : Int32))] rfl 5 rfl ?_
  refine own_iloadN X0 hx (hb hby d4_5) rfl 6 rfl ?_
  refine own_iloadN X0 hx (hb hby d4_6) rfl 7 rfl ?_
  refine own_icmpN X0 hx (hb hby d4_7) (tlt (by decide : (0 : Int32) < (3 : Int32))).2.1 10 (by decide) ?_
  refine own_aloadN X0 hx (hb hby d4_10) rfl rfl 11 rfl ?_
  refine own_iloadN X0 hx (hb hby d4_11) rfl 12 rfl ?_
  refine own_aloadN X0 hx (hb hby d4_12) rfl rfl 13 rfl ?_
  obtain ⟨cl1, Ar1, qk1, Sz1, Nz1, Hz1, Gz1⟩ := V_a1
  refine own_stR X0 hx hZ e0 Ar1 (j := (0 : Int32)) (inb_of Sz1 ⟨by decide, by decide⟩) rfl (Sto.ofV Ar1 qk1 Ov (Ins.self E_a2)) (hb hby d4_13) 14 rfl ?_
  intro T1 h1 X1 e1 W1
  have V1 : Arv Z h1 a1 ka (.object "com/example/holdfast/holdfast/MachineStates$Uptime") (3 : Int32) [(.ref a2), .null, .null] .null := Arv.set Ar1 qk1 Sz1 Nz1 Hz1 Gz1 rfl W1 0 rfl (Nat.le_of_ble_eq_true rfl)
  have N1 := Fr.snoc X1 N0 g_a1
  refine own_iinc X1 hx (hb hby d4_14) rfl #[.val (.ref a1), .val (.ref a2), .val (.int (1 : Int32)), .val (.int (3 : Int32))] rfl 17 rfl ?_
  refine own_goto X1 hx (hb hby d4_17) 5 (by decide) ?_
  refine own_iloadN X1 hx (hb hby d4_5) rfl 6 rfl ?_
  refine own_iloadN X1 hx (hb hby d4_6) rfl 7 rfl ?_
  refine own_icmpN X1 hx (hb hby d4_7) (tlt (by decide : (1 : Int32) < (3 : Int32))).2.1 10 (by decide) ?_
  refine own_aloadN X1 hx (hb hby d4_10) rfl rfl 11 rfl ?_
  refine own_iloadN X1 hx (hb hby d4_11) rfl 12 rfl ?_
  refine own_aloadN X1 hx (hb hby d4_12) rfl rfl 13 rfl ?_
  have Ea2_2 := (E_a2.wr W1)
  obtain ⟨cl3, Ar3, qk3, Sz3, Nz3, Hz3, Gz3⟩ := V1
  refine own_stR X1 hx hZ e1 Ar3 (j := (1 : Int32)) (inb_of Sz3 ⟨by decide, by decide⟩) rfl (Sto.ofV Ar3 qk3 Ov (Ins.self Ea2_2)) (hb hby d4_13) 14 rfl ?_
  intro T3 h3 X3 e3 W3
  have V3 : Arv Z h3 a1 ka (.object "com/example/holdfast/holdfast/MachineStates$Uptime") (3 : Int32) [(.ref a2), (.ref a2), .null] .null := Arv.set Ar3 qk3 Sz3 Nz3 Hz3 Gz3 rfl W3 1 rfl (Nat.le_of_ble_eq_true rfl)
  have N3 := Fr.snoc X3 N1 g_a1
  refine own_iinc X3 hx (hb hby d4_14) rfl #[.val (.ref a1), .val (.ref a2), .val (.int (2 : Int32)), .val (.int (3 : Int32))] rfl 17 rfl ?_
  refine own_goto X3 hx (hb hby d4_17) 5 (by decide) ?_
  refine own_iloadN X3 hx (hb hby d4_5) rfl 6 rfl ?_
  refine own_iloadN X3 hx (hb hby d4_6) rfl 7 rfl ?_
  refine own_icmpN X3 hx (hb hby d4_7) (tlt (by decide : (2 : Int32) < (3 : Int32))).2.1 10 (by decide) ?_
  refine own_aloadN X3 hx (hb hby d4_10) rfl rfl 11 rfl ?_
  refine own_iloadN X3 hx (hb hby d4_11) rfl 12 rfl ?_
  refine own_aloadN X3 hx (hb hby d4_12) rfl rfl 13 rfl ?_
  have Ea2_4 := (Ea2_2.wr W3)
  obtain ⟨cl5, Ar5, qk5, Sz5, Nz5, Hz5, Gz5⟩ := V3
  refine own_stR X3 hx hZ e3 Ar5 (j := (2 : Int32)) (inb_of Sz5 ⟨by decide, by decide⟩) rfl (Sto.ofV Ar5 qk5 Ov (Ins.self Ea2_4)) (hb hby d4_13) 14 rfl ?_
  intro T5 h5 X5 e5 W5
  have V5 : Arv Z h5 a1 ka (.object "com/example/holdfast/holdfast/MachineStates$Uptime") (3 : Int32) [(.ref a2), (.ref a2), (.ref a2)] .null := Arv.set Ar5 qk5 Sz5 Nz5 Hz5 Gz5 rfl W5 2 rfl (Nat.le_of_ble_eq_true rfl)
  have N5 := Fr.snoc X5 N3 g_a1
  refine own_iinc X5 hx (hb hby d4_14) rfl #[.val (.ref a1), .val (.ref a2), .val (.int (3 : Int32)), .val (.int (3 : Int32))] rfl 17 rfl ?_
  refine own_goto X5 hx (hb hby d4_17) 5 (by decide) ?_
  refine own_iloadN X5 hx (hb hby d4_5) rfl 6 rfl ?_
  refine own_iloadN X5 hx (hb hby d4_6) rfl 7 rfl ?_
  refine own_icmpY X5 hx (hb hby d4_7) (flt (by decide : ¬ ((3 : Int32) < (3 : Int32)))).2.1 20 (by decide) ?_
  refine own_retV X5 hx hlk Bd.returns (hb hby d4_20) (by decide) (by decide) ?_
  have K6 : Keep h0 h5 [a1] := ((((Keep.refl h0 [a1]).wr W1 (Or.inl (List.mem_of_getElem? (i := 0) rfl))).wr W3 (Or.inl (List.mem_of_getElem? (i := 0) rfl))).wr W5 (Or.inl (List.mem_of_getElem? (i := 0) rfl)))
  show Q4 Z a1 a2 ka h0 n0 _ T5.heap _
  rw [e5]
  exact ⟨rfl, N5, K6⟩
theorem d1_0 : decode prog_101_method_1_code 0 = .ok (.aload_n 0, 1) := by decide +kernel
theorem d1_1 : decode prog_101_method_1_code 1 = .ok (.invokespecial 1, 3) := by decide +kernel
theorem d1_4 : decode prog_101_method_1_code 4 = .ok (.aload_n 0, 1) := by decide +kernel
theorem d1_5 : decode prog_101_method_1_code 5 = .ok (.iload_n 1, 1) := by decide +kernel
theorem d1_6 : decode prog_101_method_1_code 6 = .ok (.newarray .boolean, 2) := by decide +kernel
theorem d1_8 : decode prog_101_method_1_code 8 = .ok (.putfield 7, 3) := by decide +kernel
theorem d1_11 : decode prog_101_method_1_code 11 = .ok (.aload_n 0, 1) := by decide +kernel
theorem d1_12 : decode prog_101_method_1_code 12 = .ok (.iload_n 1, 1) := by decide +kernel
theorem d1_13 : decode prog_101_method_1_code 13 = .ok (.newarray .int, 2) := by decide +kernel
theorem d1_15 : decode prog_101_method_1_code 15 = .ok (.putfield 13, 3) := by decide +kernel
theorem d1_18 : decode prog_101_method_1_code 18 = .ok (.aload_n 0, 1) := by decide +kernel
theorem d1_19 : decode prog_101_method_1_code 19 = .ok (.iload_n 1, 1) := by decide +kernel
theorem d1_20 : decode prog_101_method_1_code 20 = .ok (.newarray .int, 2) := by decide +kernel
theorem d1_22 : decode prog_101_method_1_code 22 = .ok (.putfield 17, 3) := by decide +kernel
theorem d1_25 : decode prog_101_method_1_code 25 = .ok (.aload_n 0, 1) := by decide +kernel
theorem d1_26 : decode prog_101_method_1_code 26 = .ok (.iload_n 1, 1) := by decide +kernel
theorem d1_27 : decode prog_101_method_1_code 27 = .ok (.anewarray 20, 3) := by decide +kernel
theorem d1_30 : decode prog_101_method_1_code 30 = .ok (.putfield 22, 3) := by decide +kernel
theorem d1_33 : decode prog_101_method_1_code 33 = .ok (.aload_n 0, 1) := by decide +kernel
theorem d1_34 : decode prog_101_method_1_code 34 = .ok (.iload_n 1, 1) := by decide +kernel
theorem d1_35 : decode prog_101_method_1_code 35 = .ok (.newarray .long, 2) := by decide +kernel
theorem d1_37 : decode prog_101_method_1_code 37 = .ok (.putfield 26, 3) := by decide +kernel
theorem d1_40 : decode prog_101_method_1_code 40 = .ok (.aload_n 0, 1) := by decide +kernel
theorem d1_41 : decode prog_101_method_1_code 41 = .ok (.iload_n 1, 1) := by decide +kernel
theorem d1_42 : decode prog_101_method_1_code 42 = .ok (.newarray .long, 2) := by decide +kernel
theorem d1_44 : decode prog_101_method_1_code 44 = .ok (.putfield 30, 3) := by decide +kernel
theorem d1_47 : decode prog_101_method_1_code 47 = .ok (.aload_n 0, 1) := by decide +kernel
theorem d1_48 : decode prog_101_method_1_code 48 = .ok (.iload_n 1, 1) := by decide +kernel
theorem d1_49 : decode prog_101_method_1_code 49 = .ok (.newarray .int, 2) := by decide +kernel
theorem d1_51 : decode prog_101_method_1_code 51 = .ok (.putfield 33, 3) := by decide +kernel
theorem d1_54 : decode prog_101_method_1_code 54 = .ok (.aload_n 0, 1) := by decide +kernel
theorem d1_55 : decode prog_101_method_1_code 55 = .ok (.iload_n 1, 1) := by decide +kernel
theorem d1_56 : decode prog_101_method_1_code 56 = .ok (.anewarray 36, 3) := by decide +kernel
theorem d1_59 : decode prog_101_method_1_code 59 = .ok (.putfield 38, 3) := by decide +kernel
theorem d1_62 : decode prog_101_method_1_code 62 = .ok (.aload_n 0, 1) := by decide +kernel
theorem d1_63 : decode prog_101_method_1_code 63 = .ok (.getfield 26, 3) := by decide +kernel
theorem d1_66 : decode prog_101_method_1_code 66 = .ok (.ldc2_w 44, 3) := by decide +kernel
theorem d1_69 : decode prog_101_method_1_code 69 = .ok (.invokestatic 46, 3) := by decide +kernel
theorem d1_72 : decode prog_101_method_1_code 72 = .ok (.aload_n 0, 1) := by decide +kernel
theorem d1_73 : decode prog_101_method_1_code 73 = .ok (.getfield 30, 3) := by decide +kernel
theorem d1_76 : decode prog_101_method_1_code 76 = .ok (.ldc2_w 44, 3) := by decide +kernel
theorem d1_79 : decode prog_101_method_1_code 79 = .ok (.invokestatic 46, 3) := by decide +kernel
theorem d1_82 : decode prog_101_method_1_code 82 = .ok (.aload_n 0, 1) := by decide +kernel
theorem d1_83 : decode prog_101_method_1_code 83 = .ok (.getfield 38, 3) := by decide +kernel
theorem d1_86 : decode prog_101_method_1_code 86 = .ok (.getstatic 52, 3) := by decide +kernel
theorem d1_89 : decode prog_101_method_1_code 89 = .ok (.invokestatic 56, 3) := by decide +kernel
theorem d1_92 : decode prog_101_method_1_code 92 = .ok (.return_, 1) := by decide +kernel
theorem pn_rm1 : plainName "com/example/holdfast/holdfast/MachineStates" = true := by first | (simp [plainName, overriddenIn]; done) | decide +kernel
theorem ef_rm1 (m : MethodId) (x0 : Addr) : entryFrame m #[(.ref x0), (.int (3 : Int32))] 2 = mkF m 0 #[.val (.ref x0), .val (.int (3 : Int32))] [] := by first | (simp [entryFrame, mkF, argsToLocals, Value.category]; done) | rfl
def Q1 (Z : State) (a1 : Addr) (u0 : Value) (u1 : Value) (u2 : Value) (u3 : Value) (u4 : Value) (u5 : Value) (u6 : Value) (u7 : Value) (fs : Addr) (h0 : Heap) (n0 : Nat) (v : Option Value) (h : Heap) (L : List Loc) : Prop := ∃ (bf : Addr) (bu : Addr) (bn : Addr) (kf : ClassId) (ku : ClassId) (kn : ClassId), v = none ∧ Fr n0 L ∧ Keep h0 h [a1] ∧ h0.size ≤ bf ∧ h0.size ≤ bu ∧ h0.size ≤ bn ∧ bf ≠ bu ∧ bf ≠ bn ∧ bu ≠ bn ∧ Exa Z h a1 "com/example/holdfast/holdfast/MachineStates" ∧ Fld Z h a1 "com/example/holdfast/holdfast/MachineStates" "barFrom" "[J" (.ref bf) ∧ Fld Z h a1 "com/example/holdfast/holdfast/MachineStates" "barUntil" "[J" (.ref bu) ∧ Fld Z h a1 "com/example/holdfast/holdfast/MachineStates" "barNodes" "[I" (.ref bn) ∧ Arv Z h bf kf .long (3 : Int32) [(.long (9223372036854775807 : Int64)), (.long (9223372036854775807 : Int64)), (.long (9223372036854775807 : Int64))] (.long (0 : Int64)) ∧ Arv Z h bu ku .long (3 : Int32) [(.long (9223372036854775807 : Int64)), (.long (9223372036854775807 : Int64)), (.long (9223372036854775807 : Int64))] (.long (0 : Int64)) ∧ Arv Z h bn kn .int (3 : Int32) [(.int (0 : Int32)), (.int (0 : Int32)), (.int (0 : Int32))] (.int (0 : Int32))
set_option maxRecDepth 65536 in
set_option maxHeartbeats 40000000 in
theorem rm1 (l : Launch) (Z : State) (a0 : Array Value) (hw : ∀ d ∈ tables_1, d.before a0 Z = true) (ws : List Jvm.Cond) (a1 : Addr) (u0 : Value) (u1 : Value) (u2 : Value) (u3 : Value) (u4 : Value) (u5 : Value) (u6 : Value) (u7 : Value) (fs : Addr) (h0 : Heap) (n0 : Nat) (Z0 : n0 ≤ h0.size) (E_a1 : Exa Z h0 a1 "com/example/holdfast/holdfast/MachineStates") (g_a1 : n0 ≤ a1) (F_isDown_a1 : Fld Z h0 a1 "com/example/holdfast/holdfast/MachineStates" "isDown" "[Z" u0) (F_lost_a1 : Fld Z h0 a1 "com/example/holdfast/holdfast/MachineStates" "lost" "[I" u1) (F_draining_a1 : Fld Z h0 a1 "com/example/holdfast/holdfast/MachineStates" "draining" "[I" u2) (F_gates_a1 : Fld Z h0 a1 "com/example/holdfast/holdfast/MachineStates" "gates" "[Lcom/example/holdfast/holdfast/MachineStates$Gate;" u3) (F_barFrom_a1 : Fld Z h0 a1 "com/example/holdfast/holdfast/MachineStates" "barFrom" "[J" u4) (F_barUntil_a1 : Fld Z h0 a1 "com/example/holdfast/holdfast/MachineStates" "barUntil" "[J" u5) (F_barNodes_a1 : Fld Z h0 a1 "com/example/holdfast/holdfast/MachineStates" "barNodes" "[I" u6) (F_uptimes_a1 : Fld Z h0 a1 "com/example/holdfast/holdfast/MachineStates" "uptimes" "[Lcom/example/holdfast/holdfast/MachineStates$Uptime;" u7) (S_FROM_START : Sta Z h0 "com/example/holdfast/holdfast/MachineStates$Uptime" "FROM_START" "Lcom/example/holdfast/holdfast/MachineStates$Uptime;" (.ref fs)) (E_fs : Exa Z h0 fs "com/example/holdfast/holdfast/MachineStates$Uptime") (ne_fs_a1 : fs ≠ a1) :
    MetFree l (⟨"com/example/holdfast/holdfast/MachineStates", "<init>", "(I)V"⟩ : MethodName) (head1 (Jvm.Cond.code (⟨"com/example/holdfast/holdfast/MachineStates", "<init>", "(I)V"⟩ : MethodName) prog_101_method_1_code 2 none :: ws) ({ frames := 1, cells := 8, slots := 24, locals := 16 } : Room)) (fun a U => a = #[(.ref a1), (.int (3 : Int32))] ∧ Z.Warmed39 U.vm ∧ U.heap = h0) (fun _ _ _ _ _ => True) (fun _ U o U' => ∃ v L, o = .returned v ∧ Q1 Z a1 u0 u1 u2 u3 u4 u5 u6 u7 fs h0 n0 v U'.heap L ∧ FrameEnd U o U' L ({ frames := 1, cells := 8, slots := 24, locals := 16 } : Room).cells ({ frames := 1, cells := 8, slots := 24, locals := 16 } : Room).slots) := by
  refine MetFree.of_bodySF (plainFor_of_name pn_rm1) hisR ?_
  intro p e s m args below meth c s₁ Bd hml0 hP hK
  obtain ⟨rfl, hZ, hh⟩ := hP
  have hx := Bd.exec
  have hby := Bd.bytes
  have hlk : meth.locks = false := BodyLoose.notSynchronized Bd
  have hml : c.maxLocals = 2 := hml0
  have hown : s.vm.findClass "com/example/holdfast/holdfast/MachineStates" = some m.cls := findClass_of_methodNamed Bd.named
  have hnm := (name_of_methodNamed Bd.named Bd.method).1
  have X0 : Stand p l e ({ frames := 1, cells := 8, slots := 24, locals := 16 } : Room) s m #[(.ref a1), (.int (3 : Int32))] below meth c s₁ [] 0 0 := Stand.of_body Bd
  have e0 : s₁.heap = h0 := by rw [← hh, Bd.state]; rfl
  have N0 := Fr.nil n0
  show OwnW p e below (OwnG s (Q1 Z a1 u0 u1 u2 u3 u4 u5 u6 u7 fs h0 n0) ({ frames := 1, cells := 8, slots := 24, locals := 16 } : Room).cells ({ frames := 1, cells := 8, slots := 24, locals := 16 } : Room).slots) (s₁.setTop (entryFrame m #[(.ref a1), (.int (3 : Int32))] 2))
  rw [ef_rm1]
  refine own_aloadN X0 hx (hb hby d1_0) rfl rfl 1 rfl ?_
  refine own_initO X0 hx hZ hown (hw _ (List.mem_of_getElem? (i := 8) rfl)) (hw _ (List.mem_of_getElem? (i := 9) rfl)) (hw _ (List.mem_of_getElem? (i := 10) rfl)) e0 (by rw [hml]; rfl) (hb hby d1_1) (by decide) 0 (Nat.le_of_eq rfl) (by decide) 4 rfl ?_
  intro T1 X1 e1
  refine own_aloadN X1 hx (hb hby d1_4) rfl rfl 5 rfl ?_
  refine own_iloadN X1 hx (hb hby d1_5) rfl 6 rfl ?_
  refine own_newP X1 hx hZ (hw _ (List.mem_of_getElem? (i := 11) rfl)) e1 (hb hby d1_6) (by decide) 3 (by decide) (by decide) (by decide) (by decide) 8 rfl ?_
  intro T2 h2 b2 kc2 qe2 X2 e2 E2 A2
  have ne_a1_b2 : a1 ≠ b2 := Nat.ne_of_lt (Nat.lt_of_lt_of_le E_a1.lt (Nat.le_of_eq qe2.symm))
  have ne_fs_b2 : fs ≠ b2 := Nat.ne_of_lt (Nat.lt_of_lt_of_le E_fs.lt (Nat.le_of_eq qe2.symm))
  have g_b2 : n0 ≤ b2 := Nat.le_trans Z0 (Nat.le_of_eq qe2.symm)
  have sz_b2 : h0.size ≤ b2 := Nat.le_trans (Keep.refl h0 [a1]).1 (Nat.le_of_eq qe2.symm)
  have V2 : Arv Z h2 b2 kc2 .boolean (3 : Int32) [(.int (0 : Int32)), (.int (0 : Int32)), (.int (0 : Int32))] (.int (0 : Int32)) := (Arv.new A2 (by decide)).pad (pad_rep [] (.int (0 : Int32)) 3)
  have Fa1_isDown_3 := (F_isDown_a1.ext E2)
  have Ea1_4 := (E_a1.ext E2)
  refine own_putF X2 hx hZ hown (hw _ (List.mem_of_getElem? (i := 12) rfl)) Via.refl e2 Fa1_isDown_3 Ea1_4 (Or.inr ⟨(hw _ (List.mem_of_getElem? (i := 13) rfl)), rfl, hnm⟩) (hw _ (List.mem_of_getElem? (i := 3) rfl)) (ty := (.array .boolean)) (by decide) rfl rfl (hb hby d1_8) 11 rfl ?_
  intro T5 h5 X5 e5 W5
  have Fw5 := Fa1_isDown_3.same W5
  have N5 := Fr.snoc X5 N0 g_a1
  refine own_aloadN X5 hx (hb hby d1_11) rfl rfl 12 rfl ?_
  refine own_iloadN X5 hx (hb hby d1_12) rfl 13 rfl ?_
  refine own_newP X5 hx hZ (hw _ (List.mem_of_getElem? (i := 14) rfl)) e5 (hb hby d1_13) (by decide) 3 (by decide) (by decide) (by decide) (by decide) 15 rfl ?_
  intro T6 h6 b6 kc6 qe6 X6 e6 E6 A6
  have Ea1_7 := (Ea1_4.wr W5)
  have ne_a1_b6 : a1 ≠ b6 := Nat.ne_of_lt (Nat.lt_of_lt_of_le Ea1_7.lt (Nat.le_of_eq qe6.symm))
  have Efs_8 := ((E_fs.ext E2).wr W5)
  have ne_fs_b6 : fs ≠ b6 := Nat.ne_of_lt (Nat.lt_of_lt_of_le Efs_8.lt (Nat.le_of_eq qe6.symm))
  have Vb2_9 := (V2.other W5 (Ne.symm ne_a1_b2))
  have ne_b2_b6 : b2 ≠ b6 := Nat.ne_of_lt (Nat.lt_of_lt_of_le Vb2_9.lt (Nat.le_of_eq qe6.symm))
  have Zs10 : n0 ≤ h5.size := (Nat.le_trans (Nat.le_trans Z0 E2.1) (Keep.of_wr W5).1)
  have g_b6 : n0 ≤ b6 := Nat.le_trans Zs10 (Nat.le_of_eq qe6.symm)
  have K11 : Keep h0 h5 [a1] := (((Keep.refl h0 [a1]).ext E2).wr W5 (Or.inl (List.mem_of_getElem? (i := 0) rfl)))
  have sz_b6 : h0.size ≤ b6 := Nat.le_trans K11.1 (Nat.le_of_eq qe6.symm)
  have V6 : Arv Z h6 b6 kc6 .int (3 : Int32) [(.int (0 : Int32)), (.int (0 : Int32)), (.int (0 : Int32))] (.int (0 : Int32)) := (Arv.new A6 (by decide)).pad (pad_rep [] (.int (0 : Int32)) 3)
  have Fa1_lost_12 := (((F_lost_a1.ext E2).other W5 (Or.inr (slot_ne (Or.inr (hw _ (List.mem_of_getElem? (i := 16) rfl))) (Or.inr (hw _ (List.mem_of_getElem? (i := 13) rfl))) (by decide) (t := (.array .int)) (t' := (.array .boolean)) (by decide) (by decide)))).ext E6)
  have Ea1_13 := (Ea1_7.ext E6)
  refine own_putF X6 hx hZ hown (hw _ (List.mem_of_getElem? (i := 15) rfl)) Via.refl e6 Fa1_lost_12 Ea1_13 (Or.inr ⟨(hw _ (List.mem_of_getElem? (i := 16) rfl)), rfl, hnm⟩) (hw _ (List.mem_of_getElem? (i := 3) rfl)) (ty := (.array .int)) (by decide) rfl rfl (hb hby d1_15) 18 rfl ?_
  intro T14 h14 X14 e14 W14
  have Fw14 := Fa1_lost_12.same W14
  have N14 := Fr.snoc X14 N5 g_a1
  refine own_aloadN X14 hx (hb hby d1_18) rfl rfl 19 rfl ?_
  refine own_iloadN X14 hx (hb hby d1_19) rfl 20 rfl ?_
  refine own_newP X14 hx hZ (hw _ (List.mem_of_getElem? (i := 14) rfl)) e14 (hb hby d1_20) (by decide) 3 (by decide) (by decide) (by decide) (by decide) 22 rfl ?_
  intro T15 h15 b15 kc15 qe15 X15 e15 E15 A15
  have Ea1_16 := (Ea1_13.wr W14)
  have ne_a1_b15 : a1 ≠ b15 := Nat.ne_of_lt (Nat.lt_of_lt_of_le Ea1_16.lt (Nat.le_of_eq qe15.symm))
  have Efs_17 := ((Efs_8.ext E6).wr W14)
  have ne_fs_b15 : fs ≠ b15 := Nat.ne_of_lt (Nat.lt_of_lt_of_le Efs_17.lt (Nat.le_of_eq qe15.symm))
  have Vb2_18 := ((Vb2_9.ext E6).other W14 (Ne.symm ne_a1_b2))
  have ne_b2_b15 : b2 ≠ b15 := Nat.ne_of_lt (Nat.lt_of_lt_of_le Vb2_18.lt (Nat.le_of_eq qe15.symm))
  have Vb6_19 := (V6.other W14 (Ne.symm ne_a1_b6))
  have ne_b6_b15 : b6 ≠ b15 := Nat.ne_of_lt (Nat.lt_of_lt_of_le Vb6_19.lt (Nat.le_of_eq qe15.symm))
  have Zs20 : n0 ≤ h14.size := (Nat.le_trans (Nat.le_trans Zs10 E6.1) (Keep.of_wr W14).1)
  have g_b15 : n0 ≤ b15 := Nat.le_trans Zs20 (Nat.le_of_eq qe15.symm)
  have K21 : Keep h0 h14 [a1] := ((K11.ext E6).wr W14 (Or.inl (List.mem_of_getElem? (i := 0) rfl)))
  have sz_b15 : h0.size ≤ b15 := Nat.le_trans K21.1 (Nat.le_of_eq qe15.symm)
  have V15 : Arv Z h15 b15 kc15 .int (3 : Int32) [(.int (0 : Int32)), (.int (0 : Int32)), (.int (0 : Int32))] (.int (0 : Int32)) := (Arv.new A15 (by decide)).pad (pad_rep [] (.int (0 : Int32)) 3)
  have Fa1_draining_22 := (((((F_draining_a1.ext E2).other W5 (Or.inr (slot_ne (Or.inr (hw _ (List.mem_of_getElem? (i := 18) rfl))) (Or.inr (hw _ (List.mem_of_getElem? (i := 13) rfl))) (by decide) (t := (.array .int)) (t' := (.array .boolean)) (by decide) (by decide)))).ext E6).other W14 (Or.inr (slot_ne (Or.inr (hw _ (List.mem_of_getElem? (i := 18) rfl))) (Or.inr (hw _ (List.mem_of_getElem? (i := 16) rfl))) (by decide) (t := (.array .int)) (t' := (.array .int)) (by decide) (by decide)))).ext E15)
  have Ea1_23 := (Ea1_16.ext E15)
  refine own_putF X15 hx hZ hown (hw _ (List.mem_of_getElem? (i := 17) rfl)) Via.refl e15 Fa1_draining_22 Ea1_23 (Or.inr ⟨(hw _ (List.mem_of_getElem? (i := 18) rfl)), rfl, hnm⟩) (hw _ (List.mem_of_getElem? (i := 3) rfl)) (ty := (.array .int)) (by decide) rfl rfl (hb hby d1_22) 25 rfl ?_
  intro T24 h24 X24 e24 W24
  have Fw24 := Fa1_draining_22.same W24
  have N24 := Fr.snoc X24 N14 g_a1
  refine own_aloadN X24 hx (hb hby d1_25) rfl rfl 26 rfl ?_
  refine own_iloadN X24 hx (hb hby d1_26) rfl 27 rfl ?_
  refine own_newR X24 hx hZ hown (hw _ (List.mem_of_getElem? (i := 19) rfl)) (hw _ (List.mem_of_getElem? (i := 20) rfl)) e24 (hb hby d1_27) (by decide) 3 (by decide) (by decide) (by decide) (by decide) 30 rfl ?_
  intro T25 h25 b25 kc25 qe25 X25 e25 E25 A25 O25
  have Ea1_26 := (Ea1_23.wr W24)
  have ne_a1_b25 : a1 ≠ b25 := Nat.ne_of_lt (Nat.lt_of_lt_of_le Ea1_26.lt (Nat.le_of_eq qe25.symm))
  have Efs_27 := ((Efs_17.ext E15).wr W24)
  have ne_fs_b25 : fs ≠ b25 := Nat.ne_of_lt (Nat.lt_of_lt_of_le Efs_27.lt (Nat.le_of_eq qe25.symm))
  have Vb2_28 := ((Vb2_18.ext E15).other W24 (Ne.symm ne_a1_b2))
  have ne_b2_b25 : b2 ≠ b25 := Nat.ne_of_lt (Nat.lt_of_lt_of_le Vb2_28.lt (Nat.le_of_eq qe25.symm))
  have Vb6_29 := ((Vb6_19.ext E15).other W24 (Ne.symm ne_a1_b6))
  have ne_b6_b25 : b6 ≠ b25 := Nat.ne_of_lt (Nat.lt_of_lt_of_le Vb6_29.lt (Nat.le_of_eq qe25.symm))
  have Vb15_30 := (V15.other W24 (Ne.symm ne_a1_b15))
  have ne_b15_b25 : b15 ≠ b25 := Nat.ne_of_lt (Nat.lt_of_lt_of_le Vb15_30.lt (Nat.le_of_eq qe25.symm))
  have Zs31 : n0 ≤ h24.size := (Nat.le_trans (Nat.le_trans Zs20 E15.1) (Keep.of_wr W24).1)
  have g_b25 : n0 ≤ b25 := Nat.le_trans Zs31 (Nat.le_of_eq qe25.symm)
  have K32 : Keep h0 h24 [a1] := ((K21.ext E15).wr W24 (Or.inl (List.mem_of_getElem? (i := 0) rfl)))
  have sz_b25 : h0.size ≤ b25 := Nat.le_trans K32.1 (Nat.le_of_eq qe25.symm)
  have V25 : Arv Z h25 b25 kc25 (.object "com/example/holdfast/holdfast/MachineStates$Gate") (3 : Int32) [.null, .null, .null] .null := (Arv.new A25 (by decide)).pad (pad_rep [] .null 3)
  have Fa1_gates_33 := (((((((F_gates_a1.ext E2).other W5 (Or.inr (slot_ne (Or.inr (hw _ (List.mem_of_getElem? (i := 22) rfl))) (Or.inr (hw _ (List.mem_of_getElem? (i := 13) rfl))) (by decide) (t := (.array (.object "com/example/holdfast/holdfast/MachineStates$Gate"))) (t' := (.array .boolean)) (by decide) (by decide)))).ext E6).other W14 (Or.inr (slot_ne (Or.inr (hw _ (List.mem_of_getElem? (i := 22) rfl))) (Or.inr (hw _ (List.mem_of_getElem? (i := 16) rfl))) (by decide) (t := (.array (.object "com/example/holdfast/holdfast/MachineStates$Gate"))) (t' := (.array .int)) (by decide) (by decide)))).ext E15).other W24 (Or.inr (slot_ne (Or.inr (hw _ (List.mem_of_getElem? (i := 22) rfl))) (Or.inr (hw _ (List.mem_of_getElem? (i := 18) rfl))) (by decide) (t := (.array (.object "com/example/holdfast/holdfast/MachineStates$Gate"))) (t' := (.array .int)) (by decide) (by decide)))).ext E25)
  have Ea1_34 := (Ea1_26.ext E25)
  refine own_putF X25 hx hZ hown (hw _ (List.mem_of_getElem? (i := 21) rfl)) Via.refl e25 Fa1_gates_33 Ea1_34 (Or.inr ⟨(hw _ (List.mem_of_getElem? (i := 22) rfl)), rfl, hnm⟩) (hw _ (List.mem_of_getElem? (i := 3) rfl)) (ty := (.array (.object "com/example/holdfast/holdfast/MachineStates$Gate"))) (by decide) rfl rfl (hb hby d1_30) 33 rfl ?_
  intro T35 h35 X35 e35 W35
  have Fw35 := Fa1_gates_33.same W35
  have N35 := Fr.snoc X35 N24 g_a1
  refine own_aloadN X35 hx (hb hby d1_33) rfl rfl 34 rfl ?_
  refine own_iloadN X35 hx (hb hby d1_34) rfl 35 rfl ?_
  refine own_newP X35 hx hZ (hw _ (List.mem_of_getElem? (i := 23) rfl)) e35 (hb hby d1_35) (by decide) 3 (by decide) (by decide) (by decide) (by decide) 37 rfl ?_
  intro T36 h36 b36 kc36 qe36 X36 e36 E36 A36
  have Ea1_37 := (Ea1_34.wr W35)
  have ne_a1_b36 : a1 ≠ b36 := Nat.ne_of_lt (Nat.lt_of_lt_of_le Ea1_37.lt (Nat.le_of_eq qe36.symm))
  have Efs_38 := ((Efs_27.ext E25).wr W35)
  have ne_fs_b36 : fs ≠ b36 := Nat.ne_of_lt (Nat.lt_of_lt_of_le Efs_38.lt (Nat.le_of_eq qe36.symm))
  have Vb2_39 := ((Vb2_28.ext E25).other W35 (Ne.symm ne_a1_b2))
  have ne_b2_b36 : b2 ≠ b36 := Nat.ne_of_lt (Nat.lt_of_lt_of_le Vb2_39.lt (Nat.le_of_eq qe36.symm))
  have Vb6_40 := ((Vb6_29.ext E25).other W35 (Ne.symm ne_a1_b6))
  have ne_b6_b36 : b6 ≠ b36 := Nat.ne_of_lt (Nat.lt_of_lt_of_le Vb6_40.lt (Nat.le_of_eq qe36.symm))
  have Vb15_41 := ((Vb15_30.ext E25).other W35 (Ne.symm ne_a1_b15))
  have ne_b15_b36 : b15 ≠ b36 := Nat.ne_of_lt (Nat.lt_of_lt_of_le Vb15_41.lt (Nat.le_of_eq qe36.symm))
  have Vb25_42 := (V25.other W35 (Ne.symm ne_a1_b25))
  have ne_b25_b36 : b25 ≠ b36 := Nat.ne_of_lt (Nat.lt_of_lt_of_le Vb25_42.lt (Nat.le_of_eq qe36.symm))
  have Zs43 : n0 ≤ h35.size := (Nat.le_trans (Nat.le_trans Zs31 E25.1) (Keep.of_wr W35).1)
  have g_b36 : n0 ≤ b36 := Nat.le_trans Zs43 (Nat.le_of_eq qe36.symm)
  have K44 : Keep h0 h35 [a1] := ((K32.ext E25).wr W35 (Or.inl (List.mem_of_getElem? (i := 0) rfl)))
  have sz_b36 : h0.size ≤ b36 := Nat.le_trans K44.1 (Nat.le_of_eq qe36.symm)
  have V36 : Arv Z h36 b36 kc36 .long (3 : Int32) [(.long (0 : Int64)), (.long (0 : Int64)), (.long (0 : Int64))] (.long (0 : Int64)) := (Arv.new A36 (by decide)).pad (pad_rep [] (.long (0 : Int64)) 3)
  have Fa1_barFrom_45 := (((((((((F_barFrom_a1.ext E2).other W5 (Or.inr (slot_ne (Or.inr (hw _ (List.mem_of_getElem? (i := 25) rfl))) (Or.inr (hw _ (List.mem_of_getElem? (i := 13) rfl))) (by decide) (t := (.array .long)) (t' := (.array .boolean)) (by decide) (by decide)))).ext E6).other W14 (Or.inr (slot_ne (Or.inr (hw _ (List.mem_of_getElem? (i := 25) rfl))) (Or.inr (hw _ (List.mem_of_getElem? (i := 16) rfl))) (by decide) (t := (.array .long)) (t' := (.array .int)) (by decide) (by decide)))).ext E15).other W24 (Or.inr (slot_ne (Or.inr (hw _ (List.mem_of_getElem? (i := 25) rfl))) (Or.inr (hw _ (List.mem_of_getElem? (i := 18) rfl))) (by decide) (t := (.array .long)) (t' := (.array .int)) (by decide) (by decide)))).ext E25).other W35 (Or.inr (slot_ne (Or.inr (hw _ (List.mem_of_getElem? (i := 25) rfl))) (Or.inr (hw _ (List.mem_of_getElem? (i := 22) rfl))) (by decide) (t := (.array .long)) (t' := (.array (.object "com/example/holdfast/holdfast/MachineStates$Gate"))) (by decide) (by decide)))).ext E36)
  have Ea1_46 := (Ea1_37.ext E36)
  refine own_putF X36 hx hZ hown (hw _ (List.mem_of_getElem? (i := 24) rfl)) Via.refl e36 Fa1_barFrom_45 Ea1_46 (Or.inr ⟨(hw _ (List.mem_of_getElem? (i := 25) rfl)), rfl, hnm⟩) (hw _ (List.mem_of_getElem? (i := 3) rfl)) (ty := (.array .long)) (by decide) rfl rfl (hb hby d1_37) 40 rfl ?_
  intro T47 h47 X47 e47 W47
  have Fw47 := Fa1_barFrom_45.same W47
  have N47 := Fr.snoc X47 N35 g_a1
  refine own_aloadN X47 hx (hb hby d1_40) rfl rfl 41 rfl ?_
  refine own_iloadN X47 hx (hb hby d1_41) rfl 42 rfl ?_
  refine own_newP X47 hx hZ (hw _ (List.mem_of_getElem? (i := 23) rfl)) e47 (hb hby d1_42) (by decide) 3 (by decide) (by decide) (by decide) (by decide) 44 rfl ?_
  intro T48 h48 b48 kc48 qe48 X48 e48 E48 A48
  have Ea1_49 := (Ea1_46.wr W47)
  have ne_a1_b48 : a1 ≠ b48 := Nat.ne_of_lt (Nat.lt_of_lt_of_le Ea1_49.lt (Nat.le_of_eq qe48.symm))
  have Efs_50 := ((Efs_38.ext E36).wr W47)
  have ne_fs_b48 : fs ≠ b48 := Nat.ne_of_lt (Nat.lt_of_lt_of_le Efs_50.lt (Nat.le_of_eq qe48.symm))
  have Vb2_51 := ((Vb2_39.ext E36).other W47 (Ne.symm ne_a1_b2))
  have ne_b2_b48 : b2 ≠ b48 := Nat.ne_of_lt (Nat.lt_of_lt_of_le Vb2_51.lt (Nat.le_of_eq qe48.symm))
  have Vb6_52 := ((Vb6_40.ext E36).other W47 (Ne.symm ne_a1_b6))
  have ne_b6_b48 : b6 ≠ b48 := Nat.ne_of_lt (Nat.lt_of_lt_of_le Vb6_52.lt (Nat.le_of_eq qe48.symm))
  have Vb15_53 := ((Vb15_41.ext E36).other W47 (Ne.symm ne_a1_b15))
  have ne_b15_b48 : b15 ≠ b48 := Nat.ne_of_lt (Nat.lt_of_lt_of_le Vb15_53.lt (Nat.le_of_eq qe48.symm))
  have Vb25_54 := ((Vb25_42.ext E36).other W47 (Ne.symm ne_a1_b25))
  have ne_b25_b48 : b25 ≠ b48 := Nat.ne_of_lt (Nat.lt_of_lt_of_le Vb25_54.lt (Nat.le_of_eq qe48.symm))
  have Vb36_55 := (V36.other W47 (Ne.symm ne_a1_b36))
  have ne_b36_b48 : b36 ≠ b48 := Nat.ne_of_lt (Nat.lt_of_lt_of_le Vb36_55.lt (Nat.le_of_eq qe48.symm))
  have Zs56 : n0 ≤ h47.size := (Nat.le_trans (Nat.le_trans Zs43 E36.1) (Keep.of_wr W47).1)
  have g_b48 : n0 ≤ b48 := Nat.le_trans Zs56 (Nat.le_of_eq qe48.symm)
  have K57 : Keep h0 h47 [a1] := ((K44.ext E36).wr W47 (Or.inl (List.mem_of_getElem? (i := 0) rfl)))
  have sz_b48 : h0.size ≤ b48 := Nat.le_trans K57.1 (Nat.le_of_eq qe48.symm)
  have V48 : Arv Z h48 b48 kc48 .long (3 : Int32) [(.long (0 : Int64)), (.long (0 : Int64)), (.long (0 : Int64))] (.long (0 : Int64)) := (Arv.new A48 (by decide)).pad (pad_rep [] (.long (0 : Int64)) 3)
  have Fa1_barUntil_58 := (((((((((((F_barUntil_a1.ext E2).other W5 (Or.inr (slot_ne (Or.inr (hw _ (List.mem_of_getElem? (i := 27) rfl))) (Or.inr (hw _ (List.mem_of_getElem? (i := 13) rfl))) (by decide) (t := (.array .long)) (t' := (.array .boolean)) (by decide) (by decide)))).ext E6).other W14 (Or.inr (slot_ne (Or.inr (hw _ (List.mem_of_getElem? (i := 27) rfl))) (Or.inr (hw _ (List.mem_of_getElem? (i := 16) rfl))) (by decide) (t := (.array .long)) (t' := (.array .int)) (by decide) (by decide)))).ext E15).other W24 (Or.inr (slot_ne (Or.inr (hw _ (List.mem_of_getElem? (i := 27) rfl))) (Or.inr (hw _ (List.mem_of_getElem? (i := 18) rfl))) (by decide) (t := (.array .long)) (t' := (.array .int)) (by decide) (by decide)))).ext E25).other W35 (Or.inr (slot_ne (Or.inr (hw _ (List.mem_of_getElem? (i := 27) rfl))) (Or.inr (hw _ (List.mem_of_getElem? (i := 22) rfl))) (by decide) (t := (.array .long)) (t' := (.array (.object "com/example/holdfast/holdfast/MachineStates$Gate"))) (by decide) (by decide)))).ext E36).other W47 (Or.inr (slot_ne (Or.inr (hw _ (List.mem_of_getElem? (i := 27) rfl))) (Or.inr (hw _ (List.mem_of_getElem? (i := 25) rfl))) (by decide) (t := (.array .long)) (t' := (.array .long)) (by decide) (by decide)))).ext E48)
  have Ea1_59 := (Ea1_49.ext E48)
  refine own_putF X48 hx hZ hown (hw _ (List.mem_of_getElem? (i := 26) rfl)) Via.refl e48 Fa1_barUntil_58 Ea1_59 (Or.inr ⟨(hw _ (List.mem_of_getElem? (i := 27) rfl)), rfl, hnm⟩) (hw _ (List.mem_of_getElem? (i := 3) rfl)) (ty := (.array .long)) (by decide) rfl rfl (hb hby d1_44) 47 rfl ?_
  intro T60 h60 X60 e60 W60
  have Fw60 := Fa1_barUntil_58.same W60
  have N60 := Fr.snoc X60 N47 g_a1
  refine own_aloadN X60 hx (hb hby d1_47) rfl rfl 48 rfl ?_
  refine own_iloadN X60 hx (hb hby d1_48) rfl 49 rfl ?_
  refine own_newP X60 hx hZ (hw _ (List.mem_of_getElem? (i := 14) rfl)) e60 (hb hby d1_49) (by decide) 3 (by decide) (by decide) (by decide) (by decide) 51 rfl ?_
  intro T61 h61 b61 kc61 qe61 X61 e61 E61 A61
  have Ea1_62 := (Ea1_59.wr W60)
  have ne_a1_b61 : a1 ≠ b61 := Nat.ne_of_lt (Nat.lt_of_lt_of_le Ea1_62.lt (Nat.le_of_eq qe61.symm))
  have Efs_63 := ((Efs_50.ext E48).wr W60)
  have ne_fs_b61 : fs ≠ b61 := Nat.ne_of_lt (Nat.lt_of_lt_of_le Efs_63.lt (Nat.le_of_eq qe61.symm))
  have Vb2_64 := ((Vb2_51.ext E48).other W60 (Ne.symm ne_a1_b2))
  have ne_b2_b61 : b2 ≠ b61 := Nat.ne_of_lt (Nat.lt_of_lt_of_le Vb2_64.lt (Nat.le_of_eq qe61.symm))
  have Vb6_65 := ((Vb6_52.ext E48).other W60 (Ne.symm ne_a1_b6))
  have ne_b6_b61 : b6 ≠ b61 := Nat.ne_of_lt (Nat.lt_of_lt_of_le Vb6_65.lt (Nat.le_of_eq qe61.symm))
  have Vb15_66 := ((Vb15_53.ext E48).other W60 (Ne.symm ne_a1_b15))
  have ne_b15_b61 : b15 ≠ b61 := Nat.ne_of_lt (Nat.lt_of_lt_of_le Vb15_66.lt (Nat.le_of_eq qe61.symm))
  have Vb25_67 := ((Vb25_54.ext E48).other W60 (Ne.symm ne_a1_b25))
  have ne_b25_b61 : b25 ≠ b61 := Nat.ne_of_lt (Nat.lt_of_lt_of_le Vb25_67.lt (Nat.le_of_eq qe61.symm))
  have Vb36_68 := ((Vb36_55.ext E48).other W60 (Ne.symm ne_a1_b36))
  have ne_b36_b61 : b36 ≠ b61 := Nat.ne_of_lt (Nat.lt_of_lt_of_le Vb36_68.lt (Nat.le_of_eq qe61.symm))
  have Vb48_69 := (V48.other W60 (Ne.symm ne_a1_b48))
  have ne_b48_b61 : b48 ≠ b61 := Nat.ne_of_lt (Nat.lt_of_lt_of_le Vb48_69.lt (Nat.le_of_eq qe61.symm))
  have Zs70 : n0 ≤ h60.size := (Nat.le_trans (Nat.le_trans Zs56 E48.1) (Keep.of_wr W60).1)
  have g_b61 : n0 ≤ b61 := Nat.le_trans Zs70 (Nat.le_of_eq qe61.symm)
  have K71 : Keep h0 h60 [a1] := ((K57.ext E48).wr W60 (Or.inl (List.mem_of_getElem? (i := 0) rfl)))
  have sz_b61 : h0.size ≤ b61 := Nat.le_trans K71.1 (Nat.le_of_eq qe61.symm)
  have V61 : Arv Z h61 b61 kc61 .int (3 : Int32) [(.int (0 : Int32)), (.int (0 : Int32)), (.int (0 : Int32))] (.int (0 : Int32)) := (Arv.new A61 (by decide)).pad (pad_rep [] (.int (0 : Int32)) 3)
  have Fa1_barNodes_72 := (((((((((((((F_barNodes_a1.ext E2).other W5 (Or.inr (slot_ne (Or.inr (hw _ (List.mem_of_getElem? (i := 29) rfl))) (Or.inr (hw _ (List.mem_of_getElem? (i := 13) rfl))) (by decide) (t := (.array .int)) (t' := (.array .boolean)) (by decide) (by decide)))).ext E6).other W14 (Or.inr (slot_ne (Or.inr (hw _ (List.mem_of_getElem? (i := 29) rfl))) (Or.inr (hw _ (List.mem_of_getElem? (i := 16) rfl))) (by decide) (t := (.array .int)) (t' := (.array .int)) (by decide) (by decide)))).ext E15).other W24 (Or.inr (slot_ne (Or.inr (hw _ (List.mem_of_getElem? (i := 29) rfl))) (Or.inr (hw _ (List.mem_of_getElem? (i := 18) rfl))) (by decide) (t := (.array .int)) (t' := (.array .int)) (by decide) (by decide)))).ext E25).other W35 (Or.inr (slot_ne (Or.inr (hw _ (List.mem_of_getElem? (i := 29) rfl))) (Or.inr (hw _ (List.mem_of_getElem? (i := 22) rfl))) (by decide) (t := (.array .int)) (t' := (.array (.object "com/example/holdfast/holdfast/MachineStates$Gate"))) (by decide) (by decide)))).ext E36).other W47 (Or.inr (slot_ne (Or.inr (hw _ (List.mem_of_getElem? (i := 29) rfl))) (Or.inr (hw _ (List.mem_of_getElem? (i := 25) rfl))) (by decide) (t := (.array .int)) (t' := (.array .long)) (by decide) (by decide)))).ext E48).other W60 (Or.inr (slot_ne (Or.inr (hw _ (List.mem_of_getElem? (i := 29) rfl))) (Or.inr (hw _ (List.mem_of_getElem? (i := 27) rfl))) (by decide) (t := (.array .int)) (t' := (.array .long)) (by decide) (by decide)))).ext E61)
  have Ea1_73 := (Ea1_62.ext E61)
  refine own_putF X61 hx hZ hown (hw _ (List.mem_of_getElem? (i := 28) rfl)) Via.refl e61 Fa1_barNodes_72 Ea1_73 (Or.inr ⟨(hw _ (List.mem_of_getElem? (i := 29) rfl)), rfl, hnm⟩) (hw _ (List.mem_of_getElem? (i := 3) rfl)) (ty := (.array .int)) (by decide) rfl rfl (hb hby d1_51) 54 rfl ?_
  intro T74 h74 X74 e74 W74
  have Fw74 := Fa1_barNodes_72.same W74
  have N74 := Fr.snoc X74 N60 g_a1
  refine own_aloadN X74 hx (hb hby d1_54) rfl rfl 55 rfl ?_
  refine own_iloadN X74 hx (hb hby d1_55) rfl 56 rfl ?_
  refine own_newR X74 hx hZ hown (hw _ (List.mem_of_getElem? (i := 30) rfl)) (hw _ (List.mem_of_getElem? (i := 31) rfl)) e74 (hb hby d1_56) (by decide) 3 (by decide) (by decide) (by decide) (by decide) 59 rfl ?_
  intro T75 h75 b75 kc75 qe75 X75 e75 E75 A75 O75
  have Ea1_76 := (Ea1_73.wr W74)
  have ne_a1_b75 : a1 ≠ b75 := Nat.ne_of_lt (Nat.lt_of_lt_of_le Ea1_76.lt (Nat.le_of_eq qe75.symm))
  have Efs_77 := ((Efs_63.ext E61).wr W74)
  have ne_fs_b75 : fs ≠ b75 := Nat.ne_of_lt (Nat.lt_of_lt_of_le Efs_77.lt (Nat.le_of_eq qe75.symm))
  have Vb2_78 := ((Vb2_64.ext E61).other W74 (Ne.symm ne_a1_b2))
  have ne_b2_b75 : b2 ≠ b75 := Nat.ne_of_lt (Nat.lt_of_lt_of_le Vb2_78.lt (Nat.le_of_eq qe75.symm))
  have Vb6_79 := ((Vb6_65.ext E61).other W74 (Ne.symm ne_a1_b6))
  have ne_b6_b75 : b6 ≠ b75 := Nat.ne_of_lt (Nat.lt_of_lt_of_le Vb6_79.lt (Nat.le_of_eq qe75.symm))
  have Vb15_80 := ((Vb15_66.ext E61).other W74 (Ne.symm ne_a1_b15))
  have ne_b15_b75 : b15 ≠ b75 := Nat.ne_of_lt (Nat.lt_of_lt_of_le Vb15_80.lt (Nat.le_of_eq qe75.symm))
  have Vb25_81 := ((Vb25_67.ext E61).other W74 (Ne.symm ne_a1_b25))
  have ne_b25_b75 : b25 ≠ b75 := Nat.ne_of_lt (Nat.lt_of_lt_of_le Vb25_81.lt (Nat.le_of_eq qe75.symm))
  have Vb36_82 := ((Vb36_68.ext E61).other W74 (Ne.symm ne_a1_b36))
  have ne_b36_b75 : b36 ≠ b75 := Nat.ne_of_lt (Nat.lt_of_lt_of_le Vb36_82.lt (Nat.le_of_eq qe75.symm))
  have Vb48_83 := ((Vb48_69.ext E61).other W74 (Ne.symm ne_a1_b48))
  have ne_b48_b75 : b48 ≠ b75 := Nat.ne_of_lt (Nat.lt_of_lt_of_le Vb48_83.lt (Nat.le_of_eq qe75.symm))
  have Vb61_84 := (V61.other W74 (Ne.symm ne_a1_b61))
  have ne_b61_b75 : b61 ≠ b75 := Nat.ne_of_lt (Nat.lt_of_lt_of_le Vb61_84.lt (Nat.le_of_eq qe75.symm))
  have Zs85 : n0 ≤ h74.size := (Nat.le_trans (Nat.le_trans Zs70 E61.1) (Keep.of_wr W74).1)
  have g_b75 : n0 ≤ b75 := Nat.le_trans Zs85 (Nat.le_of_eq qe75.symm)
  have K86 : Keep h0 h74 [a1] := ((K71.ext E61).wr W74 (Or.inl (List.mem_of_getElem? (i := 0) rfl)))
  have sz_b75 : h0.size ≤ b75 := Nat.le_trans K86.1 (Nat.le_of_eq qe75.symm)
  have V75 : Arv Z h75 b75 kc75 (.object "com/example/holdfast/holdfast/MachineStates$Uptime") (3 : Int32) [.null, .null, .null] .null := (Arv.new A75 (by decide)).pad (pad_rep [] .null 3)
  have Fa1_uptimes_87 := (((((((((((((((F_uptimes_a1.ext E2).other W5 (Or.inr (slot_ne (Or.inr (hw _ (List.mem_of_getElem? (i := 33) rfl))) (Or.inr (hw _ (List.mem_of_getElem? (i := 13) rfl))) (by decide) (t := (.array (.object "com/example/holdfast/holdfast/MachineStates$Uptime"))) (t' := (.array .boolean)) (by decide) (by decide)))).ext E6).other W14 (Or.inr (slot_ne (Or.inr (hw _ (List.mem_of_getElem? (i := 33) rfl))) (Or.inr (hw _ (List.mem_of_getElem? (i := 16) rfl))) (by decide) (t := (.array (.object "com/example/holdfast/holdfast/MachineStates$Uptime"))) (t' := (.array .int)) (by decide) (by decide)))).ext E15).other W24 (Or.inr (slot_ne (Or.inr (hw _ (List.mem_of_getElem? (i := 33) rfl))) (Or.inr (hw _ (List.mem_of_getElem? (i := 18) rfl))) (by decide) (t := (.array (.object "com/example/holdfast/holdfast/MachineStates$Uptime"))) (t' := (.array .int)) (by decide) (by decide)))).ext E25).other W35 (Or.inr (slot_ne (Or.inr (hw _ (List.mem_of_getElem? (i := 33) rfl))) (Or.inr (hw _ (List.mem_of_getElem? (i := 22) rfl))) (by decide) (t := (.array (.object "com/example/holdfast/holdfast/MachineStates$Uptime"))) (t' := (.array (.object "com/example/holdfast/holdfast/MachineStates$Gate"))) (by decide) (by decide)))).ext E36).other W47 (Or.inr (slot_ne (Or.inr (hw _ (List.mem_of_getElem? (i := 33) rfl))) (Or.inr (hw _ (List.mem_of_getElem? (i := 25) rfl))) (by decide) (t := (.array (.object "com/example/holdfast/holdfast/MachineStates$Uptime"))) (t' := (.array .long)) (by decide) (by decide)))).ext E48).other W60 (Or.inr (slot_ne (Or.inr (hw _ (List.mem_of_getElem? (i := 33) rfl))) (Or.inr (hw _ (List.mem_of_getElem? (i := 27) rfl))) (by decide) (t := (.array (.object "com/example/holdfast/holdfast/MachineStates$Uptime"))) (t' := (.array .long)) (by decide) (by decide)))).ext E61).other W74 (Or.inr (slot_ne (Or.inr (hw _ (List.mem_of_getElem? (i := 33) rfl))) (Or.inr (hw _ (List.mem_of_getElem? (i := 29) rfl))) (by decide) (t := (.array (.object "com/example/holdfast/holdfast/MachineStates$Uptime"))) (t' := (.array .int)) (by decide) (by decide)))).ext E75)
  have Ea1_88 := (Ea1_76.ext E75)
  refine own_putF X75 hx hZ hown (hw _ (List.mem_of_getElem? (i := 32) rfl)) Via.refl e75 Fa1_uptimes_87 Ea1_88 (Or.inr ⟨(hw _ (List.mem_of_getElem? (i := 33) rfl)), rfl, hnm⟩) (hw _ (List.mem_of_getElem? (i := 3) rfl)) (ty := (.array (.object "com/example/holdfast/holdfast/MachineStates$Uptime"))) (by decide) rfl rfl (hb hby d1_59) 62 rfl ?_
  intro T89 h89 X89 e89 W89
  have Fw89 := Fa1_uptimes_87.same W89
  have N89 := Fr.snoc X89 N74 g_a1
  refine own_aloadN X89 hx (hb hby d1_62) rfl rfl 63 rfl ?_
  have Fa1_barFrom_90 := ((((((Fw47.ext E48).other W60 (Or.inr (slot_ne (Or.inr (hw _ (List.mem_of_getElem? (i := 25) rfl))) (Or.inr (hw _ (List.mem_of_getElem? (i := 27) rfl))) (by decide) (t := (.array .long)) (t' := (.array .long)) (by decide) (by decide)))).ext E61).other W74 (Or.inr (slot_ne (Or.inr (hw _ (List.mem_of_getElem? (i := 25) rfl))) (Or.inr (hw _ (List.mem_of_getElem? (i := 29) rfl))) (by decide) (t := (.array .long)) (t' := (.array .int)) (by decide) (by decide)))).ext E75).other W89 (Or.inr (slot_ne (Or.inr (hw _ (List.mem_of_getElem? (i := 25) rfl))) (Or.inr (hw _ (List.mem_of_getElem? (i := 33) rfl))) (by decide) (t := (.array .long)) (t' := (.array (.object "com/example/holdfast/holdfast/MachineStates$Uptime"))) (by decide) (by decide))))
  refine own_getF X89 hx hZ hown (hw _ (List.mem_of_getElem? (i := 24) rfl)) Via.refl e89 Fa1_barFrom_90 (hb hby d1_63) 66 rfl ?_
  intro T91 X91 e91
  refine own_ldcJ X91 hx hZ hown (hw _ (List.mem_of_getElem? (i := 34) rfl)) (hb hby d1_66) 69 rfl ?_
  have Vb36_92 := ((Vb36_82.ext E75).other W89 (Ne.symm ne_a1_b36))
  have Zs93 : n0 ≤ h89.size := (Nat.le_trans (Nat.le_trans Zs85 E75.1) (Keep.of_wr W89).1)
  refine own_callS X91 hx hZ hown (hw _ (List.mem_of_getElem? (i := 35) rfl)) (hw _ (List.mem_of_getElem? (i := 36) rfl)) (hw _ (List.mem_of_getElem? (i := 38) rfl)) (hw _ (List.mem_of_getElem? (i := 37) rfl)) (by decide) (rm3 l Z a0 hw [] b36 (9223372036854775807 : Int64) kc36 (0 : Int64) (0 : Int64) (0 : Int64) h89 n0 Zs93 Vb36_92 g_b36) e91 (hb hby d1_69) pd___JJ_V rfl (by rw [hml]; rfl) (st := []) rfl 0 (Nat.le_of_eq rfl) (by decide) (by decide) (by decide) (by decide) 72 rfl ?_
  intro T94 v94 L94 X94 hQ94
  obtain ⟨rfl, N94q, Kc94, P94_0⟩ := hQ94
  have N94 := Fr.app N89 N94q
  show OwnW p e below (OwnG s (Q1 Z a1 u0 u1 u2 u3 u4 u5 u6 u7 fs h0 n0) ({ frames := 1, cells := 8, slots := 24, locals := 16 } : Room).cells ({ frames := 1, cells := 8, slots := 24, locals := 16 } : Room).slots) (T94.setTop (mkF m 72 #[.val (.ref a1), .val (.int (3 : Int32))] []))
  refine own_aloadN X94 hx (hb hby d1_72) rfl rfl 73 rfl ?_
  have Fa1_barUntil_95 := (((((Fw60.ext E61).other W74 (Or.inr (slot_ne (Or.inr (hw _ (List.mem_of_getElem? (i := 27) rfl))) (Or.inr (hw _ (List.mem_of_getElem? (i := 29) rfl))) (by decide) (t := (.array .long)) (t' := (.array .int)) (by decide) (by decide)))).ext E75).other W89 (Or.inr (slot_ne (Or.inr (hw _ (List.mem_of_getElem? (i := 27) rfl))) (Or.inr (hw _ (List.mem_of_getElem? (i := 33) rfl))) (by decide) (t := (.array .long)) (t' := (.array (.object "com/example/holdfast/holdfast/MachineStates$Uptime"))) (by decide) (by decide)))).keep Kc94 (ninS ne_a1_b36 nin0))
  refine own_getF X94 hx hZ hown (hw _ (List.mem_of_getElem? (i := 26) rfl)) Via.refl rfl Fa1_barUntil_95 (hb hby d1_73) 76 rfl ?_
  intro T96 X96 e96
  refine own_ldcJ X96 hx hZ hown (hw _ (List.mem_of_getElem? (i := 34) rfl)) (hb hby d1_76) 79 rfl ?_
  have Vb48_97 := (((Vb48_83.ext E75).other W89 (Ne.symm ne_a1_b48)).keep Kc94 (ninS (Ne.symm ne_b36_b48) nin0))
  have Zs98 : n0 ≤ T94.heap.size := (Nat.le_trans Zs93 Kc94.1)
  refine own_callS X96 hx hZ hown (hw _ (List.mem_of_getElem? (i := 35) rfl)) (hw _ (List.mem_of_getElem? (i := 36) rfl)) (hw _ (List.mem_of_getElem? (i := 38) rfl)) (hw _ (List.mem_of_getElem? (i := 37) rfl)) (by decide) (rm3 l Z a0 hw [] b48 (9223372036854775807 : Int64) kc48 (0 : Int64) (0 : Int64) (0 : Int64) T94.heap n0 Zs98 Vb48_97 g_b48) e96 (hb hby d1_79) pd___JJ_V rfl (by rw [hml]; rfl) (st := []) rfl 0 (Nat.le_of_eq rfl) (by decide) (by decide) (by decide) (by decide) 82 rfl ?_
  intro T99 v99 L99 X99 hQ99
  obtain ⟨rfl, N99q, Kc99, P99_0⟩ := hQ99
  have N99 := Fr.app N94 N99q
  show OwnW p e below (OwnG s (Q1 Z a1 u0 u1 u2 u3 u4 u5 u6 u7 fs h0 n0) ({ frames := 1, cells := 8, slots := 24, locals := 16 } : Room).cells ({ frames := 1, cells := 8, slots := 24, locals := 16 } : Room).slots) (T99.setTop (mkF m 82 #[.val (.ref a1), .val (.int (3 : Int32))] []))
  refine own_aloadN X99 hx (hb hby d1_82) rfl rfl 83 rfl ?_
  have Fa1_uptimes_100 := ((Fw89.keep Kc94 (ninS ne_a1_b36 nin0)).keep Kc99 (ninS ne_a1_b48 nin0))
  refine own_getF X99 hx hZ hown (hw _ (List.mem_of_getElem? (i := 32) rfl)) Via.refl rfl Fa1_uptimes_100 (hb hby d1_83) 86 rfl ?_
  intro T101 X101 e101
  have ScomexampleholdfastholdfastMachineStatesUptime_FROM_START_102 := (own_sta_keep (own_sta_keep ((((((((((((((((S_FROM_START.ext E2).wr W5).ext E6).wr W14).ext E15).wr W24).ext E25).wr W35).ext E36).wr W47).ext E48).wr W60).ext E61).wr W74).ext E75).wr W89) Kc94 (allS (own_pV Vb36_92) all0)) Kc99 (allS (own_pV Vb48_97) all0))
  refine own_getS X101 hx hZ hown (hw _ (List.mem_of_getElem? (i := 39) rfl)) Via.refl e101 ScomexampleholdfastholdfastMachineStatesUptime_FROM_START_102 (hb hby d1_86) 89 rfl ?_
  intro T103 X103 e103
  have Vb75_104 := (((V75.other W89 (Ne.symm ne_a1_b75)).keep Kc94 (ninS (Ne.symm ne_b36_b75) nin0)).keep Kc99 (ninS (Ne.symm ne_b48_b75) nin0))
  have Efs_105 := ((((Efs_77.ext E75).wr W89).keep Kc94).keep Kc99)
  have Zs106 : n0 ≤ T99.heap.size := (Nat.le_trans Zs98 Kc99.1)
  refine own_callS X103 hx hZ hown (hw _ (List.mem_of_getElem? (i := 42) rfl)) (hw _ (List.mem_of_getElem? (i := 43) rfl)) (hw _ (List.mem_of_getElem? (i := 44) rfl)) (hw _ (List.mem_of_getElem? (i := 37) rfl)) (by decide) (rm4 l Z a0 hw [] b75 fs kc75 T99.heap n0 Zs106 Vb75_104 g_b75 Efs_105 O75) e103 (hb hby d1_89) pd___Ljava_lang_Object_Ljava_lang_Object__V rfl (by rw [hml]; rfl) (st := []) rfl 0 (Nat.le_of_eq rfl) (by decide) (by decide) (by decide) (by decide) 92 rfl ?_
  intro T107 v107 L107 X107 hQ107
  obtain ⟨rfl, N107q, Kc107⟩ := hQ107
  have N107 := Fr.app N99 N107q
  show OwnW p e below (OwnG s (Q1 Z a1 u0 u1 u2 u3 u4 u5 u6 u7 fs h0 n0) ({ frames := 1, cells := 8, slots := 24, locals := 16 } : Room).cells ({ frames := 1, cells := 8, slots := 24, locals := 16 } : Room).slots) (T107.setTop (mkF m 92 #[.val (.ref a1), .val (.int (3 : Int32))] []))
  refine own_retV X107 hx hlk Bd.returns (hb hby d1_92) (by decide) (by decide) ?_
  have K108 : Keep h0 T107.heap [a1] := (((((K86.ext E75).wr W89 (Or.inl (List.mem_of_getElem? (i := 0) rfl))).trans Kc94 (allS (Or.inr sz_b36) all0)).trans Kc99 (allS (Or.inr sz_b48) all0)).trans Kc107 (allS (Or.inr sz_b75) all0))
  have Ea1_109 := ((((Ea1_88.wr W89).keep Kc94).keep Kc99).keep Kc107)
  have Fa1_barFrom_110 := (((Fa1_barFrom_90.keep Kc94 (ninS ne_a1_b36 nin0)).keep Kc99 (ninS ne_a1_b48 nin0)).keep Kc107 (ninS ne_a1_b75 nin0))
  have Fa1_barUntil_111 := ((Fa1_barUntil_95.keep Kc99 (ninS ne_a1_b48 nin0)).keep Kc107 (ninS ne_a1_b75 nin0))
  have Fa1_barNodes_112 := (((((Fw74.ext E75).other W89 (Or.inr (slot_ne (Or.inr (hw _ (List.mem_of_getElem? (i := 29) rfl))) (Or.inr (hw _ (List.mem_of_getElem? (i := 33) rfl))) (by decide) (t := (.array .int)) (t' := (.array (.object "com/example/holdfast/holdfast/MachineStates$Uptime"))) (by decide) (by decide)))).keep Kc94 (ninS ne_a1_b36 nin0)).keep Kc99 (ninS ne_a1_b48 nin0)).keep Kc107 (ninS ne_a1_b75 nin0))
  have Vb36_113 := ((P94_0.keep Kc99 (ninS ne_b36_b48 nin0)).keep Kc107 (ninS ne_b36_b75 nin0))
  have Vb48_114 := (P99_0.keep Kc107 (ninS ne_b48_b75 nin0))
  have Vb61_115 := (((((Vb61_84.ext E75).other W89 (Ne.symm ne_a1_b61)).keep Kc94 (ninS (Ne.symm ne_b36_b61) nin0)).keep Kc99 (ninS (Ne.symm ne_b48_b61) nin0)).keep Kc107 (ninS ne_b61_b75 nin0))
  show Q1 Z a1 u0 u1 u2 u3 u4 u5 u6 u7 fs h0 n0 _ T107.heap _
  exact ⟨b36, b48, b61, kc36, kc48, kc61, rfl, N107, K108, sz_b36, sz_b48, sz_b61, ne_b36_b48, ne_b36_b61, ne_b48_b61, Ea1_109, Fa1_barFrom_110, Fa1_barUntil_111, Fa1_barNodes_112, Vb36_113, Vb48_114, Vb61_115⟩
theorem d5_0 : decode prog_101_method_17_code 0 = .ok (.aload_n 0, 1) := by decide +kernel
theorem d5_1 : decode prog_101_method_17_code 1 = .ok (.getfield 30, 3) := by decide +kernel
theorem d5_4 : decode prog_101_method_17_code 4 = .ok (.iload_n 1, 1) := by decide +kernel
theorem d5_5 : decode prog_101_method_17_code 5 = .ok (.laload, 1) := by decide +kernel
theorem d5_6 : decode prog_101_method_17_code 6 = .ok (.ldc2_w 44, 3) := by decide +kernel
theorem d5_9 : decode prog_101_method_17_code 9 = .ok (.lcmp, 1) := by decide +kernel
theorem d5_10 : decode prog_101_method_17_code 10 = .ok (.ifCond .ne 9, 3) := by decide +kernel
theorem d5_13 : decode prog_101_method_17_code 13 = .ok (.ldc2_w 44, 3) := by decide +kernel
theorem d5_16 : decode prog_101_method_17_code 16 = .ok (.goto 11, 3) := by decide +kernel
theorem d5_19 : decode prog_101_method_17_code 19 = .ok (.aload_n 0, 1) := by decide +kernel
theorem d5_20 : decode prog_101_method_17_code 20 = .ok (.getfield 30, 3) := by decide +kernel
theorem d5_23 : decode prog_101_method_17_code 23 = .ok (.iload_n 1, 1) := by decide +kernel
theorem d5_24 : decode prog_101_method_17_code 24 = .ok (.laload, 1) := by decide +kernel
theorem d5_25 : decode prog_101_method_17_code 25 = .ok (.lload_n 2, 1) := by decide +kernel
theorem d5_26 : decode prog_101_method_17_code 26 = .ok (.lmul, 1) := by decide +kernel
theorem d5_27 : decode prog_101_method_17_code 27 = .ok (.lreturn, 1) := by decide +kernel
theorem pn_rm5 : plainName "com/example/holdfast/holdfast/MachineStates" = true := by first | (simp [plainName, overriddenIn]; done) | decide +kernel
theorem ef_rm5 (m : MethodId) (x0 : Addr) (x1 : Int32) (x2 : Int64) : entryFrame m #[(.ref x0), (.int x1), (.long x2)] 4 = mkF m 0 #[.val (.ref x0), .val (.int x1), .val (.long x2), .second] [] := by first | (simp [entryFrame, mkF, argsToLocals, Value.category]; done) | rfl
def own_bu (q3 : Int64) (xx : Int64) : Int64 := (if xx = (9223372036854775807 : Int64) then (9223372036854775807 : Int64) else (xx * q3))
def Q5 (Z : State) (a1 : Addr) (p2 : Int32) (q3 : Int64) (pa : Addr) (kp : ClassId) (nn : Int32) (vs : List Value) (dv : Value) (xx : Int64) (h0 : Heap) (n0 : Nat) (v : Option Value) (h : Heap) (L : List Loc) : Prop := v = some (.long (own_bu q3 xx)) ∧ Fr n0 L ∧ h = h0
set_option maxRecDepth 65536 in
set_option maxHeartbeats 40000000 in
theorem rm5 (l : Launch) (Z : State) (a0 : Array Value) (hw : ∀ d ∈ tables_1, d.before a0 Z = true) (ws : List Jvm.Cond) (a1 : Addr) (p2 : Int32) (q3 : Int64) (pa : Addr) (kp : ClassId) (nn : Int32) (vs : List Value) (dv : Value) (xx : Int64) (h0 : Heap) (n0 : Nat) (Z0 : n0 ≤ h0.size) (F_barUntil_a1 : Fld Z h0 a1 "com/example/holdfast/holdfast/MachineStates" "barUntil" "[J" (.ref pa)) (V_pa : Arv Z h0 pa kp .long nn vs dv) (hj : ¬ p2 < 0 ∧ p2 < nn) (hv : vs.getD p2.toNatClampNeg dv = (.long xx)) :
    MetFree l (⟨"com/example/holdfast/holdfast/MachineStates", "barUntil", "(IJ)J"⟩ : MethodName) (head1 (Jvm.Cond.code (⟨"com/example/holdfast/holdfast/MachineStates", "barUntil", "(IJ)J"⟩ : MethodName) prog_101_method_17_code 4 (some .long) :: ws) ({ frames := 0, cells := 0, slots := 0, locals := 0 } : Room)) (fun a U => a = #[(.ref a1), (.int p2), (.long q3)] ∧ Z.Warmed39 U.vm ∧ U.heap = h0) (fun _ _ _ _ _ => True) (fun _ U o U' => ∃ v L, o = .returned v ∧ Q5 Z a1 p2 q3 pa kp nn vs dv xx h0 n0 v U'.heap L ∧ FrameEnd U o U' L ({ frames := 0, cells := 0, slots := 0, locals := 0 } : Room).cells ({ frames := 0, cells := 0, slots := 0, locals := 0 } : Room).slots) := by
  refine MetFree.of_bodySF (plainFor_of_name pn_rm5) hisR ?_
  intro p e s m args below meth c s₁ Bd hml0 hP hK
  obtain ⟨rfl, hZ, hh⟩ := hP
  have hx := Bd.exec
  have hby := Bd.bytes
  have hlk : meth.locks = false := BodyLoose.notSynchronized Bd
  have hml : c.maxLocals = 4 := hml0
  have hown : s.vm.findClass "com/example/holdfast/holdfast/MachineStates" = some m.cls := findClass_of_methodNamed Bd.named
  have hnm := (name_of_methodNamed Bd.named Bd.method).1
  have X0 : Stand p l e ({ frames := 0, cells := 0, slots := 0, locals := 0 } : Room) s m #[(.ref a1), (.int p2), (.long q3)] below meth c s₁ [] 0 0 := Stand.of_body Bd
  have e0 : s₁.heap = h0 := by rw [← hh, Bd.state]; rfl
  have N0 := Fr.nil n0
  show OwnW p e below (OwnG s (Q5 Z a1 p2 q3 pa kp nn vs dv xx h0 n0) ({ frames := 0, cells := 0, slots := 0, locals := 0 } : Room).cells ({ frames := 0, cells := 0, slots := 0, locals := 0 } : Room).slots) (s₁.setTop (entryFrame m #[(.ref a1), (.int p2), (.long q3)] 4))
  rw [ef_rm5]
  refine own_aloadN X0 hx (hb hby d5_0) rfl rfl 1 rfl ?_
  refine own_getF X0 hx hZ hown (hw _ (List.mem_of_getElem? (i := 26) rfl)) Via.refl e0 F_barUntil_a1 (hb hby d5_1) 4 rfl ?_
  intro T1 X1 e1
  refine own_iloadN X1 hx (hb hby d5_4) rfl 5 rfl ?_
  refine own_ldJ X1 hx hZ e1 V_pa hj (.long xx) hv (hb hby d5_5) 6 rfl ?_
  refine own_ldcJ X1 hx hZ hown (hw _ (List.mem_of_getElem? (i := 34) rfl)) (hb hby d5_6) 9 rfl ?_
  refine own_lcmp X1 hx (hb hby d5_9) 10 rfl ?_
  by_cases hc10 : xx = (9223372036854775807 : Int64)
  · -- hc10
    refine own_ifN X1 hx (hb hby d5_10) (teq ((lw_eq _ _).mpr hc10)).2 13 (by decide) ?_
    refine own_ldcJ X1 hx hZ hown (hw _ (List.mem_of_getElem? (i := 34) rfl)) (hb hby d5_13) 16 rfl ?_
    refine own_goto X1 hx (hb hby d5_16) 27 (by decide) ?_
    refine own_retJ X1 hx hlk Bd.returns (hb hby d5_27) (by decide) (by decide) ?_
    show Q5 Z a1 p2 q3 pa kp nn vs dv xx h0 n0 _ T1.heap _
    rw [e1]
    exact ⟨by rw [own_bu, if_pos hc10], N0, rfl⟩
  · -- not hc10
    refine own_ifY X1 hx (hb hby d5_10) (feq (mt (lw_eq _ _).mp hc10)).2 19 (by decide) ?_
    refine own_aloadN X1 hx (hb hby d5_19) rfl rfl 20 rfl ?_
    refine own_getF X1 hx hZ hown (hw _ (List.mem_of_getElem? (i := 26) rfl)) Via.refl e1 F_barUntil_a1 (hb hby d5_20) 23 rfl ?_
    intro T2 X2 e2
    refine own_iloadN X2 hx (hb hby d5_23) rfl 24 rfl ?_
    refine own_ldJ X2 hx hZ e2 V_pa hj (.long xx) hv (hb hby d5_24) 25 rfl ?_
    refine own_lloadN X2 hx (hb hby d5_25) rfl 26 rfl ?_
    refine own_lmul X2 hx (hb hby d5_26) 27 rfl ?_
    refine own_retJ X2 hx hlk Bd.returns (hb hby d5_27) (by decide) (by decide) ?_
    show Q5 Z a1 p2 q3 pa kp nn vs dv xx h0 n0 _ T2.heap _
    rw [e2]
    exact ⟨by rw [own_bu, if_neg hc10], N0, rfl⟩
theorem d7_0 : decode jdk_30_method_1_code 0 = .ok (.aload_n 0, 1) := by decide +kernel
theorem d7_1 : decode jdk_30_method_1_code 1 = .ok (.invokespecial 1, 3) := by decide +kernel
theorem d7_4 : decode jdk_30_method_1_code 4 = .ok (.return_, 1) := by decide +kernel
theorem pn_rm7 : plainName "java/lang/Record" = true := by first | (simp [plainName, overriddenIn]; done) | decide +kernel
theorem ef_rm7 (m : MethodId) (x0 : Addr) : entryFrame m #[(.ref x0)] 1 = mkF m 0 #[.val (.ref x0)] [] := by first | (simp [entryFrame, mkF, argsToLocals, Value.category]; done) | rfl
def Q7 (Z : State) (a1 : Addr) (h0 : Heap) (n0 : Nat) (v : Option Value) (h : Heap) (L : List Loc) : Prop := v = none ∧ Fr n0 L ∧ h = h0
set_option maxRecDepth 65536 in
set_option maxHeartbeats 40000000 in
theorem rm7 (l : Launch) (Z : State) (a0 : Array Value) (hw : ∀ d ∈ tables_1, d.before a0 Z = true) (ws : List Jvm.Cond) (a1 : Addr) (h0 : Heap) (n0 : Nat) (Z0 : n0 ≤ h0.size) :
    MetFree l (⟨"java/lang/Record", "<init>", "()V"⟩ : MethodName) (head1 (Jvm.Cond.code (⟨"java/lang/Record", "<init>", "()V"⟩ : MethodName) jdk_30_method_1_code 1 none :: ws) ({ frames := 1, cells := 0, slots := 0, locals := 12 } : Room)) (fun a U => a = #[(.ref a1)] ∧ Z.Warmed39 U.vm ∧ U.heap = h0) (fun _ _ _ _ _ => True) (fun _ U o U' => ∃ v L, o = .returned v ∧ Q7 Z a1 h0 n0 v U'.heap L ∧ FrameEnd U o U' L ({ frames := 1, cells := 0, slots := 0, locals := 12 } : Room).cells ({ frames := 1, cells := 0, slots := 0, locals := 12 } : Room).slots) := by
  refine MetFree.of_bodySF (plainFor_of_name pn_rm7) hisR ?_
  intro p e s m args below meth c s₁ Bd hml0 hP hK
  obtain ⟨rfl, hZ, hh⟩ := hP
  have hx := Bd.exec
  have hby := Bd.bytes
  have hlk : meth.locks = false := BodyLoose.notSynchronized Bd
  have hml : c.maxLocals = 1 := hml0
  have hown : s.vm.findClass "java/lang/Record" = some m.cls := findClass_of_methodNamed Bd.named
  have hnm := (name_of_methodNamed Bd.named Bd.method).1
  have X0 : Stand p l e ({ frames := 1, cells := 0, slots := 0, locals := 12 } : Room) s m #[(.ref a1)] below meth c s₁ [] 0 0 := Stand.of_body Bd
  have e0 : s₁.heap = h0 := by rw [← hh, Bd.state]; rfl
  have N0 := Fr.nil n0
  show OwnW p e below (OwnG s (Q7 Z a1 h0 n0) ({ frames := 1, cells := 0, slots := 0, locals := 12 } : Room).cells ({ frames := 1, cells := 0, slots := 0, locals := 12 } : Room).slots) (s₁.setTop (entryFrame m #[(.ref a1)] 1))
  rw [ef_rm7]
  refine own_aloadN X0 hx (hb hby d7_0) rfl rfl 1 rfl ?_
  refine own_initO X0 hx hZ hown (hw _ (List.mem_of_getElem? (i := 70) rfl)) (hw _ (List.mem_of_getElem? (i := 9) rfl)) (hw _ (List.mem_of_getElem? (i := 10) rfl)) e0 (by rw [hml]; rfl) (hb hby d7_1) (by decide) 0 (Nat.le_of_eq rfl) (by decide) 4 rfl ?_
  intro T1 X1 e1
  refine own_retV X1 hx hlk Bd.returns (hb hby d7_4) (by decide) (by decide) ?_
  show Q7 Z a1 h0 n0 _ T1.heap _
  rw [e1]
  exact ⟨rfl, N0, rfl⟩
theorem d6_0 : decode prog_100_method_1_code 0 = .ok (.aload_n 0, 1) := by decide +kernel
theorem d6_1 : decode prog_100_method_1_code 1 = .ok (.invokespecial 1, 3) := by decide +kernel
theorem d6_4 : decode prog_100_method_1_code 4 = .ok (.aload_n 0, 1) := by decide +kernel
theorem d6_5 : decode prog_100_method_1_code 5 = .ok (.iload_n 1, 1) := by decide +kernel
theorem d6_6 : decode prog_100_method_1_code 6 = .ok (.putfield 7, 3) := by decide +kernel
theorem d6_9 : decode prog_100_method_1_code 9 = .ok (.aload_n 0, 1) := by decide +kernel
theorem d6_10 : decode prog_100_method_1_code 10 = .ok (.aload_n 2, 1) := by decide +kernel
theorem d6_11 : decode prog_100_method_1_code 11 = .ok (.putfield 13, 3) := by decide +kernel
theorem d6_14 : decode prog_100_method_1_code 14 = .ok (.aload_n 0, 1) := by decide +kernel
theorem d6_15 : decode prog_100_method_1_code 15 = .ok (.iload_n 3, 1) := by decide +kernel
theorem d6_16 : decode prog_100_method_1_code 16 = .ok (.putfield 17, 3) := by decide +kernel
theorem d6_19 : decode prog_100_method_1_code 19 = .ok (.return_, 1) := by decide +kernel
theorem pn_rm6 : plainName "com/example/holdfast/holdfast/Machine" = true := by first | (simp [plainName, overriddenIn]; done) | decide +kernel
theorem ef_rm6 (m : MethodId) (x0 : Addr) (x1 : Int32) (x2 : Addr) (x3 : Int32) : entryFrame m #[(.ref x0), (.int x1), (.ref x2), (.int x3)] 4 = mkF m 0 #[.val (.ref x0), .val (.int x1), .val (.ref x2), .val (.int x3)] [] := by first | (simp [entryFrame, mkF, argsToLocals, Value.category]; done) | rfl
def Q6 (Z : State) (a1 : Addr) (p2 : Int32) (a3 : Addr) (p4 : Int32) (u0 : Value) (u1 : Value) (u2 : Value) (h0 : Heap) (n0 : Nat) (v : Option Value) (h : Heap) (L : List Loc) : Prop := v = none ∧ Fr n0 L ∧ Keep h0 h [a1] ∧ Exa Z h a1 "com/example/holdfast/holdfast/Machine" ∧ Fld Z h a1 "com/example/holdfast/holdfast/Machine" "number" "I" (.int p2)
set_option maxRecDepth 65536 in
set_option maxHeartbeats 40000000 in
theorem rm6 (l : Launch) (Z : State) (a0 : Array Value) (hw : ∀ d ∈ tables_1, d.before a0 Z = true) (ws : List Jvm.Cond) (a1 : Addr) (p2 : Int32) (a3 : Addr) (p4 : Int32) (u0 : Value) (u1 : Value) (u2 : Value) (h0 : Heap) (n0 : Nat) (Z0 : n0 ≤ h0.size) (E_a1 : Exa Z h0 a1 "com/example/holdfast/holdfast/Machine") (g_a1 : n0 ≤ a1) (F_number_a1 : Fld Z h0 a1 "com/example/holdfast/holdfast/Machine" "number" "I" u0) (F_name_a1 : Fld Z h0 a1 "com/example/holdfast/holdfast/Machine" "name" "Ljava/lang/String;" u1) (F_nodes_a1 : Fld Z h0 a1 "com/example/holdfast/holdfast/Machine" "nodes" "I" u2) :
    MetFree l (⟨"com/example/holdfast/holdfast/Machine", "<init>", "(ILjava/lang/String;I)V"⟩ : MethodName) (head1 (Jvm.Cond.code (⟨"com/example/holdfast/holdfast/Machine", "<init>", "(ILjava/lang/String;I)V"⟩ : MethodName) prog_100_method_1_code 4 none :: ws) ({ frames := 2, cells := 0, slots := 0, locals := 24 } : Room)) (fun a U => a = #[(.ref a1), (.int p2), (.ref a3), (.int p4)] ∧ Z.Warmed39 U.vm ∧ U.heap = h0) (fun _ _ _ _ _ => True) (fun _ U o U' => ∃ v L, o = .returned v ∧ Q6 Z a1 p2 a3 p4 u0 u1 u2 h0 n0 v U'.heap L ∧ FrameEnd U o U' L ({ frames := 2, cells := 0, slots := 0, locals := 24 } : Room).cells ({ frames := 2, cells := 0, slots := 0, locals := 24 } : Room).slots) := by
  refine MetFree.of_bodySF (plainFor_of_name pn_rm6) hisR ?_
  intro p e s m args below meth c s₁ Bd hml0 hP hK
  obtain ⟨rfl, hZ, hh⟩ := hP
  have hx := Bd.exec
  have hby := Bd.bytes
  have hlk : meth.locks = false := BodyLoose.notSynchronized Bd
  have hml : c.maxLocals = 4 := hml0
  have hown : s.vm.findClass "com/example/holdfast/holdfast/Machine" = some m.cls := findClass_of_methodNamed Bd.named
  have hnm := (name_of_methodNamed Bd.named Bd.method).1
  have X0 : Stand p l e ({ frames := 2, cells := 0, slots := 0, locals := 24 } : Room) s m #[(.ref a1), (.int p2), (.ref a3), (.int p4)] below meth c s₁ [] 0 0 := Stand.of_body Bd
  have e0 : s₁.heap = h0 := by rw [← hh, Bd.state]; rfl
  have N0 := Fr.nil n0
  show OwnW p e below (OwnG s (Q6 Z a1 p2 a3 p4 u0 u1 u2 h0 n0) ({ frames := 2, cells := 0, slots := 0, locals := 24 } : Room).cells ({ frames := 2, cells := 0, slots := 0, locals := 24 } : Room).slots) (s₁.setTop (entryFrame m #[(.ref a1), (.int p2), (.ref a3), (.int p4)] 4))
  rw [ef_rm6]
  refine own_aloadN X0 hx (hb hby d6_0) rfl rfl 1 rfl ?_
  refine own_callI X0 hx hZ hown rfl (hw _ (List.mem_of_getElem? (i := 65) rfl)) (hw _ (List.mem_of_getElem? (i := 66) rfl)) (hw _ (List.mem_of_getElem? (i := 69) rfl)) (hw _ (List.mem_of_getElem? (i := 68) rfl)) (by decide) (rm7 l Z a0 hw [] a1 h0 n0 Z0) e0 (hb hby d6_1) pd___V rfl (by rw [hml]; rfl) (st := []) rfl 0 (Nat.le_of_eq rfl) (by decide) (by decide) (by decide) (by decide) 4 rfl ?_
  intro T1 v1 L1 X1 hQ1
  obtain ⟨rfl, N1q, e1⟩ := hQ1
  have N1 := Fr.app N0 N1q
  show OwnW p e below (OwnG s (Q6 Z a1 p2 a3 p4 u0 u1 u2 h0 n0) ({ frames := 2, cells := 0, slots := 0, locals := 24 } : Room).cells ({ frames := 2, cells := 0, slots := 0, locals := 24 } : Room).slots) (T1.setTop (mkF m 4 #[.val (.ref a1), .val (.int p2), .val (.ref a3), .val (.int p4)] []))
  refine own_aloadN X1 hx (hb hby d6_4) rfl rfl 5 rfl ?_
  refine own_iloadN X1 hx (hb hby d6_5) rfl 6 rfl ?_
  refine own_putF X1 hx hZ hown (hw _ (List.mem_of_getElem? (i := 71) rfl)) Via.refl e1 F_number_a1 E_a1 (Or.inr ⟨(hw _ (List.mem_of_getElem? (i := 72) rfl)), rfl, hnm⟩) (hw _ (List.mem_of_getElem? (i := 52) rfl)) (ty := .int) (by decide) rfl rfl (hb hby d6_6) 9 rfl ?_
  intro T2 h2 X2 e2 W2
  have Fw2 := F_number_a1.same W2
  have N2 := Fr.snoc X2 N1 g_a1
  refine own_aloadN X2 hx (hb hby d6_9) rfl rfl 10 rfl ?_
  refine own_aloadN X2 hx (hb hby d6_10) rfl rfl 11 rfl ?_
  have Fa1_name_3 := (F_name_a1.other W2 (Or.inr (slot_ne (Or.inr (hw _ (List.mem_of_getElem? (i := 74) rfl))) (Or.inr (hw _ (List.mem_of_getElem? (i := 72) rfl))) (by decide) (t := (.object "java/lang/String")) (t' := .int) (by decide) (by decide))))
  have Ea1_4 := (E_a1.wr W2)
  refine own_putF X2 hx hZ hown (hw _ (List.mem_of_getElem? (i := 73) rfl)) Via.refl e2 Fa1_name_3 Ea1_4 (Or.inr ⟨(hw _ (List.mem_of_getElem? (i := 74) rfl)), rfl, hnm⟩) (hw _ (List.mem_of_getElem? (i := 52) rfl)) (ty := (.object "java/lang/String")) (by decide) rfl rfl (hb hby d6_11) 14 rfl ?_
  intro T5 h5 X5 e5 W5
  have Fw5 := Fa1_name_3.same W5
  have N5 := Fr.snoc X5 N2 g_a1
  refine own_aloadN X5 hx (hb hby d6_14) rfl rfl 15 rfl ?_
  refine own_iloadN X5 hx (hb hby d6_15) rfl 16 rfl ?_
  have Fa1_nodes_6 := ((F_nodes_a1.other W2 (Or.inr (slot_ne (Or.inr (hw _ (List.mem_of_getElem? (i := 76) rfl))) (Or.inr (hw _ (List.mem_of_getElem? (i := 72) rfl))) (by decide) (t := .int) (t' := .int) (by decide) (by decide)))).other W5 (Or.inr (slot_ne (Or.inr (hw _ (List.mem_of_getElem? (i := 76) rfl))) (Or.inr (hw _ (List.mem_of_getElem? (i := 74) rfl))) (by decide) (t := .int) (t' := (.object "java/lang/String")) (by decide) (by decide))))
  have Ea1_7 := (Ea1_4.wr W5)
  refine own_putF X5 hx hZ hown (hw _ (List.mem_of_getElem? (i := 75) rfl)) Via.refl e5 Fa1_nodes_6 Ea1_7 (Or.inr ⟨(hw _ (List.mem_of_getElem? (i := 76) rfl)), rfl, hnm⟩) (hw _ (List.mem_of_getElem? (i := 52) rfl)) (ty := .int) (by decide) rfl rfl (hb hby d6_16) 19 rfl ?_
  intro T8 h8 X8 e8 W8
  have Fw8 := Fa1_nodes_6.same W8
  have N8 := Fr.snoc X8 N5 g_a1
  refine own_retV X8 hx hlk Bd.returns (hb hby d6_19) (by decide) (by decide) ?_
  have K9 : Keep h0 h8 [a1] := ((((Keep.refl h0 [a1]).wr W2 (Or.inl (List.mem_of_getElem? (i := 0) rfl))).wr W5 (Or.inl (List.mem_of_getElem? (i := 0) rfl))).wr W8 (Or.inl (List.mem_of_getElem? (i := 0) rfl)))
  have Ea1_10 := (Ea1_7.wr W8)
  have Fa1_number_11 := ((Fw2.other W5 (Or.inr (slot_ne (Or.inr (hw _ (List.mem_of_getElem? (i := 72) rfl))) (Or.inr (hw _ (List.mem_of_getElem? (i := 74) rfl))) (by decide) (t := .int) (t' := (.object "java/lang/String")) (by decide) (by decide)))).other W8 (Or.inr (slot_ne (Or.inr (hw _ (List.mem_of_getElem? (i := 72) rfl))) (Or.inr (hw _ (List.mem_of_getElem? (i := 76) rfl))) (by decide) (t := .int) (t' := .int) (by decide) (by decide))))
  show Q6 Z a1 p2 a3 p4 u0 u1 u2 h0 n0 _ T8.heap _
  rw [e8]
  exact ⟨rfl, N8, K9, Ea1_10, Fa1_number_11⟩
theorem d9_0 : decode prog_100_method_11_code 0 = .ok (.aload_n 0, 1) := by decide +kernel
theorem d9_1 : decode prog_100_method_11_code 1 = .ok (.getfield 7, 3) := by decide +kernel
theorem d9_4 : decode prog_100_method_11_code 4 = .ok (.ireturn, 1) := by decide +kernel
theorem pn_rm9 : plainName "com/example/holdfast/holdfast/Machine" = true := by first | (simp [plainName, overriddenIn]; done) | decide +kernel
theorem ef_rm9 (m : MethodId) (x0 : Addr) : entryFrame m #[(.ref x0)] 1 = mkF m 0 #[.val (.ref x0)] [] := by first | (simp [entryFrame, mkF, argsToLocals, Value.category]; done) | rfl
def Q9 (Z : State) (a1 : Addr) (w2 : Int32) (h0 : Heap) (n0 : Nat) (v : Option Value) (h : Heap) (L : List Loc) : Prop := v = some (.int w2) ∧ Fr n0 L ∧ h = h0
set_option maxRecDepth 65536 in
set_option maxHeartbeats 40000000 in
theorem rm9 (l : Launch) (Z : State) (a0 : Array Value) (hw : ∀ d ∈ tables_1, d.before a0 Z = true) (ws : List Jvm.Cond) (a1 : Addr) (w2 : Int32) (h0 : Heap) (n0 : Nat) (Z0 : n0 ≤ h0.size) (F_number_a1 : Fld Z h0 a1 "com/example/holdfast/holdfast/Machine" "number" "I" (.int w2)) :
    MetFree l (⟨"com/example/holdfast/holdfast/Machine", "number", "()I"⟩ : MethodName) (head1 (Jvm.Cond.code (⟨"com/example/holdfast/holdfast/Machine", "number", "()I"⟩ : MethodName) prog_100_method_11_code 1 (some .int) :: ws) ({ frames := 0, cells := 0, slots := 0, locals := 0 } : Room)) (fun a U => a = #[(.ref a1)] ∧ Z.Warmed39 U.vm ∧ U.heap = h0) (fun _ _ _ _ _ => True) (fun _ U o U' => ∃ v L, o = .returned v ∧ Q9 Z a1 w2 h0 n0 v U'.heap L ∧ FrameEnd U o U' L ({ frames := 0, cells := 0, slots := 0, locals := 0 } : Room).cells ({ frames := 0, cells := 0, slots := 0, locals := 0 } : Room).slots) := by
  refine MetFree.of_bodySF (plainFor_of_name pn_rm9) hisR ?_
  intro p e s m args below meth c s₁ Bd hml0 hP hK
  obtain ⟨rfl, hZ, hh⟩ := hP
  have hx := Bd.exec
  have hby := Bd.bytes
  have hlk : meth.locks = false := BodyLoose.notSynchronized Bd
  have hml : c.maxLocals = 1 := hml0
  have hown : s.vm.findClass "com/example/holdfast/holdfast/Machine" = some m.cls := findClass_of_methodNamed Bd.named
  have hnm := (name_of_methodNamed Bd.named Bd.method).1
  have X0 : Stand p l e ({ frames := 0, cells := 0, slots := 0, locals := 0 } : Room) s m #[(.ref a1)] below meth c s₁ [] 0 0 := Stand.of_body Bd
  have e0 : s₁.heap = h0 := by rw [← hh, Bd.state]; rfl
  have N0 := Fr.nil n0
  show OwnW p e below (OwnG s (Q9 Z a1 w2 h0 n0) ({ frames := 0, cells := 0, slots := 0, locals := 0 } : Room).cells ({ frames := 0, cells := 0, slots := 0, locals := 0 } : Room).slots) (s₁.setTop (entryFrame m #[(.ref a1)] 1))
  rw [ef_rm9]
  refine own_aloadN X0 hx (hb hby d9_0) rfl rfl 1 rfl ?_
  refine own_getF X0 hx hZ hown (hw _ (List.mem_of_getElem? (i := 71) rfl)) Via.refl e0 F_number_a1 (hb hby d9_1) 4 rfl ?_
  intro T1 X1 e1
  refine own_retI X1 hx hlk Bd.returns (hb hby d9_4) (by decide) (by decide) ?_
  show Q9 Z a1 w2 h0 n0 _ T1.heap _
  rw [e1]
  exact ⟨rfl, N0, rfl⟩
theorem d8_0 : decode prog_101_method_19_code 0 = .ok (.aload_n 1, 1) := by decide +kernel
theorem d8_1 : decode prog_101_method_19_code 1 = .ok (.invokevirtual 79, 3) := by decide +kernel
theorem d8_4 : decode prog_101_method_19_code 4 = .ok (.iconst 1, 1) := by decide +kernel
theorem d8_5 : decode prog_101_method_19_code 5 = .ok (.isub, 1) := by decide +kernel
theorem d8_6 : decode prog_101_method_19_code 6 = .ok (.istore 7, 2) := by decide +kernel
theorem d8_8 : decode prog_101_method_19_code 8 = .ok (.aload_n 0, 1) := by decide +kernel
theorem d8_9 : decode prog_101_method_19_code 9 = .ok (.getfield 26, 3) := by decide +kernel
theorem d8_12 : decode prog_101_method_19_code 12 = .ok (.iload 7, 2) := by decide +kernel
theorem d8_14 : decode prog_101_method_19_code 14 = .ok (.lload_n 2, 1) := by decide +kernel
theorem d8_15 : decode prog_101_method_19_code 15 = .ok (.lastore, 1) := by decide +kernel
theorem d8_16 : decode prog_101_method_19_code 16 = .ok (.aload_n 0, 1) := by decide +kernel
theorem d8_17 : decode prog_101_method_19_code 17 = .ok (.getfield 30, 3) := by decide +kernel
theorem d8_20 : decode prog_101_method_19_code 20 = .ok (.iload 7, 2) := by decide +kernel
theorem d8_22 : decode prog_101_method_19_code 22 = .ok (.lload 4, 2) := by decide +kernel
theorem d8_24 : decode prog_101_method_19_code 24 = .ok (.lastore, 1) := by decide +kernel
theorem d8_25 : decode prog_101_method_19_code 25 = .ok (.aload_n 0, 1) := by decide +kernel
theorem d8_26 : decode prog_101_method_19_code 26 = .ok (.getfield 33, 3) := by decide +kernel
theorem d8_29 : decode prog_101_method_19_code 29 = .ok (.iload 7, 2) := by decide +kernel
theorem d8_31 : decode prog_101_method_19_code 31 = .ok (.iload 6, 2) := by decide +kernel
theorem d8_33 : decode prog_101_method_19_code 33 = .ok (.iastore, 1) := by decide +kernel
theorem d8_34 : decode prog_101_method_19_code 34 = .ok (.return_, 1) := by decide +kernel
theorem pn_rm8_0 : plainName "com/example/holdfast/holdfast/MachineStates" = true := by first | (simp [plainName, overriddenIn]; done) | decide +kernel
theorem ef_rm8_0 (m : MethodId) (x0 : Addr) (x1 : Addr) (x2 : Int64) (x3 : Int64) (x4 : Int32) : entryFrame m #[(.ref x0), (.ref x1), (.long x2), (.long x3), (.int x4)] 8 = mkF m 0 #[.val (.ref x0), .val (.ref x1), .val (.long x2), .second, .val (.long x3), .second, .val (.int x4), .unset] [] := by first | (simp [entryFrame, mkF, argsToLocals, Value.category]; done) | rfl
def Q8_0 (Z : State) (a1 : Addr) (a2 : Addr) (q3 : Int64) (q4 : Int64) (p5 : Int32) (bf : Addr) (bu : Addr) (bn : Addr) (kf : ClassId) (ku : ClassId) (kn : ClassId) (f0 : Int64) (f1 : Int64) (f2 : Int64) (z0 : Int64) (z1 : Int64) (z2 : Int64) (y0 : Int32) (y1 : Int32) (y2 : Int32) (h0 : Heap) (n0 : Nat) (v : Option Value) (h : Heap) (L : List Loc) : Prop := v = none ∧ Fr n0 L ∧ Keep h0 h [bf, bu, bn] ∧ Arv Z h bf kf .long (3 : Int32) [(.long q3), (.long f1), (.long f2)] (.long (0 : Int64)) ∧ Arv Z h bu ku .long (3 : Int32) [(.long q4), (.long z1), (.long z2)] (.long (0 : Int64)) ∧ Arv Z h bn kn .int (3 : Int32) [(.int p5), (.int y1), (.int y2)] (.int (0 : Int32))
set_option maxRecDepth 65536 in
set_option maxHeartbeats 40000000 in
theorem rm8_0 (l : Launch) (Z : State) (a0 : Array Value) (hw : ∀ d ∈ tables_1, d.before a0 Z = true) (ws : List Jvm.Cond) (a1 : Addr) (a2 : Addr) (q3 : Int64) (q4 : Int64) (p5 : Int32) (bf : Addr) (bu : Addr) (bn : Addr) (kf : ClassId) (ku : ClassId) (kn : ClassId) (f0 : Int64) (f1 : Int64) (f2 : Int64) (z0 : Int64) (z1 : Int64) (z2 : Int64) (y0 : Int32) (y1 : Int32) (y2 : Int32) (h0 : Heap) (n0 : Nat) (Z0 : n0 ≤ h0.size) (F_barFrom_a1 : Fld Z h0 a1 "com/example/holdfast/holdfast/MachineStates" "barFrom" "[J" (.ref bf)) (F_barUntil_a1 : Fld Z h0 a1 "com/example/holdfast/holdfast/MachineStates" "barUntil" "[J" (.ref bu)) (F_barNodes_a1 : Fld Z h0 a1 "com/example/holdfast/holdfast/MachineStates" "barNodes" "[I" (.ref bn)) (E_a2 : Exa Z h0 a2 "com/example/holdfast/holdfast/Machine") (F_number_a2 : Fld Z h0 a2 "com/example/holdfast/holdfast/Machine" "number" "I" (.int (1 : Int32))) (V_bf : Arv Z h0 bf kf .long (3 : Int32) [(.long f0), (.long f1), (.long f2)] (.long (0 : Int64))) (V_bu : Arv Z h0 bu ku .long (3 : Int32) [(.long z0), (.long z1), (.long z2)] (.long (0 : Int64))) (V_bn : Arv Z h0 bn kn .int (3 : Int32) [(.int y0), (.int y1), (.int y2)] (.int (0 : Int32))) (g_bf : n0 ≤ bf) (g_bu : n0 ≤ bu) (g_bn : n0 ≤ bn) (ne_a1_bf : a1 ≠ bf) (ne_a1_bu : a1 ≠ bu) (ne_a1_bn : a1 ≠ bn) (ne_bf_bu : bf ≠ bu) (ne_bf_bn : bf ≠ bn) (ne_bu_bn : bu ≠ bn) :
    MetFree l (⟨"com/example/holdfast/holdfast/MachineStates", "bar", "(Lcom/example/holdfast/holdfast/Machine;JJI)V"⟩ : MethodName) (head1 (Jvm.Cond.code (⟨"com/example/holdfast/holdfast/MachineStates", "bar", "(Lcom/example/holdfast/holdfast/Machine;JJI)V"⟩ : MethodName) prog_101_method_19_code 8 none :: ws) ({ frames := 1, cells := 0, slots := 0, locals := 12 } : Room)) (fun a U => a = #[(.ref a1), (.ref a2), (.long q3), (.long q4), (.int p5)] ∧ Z.Warmed39 U.vm ∧ U.heap = h0) (fun _ _ _ _ _ => True) (fun _ U o U' => ∃ v L, o = .returned v ∧ Q8_0 Z a1 a2 q3 q4 p5 bf bu bn kf ku kn f0 f1 f2 z0 z1 z2 y0 y1 y2 h0 n0 v U'.heap L ∧ FrameEnd U o U' L ({ frames := 1, cells := 0, slots := 0, locals := 12 } : Room).cells ({ frames := 1, cells := 0, slots := 0, locals := 12 } : Room).slots) := by
  refine MetFree.of_bodySF (plainFor_of_name pn_rm8_0) hisR ?_
  intro p e s m args below meth c s₁ Bd hml0 hP hK
  obtain ⟨rfl, hZ, hh⟩ := hP
  have hx := Bd.exec
  have hby := Bd.bytes
  have hlk : meth.locks = false := BodyLoose.notSynchronized Bd
  have hml : c.maxLocals = 8 := hml0
  have hown : s.vm.findClass "com/example/holdfast/holdfast/MachineStates" = some m.cls := findClass_of_methodNamed Bd.named
  have hnm := (name_of_methodNamed Bd.named Bd.method).1
  have X0 : Stand p l e ({ frames := 1, cells := 0, slots := 0, locals := 12 } : Room) s m #[(.ref a1), (.ref a2), (.long q3), (.long q4), (.int p5)] below meth c s₁ [] 0 0 := Stand.of_body Bd
  have e0 : s₁.heap = h0 := by rw [← hh, Bd.state]; rfl
  have N0 := Fr.nil n0
  show OwnW p e below (OwnG s (Q8_0 Z a1 a2 q3 q4 p5 bf bu bn kf ku kn f0 f1 f2 z0 z1 z2 y0 y1 y2 h0 n0) ({ frames := 1, cells := 0, slots := 0, locals := 12 } : Room).cells ({ frames := 1, cells := 0, slots := 0, locals := 12 } : Room).slots) (s₁.setTop (entryFrame m #[(.ref a1), (.ref a2), (.long q3), (.long q4), (.int p5)] 8))
  rw [ef_rm8_0]
  refine own_aloadN X0 hx (hb hby d8_0) rfl rfl 1 rfl ?_
  refine own_callV X0 hx hZ hown (hw _ (List.mem_of_getElem? (i := 82) rfl)) (hw _ (List.mem_of_getElem? (i := 83) rfl)) (hw _ (List.mem_of_getElem? (i := 85) rfl)) (hw _ (List.mem_of_getElem? (i := 84) rfl)) (hw _ (List.mem_of_getElem? (i := 86) rfl)) (hw _ (List.mem_of_getElem? (i := 53) rfl)) (by decide) E_a2 (rm9 l Z a0 hw [] a2 (1 : Int32) h0 n0 Z0 F_number_a2) e0 (hb hby d8_1) pd___I rfl (by rw [hml]; rfl) (st := []) rfl 0 (Nat.le_of_eq rfl) (by decide) (by decide) (by decide) (by decide) 4 rfl ?_
  intro T1 v1 L1 X1 hQ1
  obtain ⟨rfl, N1q, e1⟩ := hQ1
  have N1 := Fr.app N0 N1q
  show OwnW p e below (OwnG s (Q8_0 Z a1 a2 q3 q4 p5 bf bu bn kf ku kn f0 f1 f2 z0 z1 z2 y0 y1 y2 h0 n0) ({ frames := 1, cells := 0, slots := 0, locals := 12 } : Room).cells ({ frames := 1, cells := 0, slots := 0, locals := 12 } : Room).slots) (T1.setTop (mkF m 4 #[.val (.ref a1), .val (.ref a2), .val (.long q3), .second, .val (.long q4), .second, .val (.int p5), .unset] [(.int (1 : Int32))]))
  refine own_iconst X1 hx (hb hby d8_4) (1 : Int32) rfl 5 rfl ?_
  refine own_isub X1 hx (hb hby d8_5) 6 rfl ?_
  show OwnW p e below (OwnG s (Q8_0 Z a1 a2 q3 q4 p5 bf bu bn kf ku kn f0 f1 f2 z0 z1 z2 y0 y1 y2 h0 n0) ({ frames := 1, cells := 0, slots := 0, locals := 12 } : Room).cells ({ frames := 1, cells := 0, slots := 0, locals := 12 } : Room).slots) (T1.setTop (mkF m 6 #[.val (.ref a1), .val (.ref a2), .val (.long q3), .second, .val (.long q4), .second, .val (.int p5), .unset] [(.int (0 : Int32))]))
  refine own_istore X1 hx (hb hby d8_6) #[.val (.ref a1), .val (.ref a2), .val (.long q3), .second, .val (.long q4), .second, .val (.int p5), .val (.int (0 : Int32))] rfl 8 rfl ?_
  refine own_aloadN X1 hx (hb hby d8_8) rfl rfl 9 rfl ?_
  refine own_getF X1 hx hZ hown (hw _ (List.mem_of_getElem? (i := 24) rfl)) Via.refl e1 F_barFrom_a1 (hb hby d8_9) 12 rfl ?_
  intro T2 X2 e2
  refine own_iload X2 hx (hb hby d8_12) rfl 14 rfl ?_
  refine own_lloadN X2 hx (hb hby d8_14) rfl 15 rfl ?_
  obtain ⟨cl3, Ar3, qk3, Sz3, Nz3, Hz3, Gz3⟩ := V_bf
  refine own_stJ X2 hx hZ e2 Ar3 (j := (0 : Int32)) (inb_of Sz3 ⟨by decide, by decide⟩) (hb hby d8_15) 16 rfl ?_
  intro T3 h3 X3 e3 W3
  have V3 : Arv Z h3 bf kf .long (3 : Int32) [(.long q3), (.long f1), (.long f2)] (.long (0 : Int64)) := Arv.set Ar3 qk3 Sz3 Nz3 Hz3 Gz3 rfl W3 0 rfl (Nat.le_of_ble_eq_true rfl)
  have N3 := Fr.snoc X3 N1 g_bf
  refine own_aloadN X3 hx (hb hby d8_16) rfl rfl 17 rfl ?_
  have Fa1_barUntil_4 := (F_barUntil_a1.other W3 (Or.inl ne_a1_bf))
  refine own_getF X3 hx hZ hown (hw _ (List.mem_of_getElem? (i := 26) rfl)) Via.refl e3 Fa1_barUntil_4 (hb hby d8_17) 20 rfl ?_
  intro T5 X5 e5
  refine own_iload X5 hx (hb hby d8_20) rfl 22 rfl ?_
  refine own_lload X5 hx (hb hby d8_22) rfl 24 rfl ?_
  have Vbu_6 := (V_bu.other W3 (Ne.symm ne_bf_bu))
  obtain ⟨cl7, Ar7, qk7, Sz7, Nz7, Hz7, Gz7⟩ := Vbu_6
  refine own_stJ X5 hx hZ e5 Ar7 (j := (0 : Int32)) (inb_of Sz7 ⟨by decide, by decide⟩) (hb hby d8_24) 25 rfl ?_
  intro T7 h7 X7 e7 W7
  have V7 : Arv Z h7 bu ku .long (3 : Int32) [(.long q4), (.long z1), (.long z2)] (.long (0 : Int64)) := Arv.set Ar7 qk7 Sz7 Nz7 Hz7 Gz7 rfl W7 0 rfl (Nat.le_of_ble_eq_true rfl)
  have N7 := Fr.snoc X7 N3 g_bu
  refine own_aloadN X7 hx (hb hby d8_25) rfl rfl 26 rfl ?_
  have Fa1_barNodes_8 := ((F_barNodes_a1.other W3 (Or.inl ne_a1_bf)).other W7 (Or.inl ne_a1_bu))
  refine own_getF X7 hx hZ hown (hw _ (List.mem_of_getElem? (i := 28) rfl)) Via.refl e7 Fa1_barNodes_8 (hb hby d8_26) 29 rfl ?_
  intro T9 X9 e9
  refine own_iload X9 hx (hb hby d8_29) rfl 31 rfl ?_
  refine own_iload X9 hx (hb hby d8_31) rfl 33 rfl ?_
  have Vbn_10 := ((V_bn.other W3 (Ne.symm ne_bf_bn)).other W7 (Ne.symm ne_bu_bn))
  obtain ⟨cl11, Ar11, qk11, Sz11, Nz11, Hz11, Gz11⟩ := Vbn_10
  refine own_stI X9 hx hZ e9 Ar11 (j := (0 : Int32)) (inb_of Sz11 ⟨by decide, by decide⟩) (hb hby d8_33) 34 rfl ?_
  intro T11 h11 X11 e11 W11
  have V11 : Arv Z h11 bn kn .int (3 : Int32) [(.int p5), (.int y1), (.int y2)] (.int (0 : Int32)) := Arv.set Ar11 qk11 Sz11 Nz11 Hz11 Gz11 rfl W11 0 rfl (Nat.le_of_ble_eq_true rfl)
  have N11 := Fr.snoc X11 N7 g_bn
  refine own_retV X11 hx hlk Bd.returns (hb hby d8_34) (by decide) (by decide) ?_
  have K12 : Keep h0 h11 [bf, bu, bn] := ((((Keep.refl h0 [bf, bu, bn]).wr W3 (Or.inl (List.mem_of_getElem? (i := 0) rfl))).wr W7 (Or.inl (List.mem_of_getElem? (i := 1) rfl))).wr W11 (Or.inl (List.mem_of_getElem? (i := 2) rfl)))
  have Vbf_13 := ((V3.other W7 ne_bf_bu).other W11 ne_bf_bn)
  have Vbu_14 := (V7.other W11 ne_bu_bn)
  show Q8_0 Z a1 a2 q3 q4 p5 bf bu bn kf ku kn f0 f1 f2 z0 z1 z2 y0 y1 y2 h0 n0 _ T11.heap _
  rw [e11]
  exact ⟨rfl, N11, K12, Vbf_13, Vbu_14, V11⟩
theorem pn_rm8_1 : plainName "com/example/holdfast/holdfast/MachineStates" = true := by first | (simp [plainName, overriddenIn]; done) | decide +kernel
theorem ef_rm8_1 (m : MethodId) (x0 : Addr) (x1 : Addr) (x2 : Int64) (x3 : Int64) (x4 : Int32) : entryFrame m #[(.ref x0), (.ref x1), (.long x2), (.long x3), (.int x4)] 8 = mkF m 0 #[.val (.ref x0), .val (.ref x1), .val (.long x2), .second, .val (.long x3), .second, .val (.int x4), .unset] [] := by first | (simp [entryFrame, mkF, argsToLocals, Value.category]; done) | rfl
def Q8_1 (Z : State) (a1 : Addr) (a2 : Addr) (q3 : Int64) (q4 : Int64) (p5 : Int32) (bf : Addr) (bu : Addr) (bn : Addr) (kf : ClassId) (ku : ClassId) (kn : ClassId) (f0 : Int64) (f1 : Int64) (f2 : Int64) (z0 : Int64) (z1 : Int64) (z2 : Int64) (y0 : Int32) (y1 : Int32) (y2 : Int32) (h0 : Heap) (n0 : Nat) (v : Option Value) (h : Heap) (L : List Loc) : Prop := v = none ∧ Fr n0 L ∧ Keep h0 h [bf, bu, bn] ∧ Arv Z h bf kf .long (3 : Int32) [(.long f0), (.long q3), (.long f2)] (.long (0 : Int64)) ∧ Arv Z h bu ku .long (3 : Int32) [(.long z0), (.long q4), (.long z2)] (.long (0 : Int64)) ∧ Arv Z h bn kn .int (3 : Int32) [(.int y0), (.int p5), (.int y2)] (.int (0 : Int32))
set_option maxRecDepth 65536 in
set_option maxHeartbeats 40000000 in
theorem rm8_1 (l : Launch) (Z : State) (a0 : Array Value) (hw : ∀ d ∈ tables_1, d.before a0 Z = true) (ws : List Jvm.Cond) (a1 : Addr) (a2 : Addr) (q3 : Int64) (q4 : Int64) (p5 : Int32) (bf : Addr) (bu : Addr) (bn : Addr) (kf : ClassId) (ku : ClassId) (kn : ClassId) (f0 : Int64) (f1 : Int64) (f2 : Int64) (z0 : Int64) (z1 : Int64) (z2 : Int64) (y0 : Int32) (y1 : Int32) (y2 : Int32) (h0 : Heap) (n0 : Nat) (Z0 : n0 ≤ h0.size) (F_barFrom_a1 : Fld Z h0 a1 "com/example/holdfast/holdfast/MachineStates" "barFrom" "[J" (.ref bf)) (F_barUntil_a1 : Fld Z h0 a1 "com/example/holdfast/holdfast/MachineStates" "barUntil" "[J" (.ref bu)) (F_barNodes_a1 : Fld Z h0 a1 "com/example/holdfast/holdfast/MachineStates" "barNodes" "[I" (.ref bn)) (E_a2 : Exa Z h0 a2 "com/example/holdfast/holdfast/Machine") (F_number_a2 : Fld Z h0 a2 "com/example/holdfast/holdfast/Machine" "number" "I" (.int (2 : Int32))) (V_bf : Arv Z h0 bf kf .long (3 : Int32) [(.long f0), (.long f1), (.long f2)] (.long (0 : Int64))) (V_bu : Arv Z h0 bu ku .long (3 : Int32) [(.long z0), (.long z1), (.long z2)] (.long (0 : Int64))) (V_bn : Arv Z h0 bn kn .int (3 : Int32) [(.int y0), (.int y1), (.int y2)] (.int (0 : Int32))) (g_bf : n0 ≤ bf) (g_bu : n0 ≤ bu) (g_bn : n0 ≤ bn) (ne_a1_bf : a1 ≠ bf) (ne_a1_bu : a1 ≠ bu) (ne_a1_bn : a1 ≠ bn) (ne_bf_bu : bf ≠ bu) (ne_bf_bn : bf ≠ bn) (ne_bu_bn : bu ≠ bn) :
    MetFree l (⟨"com/example/holdfast/holdfast/MachineStates", "bar", "(Lcom/example/holdfast/holdfast/Machine;JJI)V"⟩ : MethodName) (head1 (Jvm.Cond.code (⟨"com/example/holdfast/holdfast/MachineStates", "bar", "(Lcom/example/holdfast/holdfast/Machine;JJI)V"⟩ : MethodName) prog_101_method_19_code 8 none :: ws) ({ frames := 1, cells := 0, slots := 0, locals := 12 } : Room)) (fun a U => a = #[(.ref a1), (.ref a2), (.long q3), (.long q4), (.int p5)] ∧ Z.Warmed39 U.vm ∧ U.heap = h0) (fun _ _ _ _ _ => True) (fun _ U o U' => ∃ v L, o = .returned v ∧ Q8_1 Z a1 a2 q3 q4 p5 bf bu bn kf ku kn f0 f1 f2 z0 z1 z2 y0 y1 y2 h0 n0 v U'.heap L ∧ FrameEnd U o U' L ({ frames := 1, cells := 0, slots := 0, locals := 12 } : Room).cells ({ frames := 1, cells := 0, slots := 0, locals := 12 } : Room).slots) := by
  refine MetFree.of_bodySF (plainFor_of_name pn_rm8_1) hisR ?_
  intro p e s m args below meth c s₁ Bd hml0 hP hK
  obtain ⟨rfl, hZ, hh⟩ := hP
  have hx := Bd.exec
  have hby := Bd.bytes
  have hlk : meth.locks = false := BodyLoose.notSynchronized Bd
  have hml : c.maxLocals = 8 := hml0
  have hown : s.vm.findClass "com/example/holdfast/holdfast/MachineStates" = some m.cls := findClass_of_methodNamed Bd.named
  have hnm := (name_of_methodNamed Bd.named Bd.method).1
  have X0 : Stand p l e ({ frames := 1, cells := 0, slots := 0, locals := 12 } : Room) s m #[(.ref a1), (.ref a2), (.long q3), (.long q4), (.int p5)] below meth c s₁ [] 0 0 := Stand.of_body Bd
  have e0 : s₁.heap = h0 := by rw [← hh, Bd.state]; rfl
  have N0 := Fr.nil n0
  show OwnW p e below (OwnG s (Q8_1 Z a1 a2 q3 q4 p5 bf bu bn kf ku kn f0 f1 f2 z0 z1 z2 y0 y1 y2 h0 n0) ({ frames := 1, cells := 0, slots := 0, locals := 12 } : Room).cells ({ frames := 1, cells := 0, slots := 0, locals := 12 } : Room).slots) (s₁.setTop (entryFrame m #[(.ref a1), (.ref a2), (.long q3), (.long q4), (.int p5)] 8))
  rw [ef_rm8_1]
  refine own_aloadN X0 hx (hb hby d8_0) rfl rfl 1 rfl ?_
  refine own_callV X0 hx hZ hown (hw _ (List.mem_of_getElem? (i := 82) rfl)) (hw _ (List.mem_of_getElem? (i := 83) rfl)) (hw _ (List.mem_of_getElem? (i := 85) rfl)) (hw _ (List.mem_of_getElem? (i := 84) rfl)) (hw _ (List.mem_of_getElem? (i := 86) rfl)) (hw _ (List.mem_of_getElem? (i := 53) rfl)) (by decide) E_a2 (rm9 l Z a0 hw [] a2 (2 : Int32) h0 n0 Z0 F_number_a2) e0 (hb hby d8_1) pd___I rfl (by rw [hml]; rfl) (st := []) rfl 0 (Nat.le_of_eq rfl) (by decide) (by decide) (by decide) (by decide) 4 rfl ?_
  intro T1 v1 L1 X1 hQ1
  obtain ⟨rfl, N1q, e1⟩ := hQ1
  have N1 := Fr.app N0 N1q
  show OwnW p e below (OwnG s (Q8_1 Z a1 a2 q3 q4 p5 bf bu bn kf ku kn f0 f1 f2 z0 z1 z2 y0 y1 y2 h0 n0) ({ frames := 1, cells := 0, slots := 0, locals := 12 } : Room).cells ({ frames := 1, cells := 0, slots := 0, locals := 12 } : Room).slots) (T1.setTop (mkF m 4 #[.val (.ref a1), .val (.ref a2), .val (.long q3), .second, .val (.long q4), .second, .val (.int p5), .unset] [(.int (2 : Int32))]))
  refine own_iconst X1 hx (hb hby d8_4) (1 : Int32) rfl 5 rfl ?_
  refine own_isub X1 hx (hb hby d8_5) 6 rfl ?_
  show OwnW p e below (OwnG s (Q8_1 Z a1 a2 q3 q4 p5 bf bu bn kf ku kn f0 f1 f2 z0 z1 z2 y0 y1 y2 h0 n0) ({ frames := 1, cells := 0, slots := 0, locals := 12 } : Room).cells ({ frames := 1, cells := 0, slots := 0, locals := 12 } : Room).slots) (T1.setTop (mkF m 6 #[.val (.ref a1), .val (.ref a2), .val (.long q3), .second, .val (.long q4), .second, .val (.int p5), .unset] [(.int (1 : Int32))]))
  refine own_istore X1 hx (hb hby d8_6) #[.val (.ref a1), .val (.ref a2), .val (.long q3), .second, .val (.long q4), .second, .val (.int p5), .val (.int (1 : Int32))] rfl 8 rfl ?_
  refine own_aloadN X1 hx (hb hby d8_8) rfl rfl 9 rfl ?_
  refine own_getF X1 hx hZ hown (hw _ (List.mem_of_getElem? (i := 24) rfl)) Via.refl e1 F_barFrom_a1 (hb hby d8_9) 12 rfl ?_
  intro T2 X2 e2
  refine own_iload X2 hx (hb hby d8_12) rfl 14 rfl ?_
  refine own_lloadN X2 hx (hb hby d8_14) rfl 15 rfl ?_
  obtain ⟨cl3, Ar3, qk3, Sz3, Nz3, Hz3, Gz3⟩ := V_bf
  refine own_stJ X2 hx hZ e2 Ar3 (j := (1 : Int32)) (inb_of Sz3 ⟨by decide, by decide⟩) (hb hby d8_15) 16 rfl ?_
  intro T3 h3 X3 e3 W3
  have V3 : Arv Z h3 bf kf .long (3 : Int32) [(.long f0), (.long q3), (.long f2)] (.long (0 : Int64)) := Arv.set Ar3 qk3 Sz3 Nz3 Hz3 Gz3 rfl W3 1 rfl (Nat.le_of_ble_eq_true rfl)
  have N3 := Fr.snoc X3 N1 g_bf
  refine own_aloadN X3 hx (hb hby d8_16) rfl rfl 17 rfl ?_
  have Fa1_barUntil_4 := (F_barUntil_a1.other W3 (Or.inl ne_a1_bf))
  refine own_getF X3 hx hZ hown (hw _ (List.mem_of_getElem? (i := 26) rfl)) Via.refl e3 Fa1_barUntil_4 (hb hby d8_17) 20 rfl ?_
  intro T5 X5 e5
  refine own_iload X5 hx (hb hby d8_20) rfl 22 rfl ?_
  refine own_lload X5 hx (hb hby d8_22) rfl 24 rfl ?_
  have Vbu_6 := (V_bu.other W3 (Ne.symm ne_bf_bu))
  obtain ⟨cl7, Ar7, qk7, Sz7, Nz7, Hz7, Gz7⟩ := Vbu_6
  refine own_stJ X5 hx hZ e5 Ar7 (j := (1 : Int32)) (inb_of Sz7 ⟨by decide, by decide⟩) (hb hby d8_24) 25 rfl ?_
  intro T7 h7 X7 e7 W7
  have V7 : Arv Z h7 bu ku .long (3 : Int32) [(.long z0), (.long q4), (.long z2)] (.long (0 : Int64)) := Arv.set Ar7 qk7 Sz7 Nz7 Hz7 Gz7 rfl W7 1 rfl (Nat.le_of_ble_eq_true rfl)
  have N7 := Fr.snoc X7 N3 g_bu
  refine own_aloadN X7 hx (hb hby d8_25) rfl rfl 26 rfl ?_
  have Fa1_barNodes_8 := ((F_barNodes_a1.other W3 (Or.inl ne_a1_bf)).other W7 (Or.inl ne_a1_bu))
  refine own_getF X7 hx hZ hown (hw _ (List.mem_of_getElem? (i := 28) rfl)) Via.refl e7 Fa1_barNodes_8 (hb hby d8_26) 29 rfl ?_
  intro T9 X9 e9
  refine own_iload X9 hx (hb hby d8_29) rfl 31 rfl ?_
  refine own_iload X9 hx (hb hby d8_31) rfl 33 rfl ?_
  have Vbn_10 := ((V_bn.other W3 (Ne.symm ne_bf_bn)).other W7 (Ne.symm ne_bu_bn))
  obtain ⟨cl11, Ar11, qk11, Sz11, Nz11, Hz11, Gz11⟩ := Vbn_10
  refine own_stI X9 hx hZ e9 Ar11 (j := (1 : Int32)) (inb_of Sz11 ⟨by decide, by decide⟩) (hb hby d8_33) 34 rfl ?_
  intro T11 h11 X11 e11 W11
  have V11 : Arv Z h11 bn kn .int (3 : Int32) [(.int y0), (.int p5), (.int y2)] (.int (0 : Int32)) := Arv.set Ar11 qk11 Sz11 Nz11 Hz11 Gz11 rfl W11 1 rfl (Nat.le_of_ble_eq_true rfl)
  have N11 := Fr.snoc X11 N7 g_bn
  refine own_retV X11 hx hlk Bd.returns (hb hby d8_34) (by decide) (by decide) ?_
  have K12 : Keep h0 h11 [bf, bu, bn] := ((((Keep.refl h0 [bf, bu, bn]).wr W3 (Or.inl (List.mem_of_getElem? (i := 0) rfl))).wr W7 (Or.inl (List.mem_of_getElem? (i := 1) rfl))).wr W11 (Or.inl (List.mem_of_getElem? (i := 2) rfl)))
  have Vbf_13 := ((V3.other W7 ne_bf_bu).other W11 ne_bf_bn)
  have Vbu_14 := (V7.other W11 ne_bu_bn)
  show Q8_1 Z a1 a2 q3 q4 p5 bf bu bn kf ku kn f0 f1 f2 z0 z1 z2 y0 y1 y2 h0 n0 _ T11.heap _
  rw [e11]
  exact ⟨rfl, N11, K12, Vbf_13, Vbu_14, V11⟩
theorem pn_rm8_2 : plainName "com/example/holdfast/holdfast/MachineStates" = true := by first | (simp [plainName, overriddenIn]; done) | decide +kernel
theorem ef_rm8_2 (m : MethodId) (x0 : Addr) (x1 : Addr) (x2 : Int64) (x3 : Int64) (x4 : Int32) : entryFrame m #[(.ref x0), (.ref x1), (.long x2), (.long x3), (.int x4)] 8 = mkF m 0 #[.val (.ref x0), .val (.ref x1), .val (.long x2), .second, .val (.long x3), .second, .val (.int x4), .unset] [] := by first | (simp [entryFrame, mkF, argsToLocals, Value.category]; done) | rfl
def Q8_2 (Z : State) (a1 : Addr) (a2 : Addr) (q3 : Int64) (q4 : Int64) (p5 : Int32) (bf : Addr) (bu : Addr) (bn : Addr) (kf : ClassId) (ku : ClassId) (kn : ClassId) (f0 : Int64) (f1 : Int64) (f2 : Int64) (z0 : Int64) (z1 : Int64) (z2 : Int64) (y0 : Int32) (y1 : Int32) (y2 : Int32) (h0 : Heap) (n0 : Nat) (v : Option Value) (h : Heap) (L : List Loc) : Prop := v = none ∧ Fr n0 L ∧ Keep h0 h [bf, bu, bn] ∧ Arv Z h bf kf .long (3 : Int32) [(.long f0), (.long f1), (.long q3)] (.long (0 : Int64)) ∧ Arv Z h bu ku .long (3 : Int32) [(.long z0), (.long z1), (.long q4)] (.long (0 : Int64)) ∧ Arv Z h bn kn .int (3 : Int32) [(.int y0), (.int y1), (.int p5)] (.int (0 : Int32))
set_option maxRecDepth 65536 in
set_option maxHeartbeats 40000000 in
theorem rm8_2 (l : Launch) (Z : State) (a0 : Array Value) (hw : ∀ d ∈ tables_1, d.before a0 Z = true) (ws : List Jvm.Cond) (a1 : Addr) (a2 : Addr) (q3 : Int64) (q4 : Int64) (p5 : Int32) (bf : Addr) (bu : Addr) (bn : Addr) (kf : ClassId) (ku : ClassId) (kn : ClassId) (f0 : Int64) (f1 : Int64) (f2 : Int64) (z0 : Int64) (z1 : Int64) (z2 : Int64) (y0 : Int32) (y1 : Int32) (y2 : Int32) (h0 : Heap) (n0 : Nat) (Z0 : n0 ≤ h0.size) (F_barFrom_a1 : Fld Z h0 a1 "com/example/holdfast/holdfast/MachineStates" "barFrom" "[J" (.ref bf)) (F_barUntil_a1 : Fld Z h0 a1 "com/example/holdfast/holdfast/MachineStates" "barUntil" "[J" (.ref bu)) (F_barNodes_a1 : Fld Z h0 a1 "com/example/holdfast/holdfast/MachineStates" "barNodes" "[I" (.ref bn)) (E_a2 : Exa Z h0 a2 "com/example/holdfast/holdfast/Machine") (F_number_a2 : Fld Z h0 a2 "com/example/holdfast/holdfast/Machine" "number" "I" (.int (3 : Int32))) (V_bf : Arv Z h0 bf kf .long (3 : Int32) [(.long f0), (.long f1), (.long f2)] (.long (0 : Int64))) (V_bu : Arv Z h0 bu ku .long (3 : Int32) [(.long z0), (.long z1), (.long z2)] (.long (0 : Int64))) (V_bn : Arv Z h0 bn kn .int (3 : Int32) [(.int y0), (.int y1), (.int y2)] (.int (0 : Int32))) (g_bf : n0 ≤ bf) (g_bu : n0 ≤ bu) (g_bn : n0 ≤ bn) (ne_a1_bf : a1 ≠ bf) (ne_a1_bu : a1 ≠ bu) (ne_a1_bn : a1 ≠ bn) (ne_bf_bu : bf ≠ bu) (ne_bf_bn : bf ≠ bn) (ne_bu_bn : bu ≠ bn) :
    MetFree l (⟨"com/example/holdfast/holdfast/MachineStates", "bar", "(Lcom/example/holdfast/holdfast/Machine;JJI)V"⟩ : MethodName) (head1 (Jvm.Cond.code (⟨"com/example/holdfast/holdfast/MachineStates", "bar", "(Lcom/example/holdfast/holdfast/Machine;JJI)V"⟩ : MethodName) prog_101_method_19_code 8 none :: ws) ({ frames := 1, cells := 0, slots := 0, locals := 12 } : Room)) (fun a U => a = #[(.ref a1), (.ref a2), (.long q3), (.long q4), (.int p5)] ∧ Z.Warmed39 U.vm ∧ U.heap = h0) (fun _ _ _ _ _ => True) (fun _ U o U' => ∃ v L, o = .returned v ∧ Q8_2 Z a1 a2 q3 q4 p5 bf bu bn kf ku kn f0 f1 f2 z0 z1 z2 y0 y1 y2 h0 n0 v U'.heap L ∧ FrameEnd U o U' L ({ frames := 1, cells := 0, slots := 0, locals := 12 } : Room).cells ({ frames := 1, cells := 0, slots := 0, locals := 12 } : Room).slots) := by
  refine MetFree.of_bodySF (plainFor_of_name pn_rm8_2) hisR ?_
  intro p e s m args below meth c s₁ Bd hml0 hP hK
  obtain ⟨rfl, hZ, hh⟩ := hP
  have hx := Bd.exec
  have hby := Bd.bytes
  have hlk : meth.locks = false := BodyLoose.notSynchronized Bd
  have hml : c.maxLocals = 8 := hml0
  have hown : s.vm.findClass "com/example/holdfast/holdfast/MachineStates" = some m.cls := findClass_of_methodNamed Bd.named
  have hnm := (name_of_methodNamed Bd.named Bd.method).1
  have X0 : Stand p l e ({ frames := 1, cells := 0, slots := 0, locals := 12 } : Room) s m #[(.ref a1), (.ref a2), (.long q3), (.long q4), (.int p5)] below meth c s₁ [] 0 0 := Stand.of_body Bd
  have e0 : s₁.heap = h0 := by rw [← hh, Bd.state]; rfl
  have N0 := Fr.nil n0
  show OwnW p e below (OwnG s (Q8_2 Z a1 a2 q3 q4 p5 bf bu bn kf ku kn f0 f1 f2 z0 z1 z2 y0 y1 y2 h0 n0) ({ frames := 1, cells := 0, slots := 0, locals := 12 } : Room).cells ({ frames := 1, cells := 0, slots := 0, locals := 12 } : Room).slots) (s₁.setTop (entryFrame m #[(.ref a1), (.ref a2), (.long q3), (.long q4), (.int p5)] 8))
  rw [ef_rm8_2]
  refine own_aloadN X0 hx (hb hby d8_0) rfl rfl 1 rfl ?_
  refine own_callV X0 hx hZ hown (hw _ (List.mem_of_getElem? (i := 82) rfl)) (hw _ (List.mem_of_getElem? (i := 83) rfl)) (hw _ (List.mem_of_getElem? (i := 85) rfl)) (hw _ (List.mem_of_getElem? (i := 84) rfl)) (hw _ (List.mem_of_getElem? (i := 86) rfl)) (hw _ (List.mem_of_getElem? (i := 53) rfl)) (by decide) E_a2 (rm9 l Z a0 hw [] a2 (3 : Int32) h0 n0 Z0 F_number_a2) e0 (hb hby d8_1) pd___I rfl (by rw [hml]; rfl) (st := []) rfl 0 (Nat.le_of_eq rfl) (by decide) (by decide) (by decide) (by decide) 4 rfl ?_
  intro T1 v1 L1 X1 hQ1
  obtain ⟨rfl, N1q, e1⟩ := hQ1
  have N1 := Fr.app N0 N1q
  show OwnW p e below (OwnG s (Q8_2 Z a1 a2 q3 q4 p5 bf bu bn kf ku kn f0 f1 f2 z0 z1 z2 y0 y1 y2 h0 n0) ({ frames := 1, cells := 0, slots := 0, locals := 12 } : Room).cells ({ frames := 1, cells := 0, slots := 0, locals := 12 } : Room).slots) (T1.setTop (mkF m 4 #[.val (.ref a1), .val (.ref a2), .val (.long q3), .second, .val (.long q4), .second, .val (.int p5), .unset] [(.int (3 : Int32))]))
  refine own_iconst X1 hx (hb hby d8_4) (1 : Int32) rfl 5 rfl ?_
  refine own_isub X1 hx (hb hby d8_5) 6 rfl ?_
  show OwnW p e below (OwnG s (Q8_2 Z a1 a2 q3 q4 p5 bf bu bn kf ku kn f0 f1 f2 z0 z1 z2 y0 y1 y2 h0 n0) ({ frames := 1, cells := 0, slots := 0, locals := 12 } : Room).cells ({ frames := 1, cells := 0, slots := 0, locals := 12 } : Room).slots) (T1.setTop (mkF m 6 #[.val (.ref a1), .val (.ref a2), .val (.long q3), .second, .val (.long q4), .second, .val (.int p5), .unset] [(.int (2 : Int32))]))
  refine own_istore X1 hx (hb hby d8_6) #[.val (.ref a1), .val (.ref a2), .val (.long q3), .second, .val (.long q4), .second, .val (.int p5), .val (.int (2 : Int32))] rfl 8 rfl ?_
  refine own_aloadN X1 hx (hb hby d8_8) rfl rfl 9 rfl ?_
  refine own_getF X1 hx hZ hown (hw _ (List.mem_of_getElem? (i := 24) rfl)) Via.refl e1 F_barFrom_a1 (hb hby d8_9) 12 rfl ?_
  intro T2 X2 e2
  refine own_iload X2 hx (hb hby d8_12) rfl 14 rfl ?_
  refine own_lloadN X2 hx (hb hby d8_14) rfl 15 rfl ?_
  obtain ⟨cl3, Ar3, qk3, Sz3, Nz3, Hz3, Gz3⟩ := V_bf
  refine own_stJ X2 hx hZ e2 Ar3 (j := (2 : Int32)) (inb_of Sz3 ⟨by decide, by decide⟩) (hb hby d8_15) 16 rfl ?_
  intro T3 h3 X3 e3 W3
  have V3 : Arv Z h3 bf kf .long (3 : Int32) [(.long f0), (.long f1), (.long q3)] (.long (0 : Int64)) := Arv.set Ar3 qk3 Sz3 Nz3 Hz3 Gz3 rfl W3 2 rfl (Nat.le_of_ble_eq_true rfl)
  have N3 := Fr.snoc X3 N1 g_bf
  refine own_aloadN X3 hx (hb hby d8_16) rfl rfl 17 rfl ?_
  have Fa1_barUntil_4 := (F_barUntil_a1.other W3 (Or.inl ne_a1_bf))
  refine own_getF X3 hx hZ hown (hw _ (List.mem_of_getElem? (i := 26) rfl)) Via.refl e3 Fa1_barUntil_4 (hb hby d8_17) 20 rfl ?_
  intro T5 X5 e5
  refine own_iload X5 hx (hb hby d8_20) rfl 22 rfl ?_
  refine own_lload X5 hx (hb hby d8_22) rfl 24 rfl ?_
  have Vbu_6 := (V_bu.other W3 (Ne.symm ne_bf_bu))
  obtain ⟨cl7, Ar7, qk7, Sz7, Nz7, Hz7, Gz7⟩ := Vbu_6
  refine own_stJ X5 hx hZ e5 Ar7 (j := (2 : Int32)) (inb_of Sz7 ⟨by decide, by decide⟩) (hb hby d8_24) 25 rfl ?_
  intro T7 h7 X7 e7 W7
  have V7 : Arv Z h7 bu ku .long (3 : Int32) [(.long z0), (.long z1), (.long q4)] (.long (0 : Int64)) := Arv.set Ar7 qk7 Sz7 Nz7 Hz7 Gz7 rfl W7 2 rfl (Nat.le_of_ble_eq_true rfl)
  have N7 := Fr.snoc X7 N3 g_bu
  refine own_aloadN X7 hx (hb hby d8_25) rfl rfl 26 rfl ?_
  have Fa1_barNodes_8 := ((F_barNodes_a1.other W3 (Or.inl ne_a1_bf)).other W7 (Or.inl ne_a1_bu))
  refine own_getF X7 hx hZ hown (hw _ (List.mem_of_getElem? (i := 28) rfl)) Via.refl e7 Fa1_barNodes_8 (hb hby d8_26) 29 rfl ?_
  intro T9 X9 e9
  refine own_iload X9 hx (hb hby d8_29) rfl 31 rfl ?_
  refine own_iload X9 hx (hb hby d8_31) rfl 33 rfl ?_
  have Vbn_10 := ((V_bn.other W3 (Ne.symm ne_bf_bn)).other W7 (Ne.symm ne_bu_bn))
  obtain ⟨cl11, Ar11, qk11, Sz11, Nz11, Hz11, Gz11⟩ := Vbn_10
  refine own_stI X9 hx hZ e9 Ar11 (j := (2 : Int32)) (inb_of Sz11 ⟨by decide, by decide⟩) (hb hby d8_33) 34 rfl ?_
  intro T11 h11 X11 e11 W11
  have V11 : Arv Z h11 bn kn .int (3 : Int32) [(.int y0), (.int y1), (.int p5)] (.int (0 : Int32)) := Arv.set Ar11 qk11 Sz11 Nz11 Hz11 Gz11 rfl W11 2 rfl (Nat.le_of_ble_eq_true rfl)
  have N11 := Fr.snoc X11 N7 g_bn
  refine own_retV X11 hx hlk Bd.returns (hb hby d8_34) (by decide) (by decide) ?_
  have K12 : Keep h0 h11 [bf, bu, bn] := ((((Keep.refl h0 [bf, bu, bn]).wr W3 (Or.inl (List.mem_of_getElem? (i := 0) rfl))).wr W7 (Or.inl (List.mem_of_getElem? (i := 1) rfl))).wr W11 (Or.inl (List.mem_of_getElem? (i := 2) rfl)))
  have Vbf_13 := ((V3.other W7 ne_bf_bu).other W11 ne_bf_bn)
  have Vbu_14 := (V7.other W11 ne_bu_bn)
  show Q8_2 Z a1 a2 q3 q4 p5 bf bu bn kf ku kn f0 f1 f2 z0 z1 z2 y0 y1 y2 h0 n0 _ T11.heap _
  rw [e11]
  exact ⟨rfl, N11, K12, Vbf_13, Vbu_14, V11⟩
theorem own_mod (x : Int32) : (x &&& (2147483647 : Int32)) % (3 : Int32) = (0 : Int32) ∨ (x &&& (2147483647 : Int32)) % (3 : Int32) = (1 : Int32) ∨ (x &&& (2147483647 : Int32)) % (3 : Int32) = (2 : Int32) := by
  have h1 := c_mask x 2147483647 31 (by decide) (by decide)
  have h2 := (c_irem (x &&& 2147483647) 3 3 rfl).1 (by rw [h1]; omega)
  have h3 : ((x &&& 2147483647) % (3 : Int32)).toInt = x.toInt % (2 ^ 31 : Nat) % 3 := by rw [h2, h1]
  generalize (x &&& 2147483647) % (3 : Int32) = r at h3 ⊢
  have h4 : r.toInt = 0 ∨ r.toInt = 1 ∨ r.toInt = 2 := by omega
  rcases h4 with h | h | h
  · exact Or.inl (Int32.toInt_inj.mp h)
  · exact Or.inr (Or.inl (Int32.toInt_inj.mp h))
  · exact Or.inr (Or.inr (Int32.toInt_inj.mp h))
theorem own_law1 (q : Int64) : own_bu q (9223372036854775807 : Int64) = (9223372036854775807 : Int64) := by rw [own_bu, if_pos rfl]
theorem own_law2 (x : Int64) : own_bu (1 : Int64) x = x := by
  rw [own_bu]
  by_cases h : x = (9223372036854775807 : Int64)
  · rw [if_pos h, h]
  · rw [if_neg h, Int64.mul_one]
theorem own_law3 {v : Int32} {u u0 w q : Int64} (hu : u = (if v = (0 : Int32) then u0 else (9223372036854775807 : Int64))) (hw : w = (if v = (0 : Int32) then (if u0 = (9223372036854775807 : Int64) then (9223372036854775807 : Int64) else (u0 * q)) else (9223372036854775807 : Int64))) : own_bu q u = w := by
  rw [hu, hw, own_bu]
  by_cases h : v = (0 : Int32)
  · simp only [if_pos h]
  · simp only [if_neg h, if_true]
theorem own_strW : ∀ a ∈ Bundle.stringAtoms, a ∈ tables_1 := fun c hc => by
  simpa using (List.all_eq_true.mp (by decide +kernel : (Bundle.stringAtoms.all fun c => tables_1.contains c) = true)) c hc
theorem pn_rm0 : plainName "com/example/holdfast/holdfast/MachineStatesBarUntilPinLaw" = true := by first | (simp [plainName, overriddenIn]; done) | decide +kernel
theorem ef_rm0 (m : MethodId) (x0 : Int32) (x1 : Int64) (x2 : Int64) (x3 : Int64) (x4 : Int32) : entryFrame m #[(.int x0), (.long x1), (.long x2), (.long x3), (.int x4)] maxLocals = mkF m 0 #[.val (.int x0), .val (.long x1), .second, .val (.long x2), .second, .val (.long x3), .second, .val (.int x4), .unset, .unset, .unset, .unset, .unset, .unset, .unset, .unset, .unset, .unset, .unset, .unset, .unset, .unset, .unset] [] := by first | (simp [entryFrame, mkF, argsToLocals, Value.category, maxLocals]; done) | rfl
def Q0 (Z : State) (i0 : Int32) (j1 : Int64) (j3 : Int64) (j5 : Int64) (i7 : Int32) (fs : Addr) (h0 : Heap) (n0 : Nat) (v : Option Value) (h : Heap) (L : List Loc) : Prop := v = some (.int (1 : Int32)) ∧ Fr n0 L
set_option maxRecDepth 65536 in
set_option maxHeartbeats 40000000 in
theorem rm0 (l : Launch) (Z : State) (a0 : Array Value) (hw : ∀ d ∈ tables_1, d.before a0 Z = true) (ws : List Jvm.Cond) (i0 : Int32) (j1 : Int64) (j3 : Int64) (j5 : Int64) (i7 : Int32) (fs : Addr) (h0 : Heap) (n0 : Nat) (Z0 : n0 ≤ h0.size) (S_FROM_START : Sta Z h0 "com/example/holdfast/holdfast/MachineStates$Uptime" "FROM_START" "Lcom/example/holdfast/holdfast/MachineStates$Uptime;" (.ref fs)) (E_fs : Exa Z h0 fs "com/example/holdfast/holdfast/MachineStates$Uptime") :
    MetFree l x (head1 (Jvm.Cond.code x code maxLocals ret :: ws) room_1) (fun a U => a = #[(.int i0), (.long j1), (.long j3), (.long j5), (.int i7)] ∧ Z.Warmed39 U.vm ∧ U.heap = h0) (fun _ _ _ _ _ => True) (fun _ U o U' => ∃ v L, o = .returned v ∧ Q0 Z i0 j1 j3 j5 i7 fs h0 n0 v U'.heap L ∧ ReturnedEndW U o U' L room_1.cells room_1.slots) := by
  refine MetFree.of_bodySF (plainFor_of_name pn_rm0) hisR ?_
  intro p e s m args below meth c s₁ Bd hml0 hP hK
  obtain ⟨rfl, hZ, hh⟩ := hP
  have hx := Bd.exec
  have hby := Bd.bytes
  have hlk : meth.locks = false := BodyLoose.notSynchronized Bd
  have hml : c.maxLocals = 23 := hml0
  have hown : s.vm.findClass "com/example/holdfast/holdfast/MachineStatesBarUntilPinLaw" = some m.cls := findClass_of_methodNamed Bd.named
  have hnm := (name_of_methodNamed Bd.named Bd.method).1
  have X0 : Stand p l e room_1 s m #[(.int i0), (.long j1), (.long j3), (.long j5), (.int i7)] below meth c s₁ [] 0 0 := Stand.of_body Bd
  have e0 : s₁.heap = h0 := by rw [← hh, Bd.state]; rfl
  have N0 := Fr.nil n0
  show OwnW p e below (OwnGW s (Q0 Z i0 j1 j3 j5 i7 fs h0 n0) room_1.cells room_1.slots) (s₁.setTop (entryFrame m #[(.int i0), (.long j1), (.long j3), (.long j5), (.int i7)] maxLocals))
  rw [ef_rm0]
  refine own_iloadN X0 hx (hb hby at_0) rfl 1 rfl ?_
  refine own_ldcI X0 hx hZ hown (hw _ (List.mem_of_getElem? (i := 0) rfl)) (hb hby at_1) 3 rfl ?_
  refine own_iand X0 hx (hb hby at_3) 4 rfl ?_
  refine own_iconst X0 hx (hb hby at_4) (3 : Int32) rfl 5 rfl ?_
  refine own_irem X0 hx (hb hby at_5) (by decide) 6 rfl ?_
  refine own_istore X0 hx (hb hby at_6) #[.val (.int i0), .val (.long j1), .second, .val (.long j3), .second, .val (.long j5), .second, .val (.int i7), .val (.int ((i0 &&& (2147483647 : Int32)) % (3 : Int32))), .unset, .unset, .unset, .unset, .unset, .unset, .unset, .unset, .unset, .unset, .unset, .unset, .unset, .unset] rfl 8 rfl ?_
  rcases own_mod i0 with hk | hk | hk
  · -- case 0
    rw [hk]
    show OwnW p e below (OwnGW s (Q0 Z i0 j1 j3 j5 i7 fs h0 n0) room_1.cells room_1.slots) (s₁.setTop (mkF m 8 #[.val (.int i0), .val (.long j1), .second, .val (.long j3), .second, .val (.long j5), .second, .val (.int i7), .val (.int (0 : Int32)), .unset, .unset, .unset, .unset, .unset, .unset, .unset, .unset, .unset, .unset, .unset, .unset, .unset, .unset] []))
    refine own_iload X0 hx (hb hby at_8) rfl 10 rfl ?_
    refine own_iconst X0 hx (hb hby at_10) (1 : Int32) rfl 11 rfl ?_
    refine own_iadd X0 hx (hb hby at_11) 12 rfl ?_
    show OwnW p e below (OwnGW s (Q0 Z i0 j1 j3 j5 i7 fs h0 n0) room_1.cells room_1.slots) (s₁.setTop (mkF m 12 #[.val (.int i0), .val (.long j1), .second, .val (.long j3), .second, .val (.long j5), .second, .val (.int i7), .val (.int (0 : Int32)), .unset, .unset, .unset, .unset, .unset, .unset, .unset, .unset, .unset, .unset, .unset, .unset, .unset, .unset] [(.int (1 : Int32))]))
    refine own_iconst X0 hx (hb hby at_12) (3 : Int32) rfl 13 rfl ?_
    refine own_irem X0 hx (hb hby at_13) (by decide) 14 rfl ?_
    show OwnW p e below (OwnGW s (Q0 Z i0 j1 j3 j5 i7 fs h0 n0) room_1.cells room_1.slots) (s₁.setTop (mkF m 14 #[.val (.int i0), .val (.long j1), .second, .val (.long j3), .second, .val (.long j5), .second, .val (.int i7), .val (.int (0 : Int32)), .unset, .unset, .unset, .unset, .unset, .unset, .unset, .unset, .unset, .unset, .unset, .unset, .unset, .unset] [(.int (1 : Int32))]))
    refine own_istore X0 hx (hb hby at_14) #[.val (.int i0), .val (.long j1), .second, .val (.long j3), .second, .val (.long j5), .second, .val (.int i7), .val (.int (0 : Int32)), .val (.int (1 : Int32)), .unset, .unset, .unset, .unset, .unset, .unset, .unset, .unset, .unset, .unset, .unset, .unset, .unset] rfl 16 rfl ?_
    refine own_iload X0 hx (hb hby at_16) rfl 18 rfl ?_
    refine own_iconst X0 hx (hb hby at_18) (1 : Int32) rfl 19 rfl ?_
    refine own_iand X0 hx (hb hby at_19) 20 rfl ?_
    suffices J28 : ∀ v28 : Int32, v28 = (if (i7 &&& (1 : Int32)) = (0 : Int32) then (0 : Int32) else (1 : Int32)) → OwnW p e below (OwnGW s (Q0 Z i0 j1 j3 j5 i7 fs h0 n0) room_1.cells room_1.slots) (s₁.setTop (mkF m 28 #[.val (.int i0), .val (.long j1), .second, .val (.long j3), .second, .val (.long j5), .second, .val (.int i7), .val (.int (0 : Int32)), .val (.int (1 : Int32)), .unset, .unset, .unset, .unset, .unset, .unset, .unset, .unset, .unset, .unset, .unset, .unset, .unset] [(.int v28)])) by
      by_cases hc20 : (i7 &&& (1 : Int32)) = (0 : Int32)
      · -- hc20
        refine own_ifY X0 hx (hb hby at_20) (teq hc20).1 27 (by decide) ?_
        refine own_iconst X0 hx (hb hby at_27) (0 : Int32) rfl 28 rfl ?_
        exact J28 _ (by rw [if_pos hc20])
      · -- not hc20
        refine own_ifN X0 hx (hb hby at_20) (feq hc20).1 23 (by decide) ?_
        refine own_iconst X0 hx (hb hby at_23) (1 : Int32) rfl 24 rfl ?_
        refine own_goto X0 hx (hb hby at_24) 28 (by decide) ?_
        exact J28 _ (by rw [if_neg hc20])
    intro v28 hv28
    refine own_istore X0 hx (hb hby at_28) #[.val (.int i0), .val (.long j1), .second, .val (.long j3), .second, .val (.long j5), .second, .val (.int i7), .val (.int (0 : Int32)), .val (.int (1 : Int32)), .val (.int v28), .unset, .unset, .unset, .unset, .unset, .unset, .unset, .unset, .unset, .unset, .unset, .unset] rfl 30 rfl ?_
    refine own_iload X0 hx (hb hby at_30) rfl 32 rfl ?_
    suffices J42 : ∀ v42 : Int64, v42 = (if v28 = (0 : Int32) then j3 else (9223372036854775807 : Int64)) → OwnW p e below (OwnGW s (Q0 Z i0 j1 j3 j5 i7 fs h0 n0) room_1.cells room_1.slots) (s₁.setTop (mkF m 42 #[.val (.int i0), .val (.long j1), .second, .val (.long j3), .second, .val (.long j5), .second, .val (.int i7), .val (.int (0 : Int32)), .val (.int (1 : Int32)), .val (.int v28), .unset, .unset, .unset, .unset, .unset, .unset, .unset, .unset, .unset, .unset, .unset, .unset] [(.long v42)])) by
      by_cases hc32 : v28 = (0 : Int32)
      · -- hc32
        refine own_ifY X0 hx (hb hby at_32) (teq hc32).1 41 (by decide) ?_
        refine own_lloadN X0 hx (hb hby at_41) rfl 42 rfl ?_
        exact J42 _ (by rw [if_pos hc32])
      · -- not hc32
        refine own_ifN X0 hx (hb hby at_32) (feq hc32).1 35 (by decide) ?_
        refine own_ldcJ X0 hx hZ hown (hw _ (List.mem_of_getElem? (i := 1) rfl)) (hb hby at_35) 38 rfl ?_
        refine own_goto X0 hx (hb hby at_38) 42 (by decide) ?_
        exact J42 _ (by rw [if_neg hc32])
    intro v42 hv42
    refine own_lstore X0 hx (hb hby at_42) #[.val (.int i0), .val (.long j1), .second, .val (.long j3), .second, .val (.long j5), .second, .val (.int i7), .val (.int (0 : Int32)), .val (.int (1 : Int32)), .val (.int v28), .val (.long v42), .second, .unset, .unset, .unset, .unset, .unset, .unset, .unset, .unset, .unset, .unset] rfl 44 rfl ?_
    refine own_iconst X0 hx (hb hby at_44) (1 : Int32) rfl 45 rfl ?_
    refine own_iload X0 hx (hb hby at_45) rfl 47 rfl ?_
    refine own_iconst X0 hx (hb hby at_47) (1 : Int32) rfl 48 rfl ?_
    refine own_iushr X0 hx (hb hby at_48) 49 rfl ?_
    refine own_iconst X0 hx (hb hby at_49) (3 : Int32) rfl 50 rfl ?_
    refine own_iand X0 hx (hb hby at_50) 51 rfl ?_
    refine own_iadd X0 hx (hb hby at_51) 52 rfl ?_
    refine own_istore X0 hx (hb hby at_52) #[.val (.int i0), .val (.long j1), .second, .val (.long j3), .second, .val (.long j5), .second, .val (.int i7), .val (.int (0 : Int32)), .val (.int (1 : Int32)), .val (.int v28), .val (.long v42), .second, .val (.int ((1 : Int32) + (((i7.toUInt32 >>> ((1 : Int32) &&& 31).toUInt32).toInt32) &&& (3 : Int32)))), .unset, .unset, .unset, .unset, .unset, .unset, .unset, .unset, .unset] rfl 54 rfl ?_
    refine own_new X0 hx hZ hown (hw _ (List.mem_of_getElem? (i := 2) rfl)) (hw _ (List.mem_of_getElem? (i := 3) rfl)) (hw _ (List.mem_of_getElem? (i := 4) rfl)) e0 (hb hby at_54) (by decide) (by decide) 57 rfl ?_
    intro T1 h1 b1 qe1 X1 e1 E1 A1 D1
    have ne_fs_b1 : fs ≠ b1 := Nat.ne_of_lt (Nat.lt_of_lt_of_le E_fs.lt (Nat.le_of_eq qe1.symm))
    have g_b1 : n0 ≤ b1 := Nat.le_trans Z0 (Nat.le_of_eq qe1.symm)
    have F1_isDown : Fld Z h1 b1 "com/example/holdfast/holdfast/MachineStates" "isDown" "[Z" .null := D1 (Or.inr (hw _ (List.mem_of_getElem? (i := 13) rfl))) (ty := (.array .boolean)) (by decide)
    have F1_lost : Fld Z h1 b1 "com/example/holdfast/holdfast/MachineStates" "lost" "[I" .null := D1 (Or.inr (hw _ (List.mem_of_getElem? (i := 16) rfl))) (ty := (.array .int)) (by decide)
    have F1_draining : Fld Z h1 b1 "com/example/holdfast/holdfast/MachineStates" "draining" "[I" .null := D1 (Or.inr (hw _ (List.mem_of_getElem? (i := 18) rfl))) (ty := (.array .int)) (by decide)
    have F1_gates : Fld Z h1 b1 "com/example/holdfast/holdfast/MachineStates" "gates" "[Lcom/example/holdfast/holdfast/MachineStates$Gate;" .null := D1 (Or.inr (hw _ (List.mem_of_getElem? (i := 22) rfl))) (ty := (.array (.object "com/example/holdfast/holdfast/MachineStates$Gate"))) (by decide)
    have F1_barFrom : Fld Z h1 b1 "com/example/holdfast/holdfast/MachineStates" "barFrom" "[J" .null := D1 (Or.inr (hw _ (List.mem_of_getElem? (i := 25) rfl))) (ty := (.array .long)) (by decide)
    have F1_barUntil : Fld Z h1 b1 "com/example/holdfast/holdfast/MachineStates" "barUntil" "[J" .null := D1 (Or.inr (hw _ (List.mem_of_getElem? (i := 27) rfl))) (ty := (.array .long)) (by decide)
    have F1_barNodes : Fld Z h1 b1 "com/example/holdfast/holdfast/MachineStates" "barNodes" "[I" .null := D1 (Or.inr (hw _ (List.mem_of_getElem? (i := 29) rfl))) (ty := (.array .int)) (by decide)
    have F1_uptimes : Fld Z h1 b1 "com/example/holdfast/holdfast/MachineStates" "uptimes" "[Lcom/example/holdfast/holdfast/MachineStates$Uptime;" .null := D1 (Or.inr (hw _ (List.mem_of_getElem? (i := 33) rfl))) (ty := (.array (.object "com/example/holdfast/holdfast/MachineStates$Uptime"))) (by decide)
    refine own_dup X1 hx (hb hby at_57) rfl 58 rfl ?_
    refine own_iconst X1 hx (hb hby at_58) (3 : Int32) rfl 59 rfl ?_
    have ScomexampleholdfastholdfastMachineStatesUptime_FROM_START_2 := (S_FROM_START.ext E1)
    have Efs_3 := (E_fs.ext E1)
    have Zs4 : n0 ≤ h1.size := (Nat.le_trans Z0 E1.1)
    refine own_callI X1 hx hZ hown rfl (hw _ (List.mem_of_getElem? (i := 5) rfl)) (hw _ (List.mem_of_getElem? (i := 6) rfl)) (hw _ (List.mem_of_getElem? (i := 7) rfl)) (hw _ (List.mem_of_getElem? (i := 4) rfl)) (by decide) (rm1 l Z a0 hw [] b1 .null .null .null .null .null .null .null .null fs h1 n0 Zs4 A1 g_b1 F1_isDown F1_lost F1_draining F1_gates F1_barFrom F1_barUntil F1_barNodes F1_uptimes ScomexampleholdfastholdfastMachineStatesUptime_FROM_START_2 Efs_3 ne_fs_b1) e1 (hb hby at_59) pd__I_V rfl (by rw [hml]; rfl) (st := [(.ref b1)]) rfl 1 (Nat.le_of_eq rfl) (by decide) (by decide) (by decide) (by decide) 62 rfl ?_
    intro T5 v5 L5 X5 hQ5
    obtain ⟨bf_5, bu_5, bn_5, kf_5, ku_5, kn_5, rfl, N5q, Kc5, P5_0, P5_1, P5_2, P5_3, P5_4, P5_5, P5_6, P5_7, P5_8, P5_9, P5_10, P5_11, P5_12⟩ := hQ5
    have N5 := Fr.app N0 N5q
    have ne_fs_bf_5 : fs ≠ bf_5 := Nat.ne_of_lt (Nat.lt_of_lt_of_le Efs_3.lt P5_0)
    have ne_b1_bf_5 : b1 ≠ bf_5 := Nat.ne_of_lt (Nat.lt_of_lt_of_le A1.lt P5_0)
    have g_bf_5 : n0 ≤ bf_5 := Nat.le_trans Zs4 P5_0
    have ne_fs_bu_5 : fs ≠ bu_5 := Nat.ne_of_lt (Nat.lt_of_lt_of_le Efs_3.lt P5_1)
    have ne_b1_bu_5 : b1 ≠ bu_5 := Nat.ne_of_lt (Nat.lt_of_lt_of_le A1.lt P5_1)
    have g_bu_5 : n0 ≤ bu_5 := Nat.le_trans Zs4 P5_1
    have ne_fs_bn_5 : fs ≠ bn_5 := Nat.ne_of_lt (Nat.lt_of_lt_of_le Efs_3.lt P5_2)
    have ne_b1_bn_5 : b1 ≠ bn_5 := Nat.ne_of_lt (Nat.lt_of_lt_of_le A1.lt P5_2)
    have g_bn_5 : n0 ≤ bn_5 := Nat.le_trans Zs4 P5_2
    show OwnW p e below (OwnGW s (Q0 Z i0 j1 j3 j5 i7 fs h0 n0) room_1.cells room_1.slots) (T5.setTop (mkF m 62 #[.val (.int i0), .val (.long j1), .second, .val (.long j3), .second, .val (.long j5), .second, .val (.int i7), .val (.int (0 : Int32)), .val (.int (1 : Int32)), .val (.int v28), .val (.long v42), .second, .val (.int ((1 : Int32) + (((i7.toUInt32 >>> ((1 : Int32) &&& 31).toUInt32).toInt32) &&& (3 : Int32)))), .unset, .unset, .unset, .unset, .unset, .unset, .unset, .unset, .unset] [(.ref b1)]))
    refine own_astore X5 hx (hb hby at_62) rfl #[.val (.int i0), .val (.long j1), .second, .val (.long j3), .second, .val (.long j5), .second, .val (.int i7), .val (.int (0 : Int32)), .val (.int (1 : Int32)), .val (.int v28), .val (.long v42), .second, .val (.int ((1 : Int32) + (((i7.toUInt32 >>> ((1 : Int32) &&& 31).toUInt32).toInt32) &&& (3 : Int32)))), .val (.ref b1), .unset, .unset, .unset, .unset, .unset, .unset, .unset, .unset] rfl 64 rfl ?_
    refine own_aload X5 hx (hb hby at_64) rfl rfl 66 rfl ?_
    refine own_iload X5 hx (hb hby at_66) rfl 68 rfl ?_
    refine own_lload X5 hx (hb hby at_68) rfl 70 rfl ?_
    have Zs6 : n0 ≤ T5.heap.size := (Nat.le_trans Zs4 Kc5.1)
    refine own_callV X5 hx hZ hown (hw _ (List.mem_of_getElem? (i := 46) rfl)) (hw _ (List.mem_of_getElem? (i := 47) rfl)) (hw _ (List.mem_of_getElem? (i := 49) rfl)) (hw _ (List.mem_of_getElem? (i := 48) rfl)) (hw _ (List.mem_of_getElem? (i := 50) rfl)) (hw _ (List.mem_of_getElem? (i := 4) rfl)) (by decide) P5_6 (rm5 l Z a0 hw [] b1 (0 : Int32) j5 bu_5 ku_5 (3 : Int32) [(.long (9223372036854775807 : Int64)), (.long (9223372036854775807 : Int64)), (.long (9223372036854775807 : Int64))] (.long (0 : Int64)) (9223372036854775807 : Int64) T5.heap n0 Zs6 P5_8 P5_11 ⟨by decide, by decide⟩ rfl) rfl (hb hby at_70) pd__IJ_J rfl (by rw [hml]; rfl) (st := []) rfl 0 (Nat.le_of_eq rfl) (by decide) (by decide) (by decide) (by decide) 73 rfl ?_
    intro T7 v7 L7 X7 hQ7
    obtain ⟨rfl, N7q, e7⟩ := hQ7
    have N7 := Fr.app N5 N7q
    show OwnW p e below (OwnGW s (Q0 Z i0 j1 j3 j5 i7 fs h0 n0) room_1.cells room_1.slots) (T7.setTop (mkF m 73 #[.val (.int i0), .val (.long j1), .second, .val (.long j3), .second, .val (.long j5), .second, .val (.int i7), .val (.int (0 : Int32)), .val (.int (1 : Int32)), .val (.int v28), .val (.long v42), .second, .val (.int ((1 : Int32) + (((i7.toUInt32 >>> ((1 : Int32) &&& 31).toUInt32).toInt32) &&& (3 : Int32)))), .val (.ref b1), .unset, .unset, .unset, .unset, .unset, .unset, .unset, .unset] [(.long (own_bu j5 (9223372036854775807 : Int64)))]))
    refine own_ldcJ X7 hx hZ hown (hw _ (List.mem_of_getElem? (i := 1) rfl)) (hb hby at_73) 76 rfl ?_
    refine own_lcmp X7 hx (hb hby at_76) 77 rfl ?_
    have hc77 : (own_bu j5 (9223372036854775807 : Int64)) = (9223372036854775807 : Int64) := own_law1 _
    refine own_ifN X7 hx (hb hby at_77) (teq ((lw_eq _ _).mpr hc77)).2 80 (by decide) ?_
    refine own_iconst X7 hx (hb hby at_80) (1 : Int32) rfl 81 rfl ?_
    refine own_goto X7 hx (hb hby at_81) 85 (by decide) ?_
    refine own_istore X7 hx (hb hby at_85) #[.val (.int i0), .val (.long j1), .second, .val (.long j3), .second, .val (.long j5), .second, .val (.int i7), .val (.int (0 : Int32)), .val (.int (1 : Int32)), .val (.int v28), .val (.long v42), .second, .val (.int ((1 : Int32) + (((i7.toUInt32 >>> ((1 : Int32) &&& 31).toUInt32).toInt32) &&& (3 : Int32)))), .val (.ref b1), .val (.int (1 : Int32)), .unset, .unset, .unset, .unset, .unset, .unset, .unset] rfl 87 rfl ?_
    refine own_new X7 hx hZ hown (hw _ (List.mem_of_getElem? (i := 51) rfl)) (hw _ (List.mem_of_getElem? (i := 52) rfl)) (hw _ (List.mem_of_getElem? (i := 53) rfl)) e7 (hb hby at_87) (by decide) (by decide) 90 rfl ?_
    intro T8 h8 b8 qe8 X8 e8 E8 A8 D8
    have Efs_9 := (Efs_3.keep Kc5)
    have ne_fs_b8 : fs ≠ b8 := Nat.ne_of_lt (Nat.lt_of_lt_of_le Efs_9.lt (Nat.le_of_eq qe8.symm))
    have ne_b1_b8 : b1 ≠ b8 := Nat.ne_of_lt (Nat.lt_of_lt_of_le P5_6.lt (Nat.le_of_eq qe8.symm))
    have ne_bf_5_b8 : bf_5 ≠ b8 := Nat.ne_of_lt (Nat.lt_of_lt_of_le P5_10.lt (Nat.le_of_eq qe8.symm))
    have ne_bu_5_b8 : bu_5 ≠ b8 := Nat.ne_of_lt (Nat.lt_of_lt_of_le P5_11.lt (Nat.le_of_eq qe8.symm))
    have ne_bn_5_b8 : bn_5 ≠ b8 := Nat.ne_of_lt (Nat.lt_of_lt_of_le P5_12.lt (Nat.le_of_eq qe8.symm))
    have g_b8 : n0 ≤ b8 := Nat.le_trans Zs6 (Nat.le_of_eq qe8.symm)
    have F8_number : Fld Z h8 b8 "com/example/holdfast/holdfast/Machine" "number" "I" (.int (0 : Int32)) := D8 (Or.inr (hw _ (List.mem_of_getElem? (i := 72) rfl))) (ty := .int) (by decide)
    have F8_name : Fld Z h8 b8 "com/example/holdfast/holdfast/Machine" "name" "Ljava/lang/String;" .null := D8 (Or.inr (hw _ (List.mem_of_getElem? (i := 74) rfl))) (ty := (.object "java/lang/String")) (by decide)
    have F8_nodes : Fld Z h8 b8 "com/example/holdfast/holdfast/Machine" "nodes" "I" (.int (0 : Int32)) := D8 (Or.inr (hw _ (List.mem_of_getElem? (i := 76) rfl))) (ty := .int) (by decide)
    refine own_dup X8 hx (hb hby at_90) rfl 91 rfl ?_
    refine own_iload X8 hx (hb hby at_91) rfl 93 rfl ?_
    refine own_iconst X8 hx (hb hby at_93) (1 : Int32) rfl 94 rfl ?_
    refine own_iadd X8 hx (hb hby at_94) 95 rfl ?_
    show OwnW p e below (OwnGW s (Q0 Z i0 j1 j3 j5 i7 fs h0 n0) room_1.cells room_1.slots) (T8.setTop (mkF m 95 #[.val (.int i0), .val (.long j1), .second, .val (.long j3), .second, .val (.long j5), .second, .val (.int i7), .val (.int (0 : Int32)), .val (.int (1 : Int32)), .val (.int v28), .val (.long v42), .second, .val (.int ((1 : Int32) + (((i7.toUInt32 >>> ((1 : Int32) &&& 31).toUInt32).toInt32) &&& (3 : Int32)))), .val (.ref b1), .val (.int (1 : Int32)), .unset, .unset, .unset, .unset, .unset, .unset, .unset] [(.int (1 : Int32)), (.ref b8), (.ref b8)]))
    refine own_ldcS X8 hx hZ hown (hw _ (List.mem_of_getElem? (i := 54) rfl)) (fun a ha => hw a (own_strW a ha)) e8 (hb hby at_95) 8 (by decide +kernel) (by decide) (by decide) (by decide) 97 rfl ?_
    intro s sa10 T10 h10 ks10 X10 e10 E10 hks10 hZ hown
    refine own_iconst X10 hx (hb hby at_97) (4 : Int32) rfl 98 rfl ?_
    have Eb8_11 := (A8.ext E10)
    have Fb8_number_12 := (F8_number.ext E10)
    have Fb8_name_13 := (F8_name.ext E10)
    have Fb8_nodes_14 := (F8_nodes.ext E10)
    have Zs15 : n0 ≤ h10.size := (Nat.le_trans (Nat.le_trans Zs6 E8.1) E10.1)
    refine own_callI X10 hx hZ hown rfl (hw _ (List.mem_of_getElem? (i := 62) rfl)) (hw _ (List.mem_of_getElem? (i := 63) rfl)) (hw _ (List.mem_of_getElem? (i := 64) rfl)) (hw _ (List.mem_of_getElem? (i := 53) rfl)) (by decide) (rm6 l Z a0 hw [] b8 (1 : Int32) sa10 (4 : Int32) (.int (0 : Int32)) .null (.int (0 : Int32)) h10 n0 Zs15 Eb8_11 g_b8 Fb8_number_12 Fb8_name_13 Fb8_nodes_14) e10 (hb hby at_98) pd__ILjava_lang_String_I_V rfl (by rw [hml]; rfl) (st := [(.ref b8)]) rfl 1 (Nat.le_of_eq rfl) (by decide) (by decide) (by decide) (by decide) 101 rfl ?_
    intro T16 v16 L16 X16 hQ16
    obtain ⟨rfl, N16q, Kc16, P16_0, P16_1⟩ := hQ16
    have N16 := Fr.app N7 N16q
    show OwnW p e below (OwnG s (fun v hh L => Q0 Z i0 j1 j3 j5 i7 fs h0 n0 v hh L ∧ ks10 ≤ hh.size) room_1.cells room_1.slots) (T16.setTop (mkF m 101 #[.val (.int i0), .val (.long j1), .second, .val (.long j3), .second, .val (.long j5), .second, .val (.int i7), .val (.int (0 : Int32)), .val (.int (1 : Int32)), .val (.int v28), .val (.long v42), .second, .val (.int ((1 : Int32) + (((i7.toUInt32 >>> ((1 : Int32) &&& 31).toUInt32).toInt32) &&& (3 : Int32)))), .val (.ref b1), .val (.int (1 : Int32)), .unset, .unset, .unset, .unset, .unset, .unset, .unset] [(.ref b8)]))
    refine own_astore X16 hx (hb hby at_101) rfl #[.val (.int i0), .val (.long j1), .second, .val (.long j3), .second, .val (.long j5), .second, .val (.int i7), .val (.int (0 : Int32)), .val (.int (1 : Int32)), .val (.int v28), .val (.long v42), .second, .val (.int ((1 : Int32) + (((i7.toUInt32 >>> ((1 : Int32) &&& 31).toUInt32).toInt32) &&& (3 : Int32)))), .val (.ref b1), .val (.int (1 : Int32)), .val (.ref b8), .unset, .unset, .unset, .unset, .unset, .unset] rfl 103 rfl ?_
    refine own_aload X16 hx (hb hby at_103) rfl rfl 105 rfl ?_
    refine own_aload X16 hx (hb hby at_105) rfl rfl 107 rfl ?_
    refine own_lloadN X16 hx (hb hby at_107) rfl 108 rfl ?_
    refine own_lload X16 hx (hb hby at_108) rfl 110 rfl ?_
    refine own_iload X16 hx (hb hby at_110) rfl 112 rfl ?_
    have Fb1_barFrom_17 := (((P5_7.ext E8).ext E10).keep Kc16 (ninS ne_b1_b8 nin0))
    have Fb1_barUntil_18 := (((P5_8.ext E8).ext E10).keep Kc16 (ninS ne_b1_b8 nin0))
    have Fb1_barNodes_19 := (((P5_9.ext E8).ext E10).keep Kc16 (ninS ne_b1_b8 nin0))
    have Vbf_5_20 := (((P5_10.ext E8).ext E10).keep Kc16 (ninS ne_bf_5_b8 nin0))
    have Vbu_5_21 := (((P5_11.ext E8).ext E10).keep Kc16 (ninS ne_bu_5_b8 nin0))
    have Vbn_5_22 := (((P5_12.ext E8).ext E10).keep Kc16 (ninS ne_bn_5_b8 nin0))
    have Zs23 : n0 ≤ T16.heap.size := (Nat.le_trans Zs15 Kc16.1)
    have Eb1_25 := (((P5_6.ext E8).ext E10).keep Kc16)
    refine own_callV X16 hx hZ hown (hw _ (List.mem_of_getElem? (i := 77) rfl)) (hw _ (List.mem_of_getElem? (i := 78) rfl)) (hw _ (List.mem_of_getElem? (i := 80) rfl)) (hw _ (List.mem_of_getElem? (i := 79) rfl)) (hw _ (List.mem_of_getElem? (i := 81) rfl)) (hw _ (List.mem_of_getElem? (i := 4) rfl)) (by decide) Eb1_25 (rm8_0 l Z a0 hw [] b1 b8 j1 v42 ((1 : Int32) + (((i7.toUInt32 >>> ((1 : Int32) &&& 31).toUInt32).toInt32) &&& (3 : Int32))) bf_5 bu_5 bn_5 kf_5 ku_5 kn_5 (9223372036854775807 : Int64) (9223372036854775807 : Int64) (9223372036854775807 : Int64) (9223372036854775807 : Int64) (9223372036854775807 : Int64) (9223372036854775807 : Int64) (0 : Int32) (0 : Int32) (0 : Int32) T16.heap n0 Zs23 Fb1_barFrom_17 Fb1_barUntil_18 Fb1_barNodes_19 P16_0 P16_1 Vbf_5_20 Vbu_5_21 Vbn_5_22 g_bf_5 g_bu_5 g_bn_5 ne_b1_bf_5 ne_b1_bu_5 ne_b1_bn_5 P5_3 P5_4 P5_5) rfl (hb hby at_112) pd__Lcom_example_holdfast_holdfast_Machine_JJI_V rfl (by rw [hml]; rfl) (st := []) rfl 0 (Nat.le_of_eq rfl) (by decide) (by decide) (by decide) (by decide) 115 rfl ?_
    intro T24 v24 L24 X24 hQ24
    obtain ⟨rfl, N24q, Kc24, P24_0, P24_1, P24_2⟩ := hQ24
    have N24 := Fr.app N16 N24q
    show OwnW p e below (OwnG s (fun v hh L => Q0 Z i0 j1 j3 j5 i7 fs h0 n0 v hh L ∧ ks10 ≤ hh.size) room_1.cells room_1.slots) (T24.setTop (mkF m 115 #[.val (.int i0), .val (.long j1), .second, .val (.long j3), .second, .val (.long j5), .second, .val (.int i7), .val (.int (0 : Int32)), .val (.int (1 : Int32)), .val (.int v28), .val (.long v42), .second, .val (.int ((1 : Int32) + (((i7.toUInt32 >>> ((1 : Int32) &&& 31).toUInt32).toInt32) &&& (3 : Int32)))), .val (.ref b1), .val (.int (1 : Int32)), .val (.ref b8), .unset, .unset, .unset, .unset, .unset, .unset] []))
    refine own_aload X24 hx (hb hby at_115) rfl rfl 117 rfl ?_
    refine own_iload X24 hx (hb hby at_117) rfl 119 rfl ?_
    refine own_lload X24 hx (hb hby at_119) rfl 121 rfl ?_
    have Fb1_barUntil_26 := (Fb1_barUntil_18.keep Kc24 (ninS ne_b1_bf_5 (ninS ne_b1_bu_5 (ninS ne_b1_bn_5 nin0))))
    have Zs27 : n0 ≤ T24.heap.size := (Nat.le_trans Zs23 Kc24.1)
    have Eb1_29 := (Eb1_25.keep Kc24)
    refine own_callV X24 hx hZ hown (hw _ (List.mem_of_getElem? (i := 46) rfl)) (hw _ (List.mem_of_getElem? (i := 47) rfl)) (hw _ (List.mem_of_getElem? (i := 49) rfl)) (hw _ (List.mem_of_getElem? (i := 48) rfl)) (hw _ (List.mem_of_getElem? (i := 50) rfl)) (hw _ (List.mem_of_getElem? (i := 4) rfl)) (by decide) Eb1_29 (rm5 l Z a0 hw [] b1 (0 : Int32) j5 bu_5 ku_5 (3 : Int32) [(.long v42), (.long (9223372036854775807 : Int64)), (.long (9223372036854775807 : Int64))] (.long (0 : Int64)) v42 T24.heap n0 Zs27 Fb1_barUntil_26 P24_1 ⟨by decide, by decide⟩ rfl) rfl (hb hby at_121) pd__IJ_J rfl (by rw [hml]; rfl) (st := []) rfl 0 (Nat.le_of_eq rfl) (by decide) (by decide) (by decide) (by decide) 124 rfl ?_
    intro T28 v28 L28 X28 hQ28
    obtain ⟨rfl, N28q, e28⟩ := hQ28
    have N28 := Fr.app N24 N28q
    show OwnW p e below (OwnG s (fun v hh L => Q0 Z i0 j1 j3 j5 i7 fs h0 n0 v hh L ∧ ks10 ≤ hh.size) room_1.cells room_1.slots) (T28.setTop (mkF m 124 #[.val (.int i0), .val (.long j1), .second, .val (.long j3), .second, .val (.long j5), .second, .val (.int i7), .val (.int (0 : Int32)), .val (.int (1 : Int32)), .val (.int v28), .val (.long v42), .second, .val (.int ((1 : Int32) + (((i7.toUInt32 >>> ((1 : Int32) &&& 31).toUInt32).toInt32) &&& (3 : Int32)))), .val (.ref b1), .val (.int (1 : Int32)), .val (.ref b8), .unset, .unset, .unset, .unset, .unset, .unset] [(.long (own_bu j5 v42))]))
    refine own_lstore X28 hx (hb hby at_124) #[.val (.int i0), .val (.long j1), .second, .val (.long j3), .second, .val (.long j5), .second, .val (.int i7), .val (.int (0 : Int32)), .val (.int (1 : Int32)), .val (.int v28), .val (.long v42), .second, .val (.int ((1 : Int32) + (((i7.toUInt32 >>> ((1 : Int32) &&& 31).toUInt32).toInt32) &&& (3 : Int32)))), .val (.ref b1), .val (.int (1 : Int32)), .val (.ref b8), .val (.long (own_bu j5 v42)), .second, .unset, .unset, .unset, .unset] rfl 126 rfl ?_
    refine own_iload X28 hx (hb hby at_126) rfl 128 rfl ?_
    suffices J153 : ∀ v153 : Int64, v153 = (if v28 = (0 : Int32) then (if j3 = (9223372036854775807 : Int64) then (9223372036854775807 : Int64) else (j3 * j5)) else (9223372036854775807 : Int64)) → OwnW p e below (OwnG s (fun v hh L => Q0 Z i0 j1 j3 j5 i7 fs h0 n0 v hh L ∧ ks10 ≤ hh.size) room_1.cells room_1.slots) (T28.setTop (mkF m 153 #[.val (.int i0), .val (.long j1), .second, .val (.long j3), .second, .val (.long j5), .second, .val (.int i7), .val (.int (0 : Int32)), .val (.int (1 : Int32)), .val (.int v28), .val (.long v42), .second, .val (.int ((1 : Int32) + (((i7.toUInt32 >>> ((1 : Int32) &&& 31).toUInt32).toInt32) &&& (3 : Int32)))), .val (.ref b1), .val (.int (1 : Int32)), .val (.ref b8), .val (.long (own_bu j5 v42)), .second, .val (.long v153), .second, .unset, .unset] [])) by
      by_cases hc128 : v28 = (0 : Int32)
      · -- hc128
        refine own_ifN X28 hx (hb hby at_128) (teq hc128).2 131 (by decide) ?_
        refine own_lloadN X28 hx (hb hby at_131) rfl 132 rfl ?_
        refine own_ldcJ X28 hx hZ hown (hw _ (List.mem_of_getElem? (i := 1) rfl)) (hb hby at_132) 135 rfl ?_
        refine own_lcmp X28 hx (hb hby at_135) 136 rfl ?_
        by_cases hc136 : j3 = (9223372036854775807 : Int64)
        · -- hc136
          refine own_ifN X28 hx (hb hby at_136) (teq ((lw_eq _ _).mpr hc136)).2 139 (by decide) ?_
          refine own_ldcJ X28 hx hZ hown (hw _ (List.mem_of_getElem? (i := 1) rfl)) (hb hby at_139) 142 rfl ?_
          refine own_lstore X28 hx (hb hby at_142) #[.val (.int i0), .val (.long j1), .second, .val (.long j3), .second, .val (.long j5), .second, .val (.int i7), .val (.int (0 : Int32)), .val (.int (1 : Int32)), .val (.int v28), .val (.long v42), .second, .val (.int ((1 : Int32) + (((i7.toUInt32 >>> ((1 : Int32) &&& 31).toUInt32).toInt32) &&& (3 : Int32)))), .val (.ref b1), .val (.int (1 : Int32)), .val (.ref b8), .val (.long (own_bu j5 v42)), .second, .val (.long (9223372036854775807 : Int64)), .second, .unset, .unset] rfl 144 rfl ?_
          refine own_goto X28 hx (hb hby at_144) 153 (by decide) ?_
          exact J153 _ (by rw [if_pos hc128, if_pos hc136])
        · -- not hc136
          refine own_ifY X28 hx (hb hby at_136) (feq (mt (lw_eq _ _).mp hc136)).2 147 (by decide) ?_
          refine own_lloadN X28 hx (hb hby at_147) rfl 148 rfl ?_
          refine own_lload X28 hx (hb hby at_148) rfl 150 rfl ?_
          refine own_lmul X28 hx (hb hby at_150) 151 rfl ?_
          refine own_lstore X28 hx (hb hby at_151) #[.val (.int i0), .val (.long j1), .second, .val (.long j3), .second, .val (.long j5), .second, .val (.int i7), .val (.int (0 : Int32)), .val (.int (1 : Int32)), .val (.int v28), .val (.long v42), .second, .val (.int ((1 : Int32) + (((i7.toUInt32 >>> ((1 : Int32) &&& 31).toUInt32).toInt32) &&& (3 : Int32)))), .val (.ref b1), .val (.int (1 : Int32)), .val (.ref b8), .val (.long (own_bu j5 v42)), .second, .val (.long (j3 * j5)), .second, .unset, .unset] rfl 153 rfl ?_
          exact J153 _ (by rw [if_pos hc128, if_neg hc136])
      · -- not hc128
        refine own_ifY X28 hx (hb hby at_128) (feq hc128).2 139 (by decide) ?_
        refine own_ldcJ X28 hx hZ hown (hw _ (List.mem_of_getElem? (i := 1) rfl)) (hb hby at_139) 142 rfl ?_
        refine own_lstore X28 hx (hb hby at_142) #[.val (.int i0), .val (.long j1), .second, .val (.long j3), .second, .val (.long j5), .second, .val (.int i7), .val (.int (0 : Int32)), .val (.int (1 : Int32)), .val (.int v28), .val (.long v42), .second, .val (.int ((1 : Int32) + (((i7.toUInt32 >>> ((1 : Int32) &&& 31).toUInt32).toInt32) &&& (3 : Int32)))), .val (.ref b1), .val (.int (1 : Int32)), .val (.ref b8), .val (.long (own_bu j5 v42)), .second, .val (.long (9223372036854775807 : Int64)), .second, .unset, .unset] rfl 144 rfl ?_
        refine own_goto X28 hx (hb hby at_144) 153 (by decide) ?_
        exact J153 _ (by rw [if_neg hc128])
    intro v153 hv153
    refine own_aload X28 hx (hb hby at_153) rfl rfl 155 rfl ?_
    refine own_iload X28 hx (hb hby at_155) rfl 157 rfl ?_
    refine own_lconst1 X28 hx (hb hby at_157) 158 rfl ?_
    refine own_callV X28 hx hZ hown (hw _ (List.mem_of_getElem? (i := 46) rfl)) (hw _ (List.mem_of_getElem? (i := 47) rfl)) (hw _ (List.mem_of_getElem? (i := 49) rfl)) (hw _ (List.mem_of_getElem? (i := 48) rfl)) (hw _ (List.mem_of_getElem? (i := 50) rfl)) (hw _ (List.mem_of_getElem? (i := 4) rfl)) (by decide) Eb1_29 (rm5 l Z a0 hw [] b1 (0 : Int32) (1 : Int64) bu_5 ku_5 (3 : Int32) [(.long v42), (.long (9223372036854775807 : Int64)), (.long (9223372036854775807 : Int64))] (.long (0 : Int64)) v42 T24.heap n0 Zs27 Fb1_barUntil_26 P24_1 ⟨by decide, by decide⟩ rfl) e28 (hb hby at_158) pd__IJ_J rfl (by rw [hml]; rfl) (st := []) rfl 0 (Nat.le_of_eq rfl) (by decide) (by decide) (by decide) (by decide) 161 rfl ?_
    intro T30 v30 L30 X30 hQ30
    obtain ⟨rfl, N30q, e30⟩ := hQ30
    have N30 := Fr.app N28 N30q
    show OwnW p e below (OwnG s (fun v hh L => Q0 Z i0 j1 j3 j5 i7 fs h0 n0 v hh L ∧ ks10 ≤ hh.size) room_1.cells room_1.slots) (T30.setTop (mkF m 161 #[.val (.int i0), .val (.long j1), .second, .val (.long j3), .second, .val (.long j5), .second, .val (.int i7), .val (.int (0 : Int32)), .val (.int (1 : Int32)), .val (.int v28), .val (.long v42), .second, .val (.int ((1 : Int32) + (((i7.toUInt32 >>> ((1 : Int32) &&& 31).toUInt32).toInt32) &&& (3 : Int32)))), .val (.ref b1), .val (.int (1 : Int32)), .val (.ref b8), .val (.long (own_bu j5 v42)), .second, .val (.long v153), .second, .unset, .unset] [(.long (own_bu (1 : Int64) v42))]))
    refine own_lload X30 hx (hb hby at_161) rfl 163 rfl ?_
    refine own_lcmp X30 hx (hb hby at_163) 164 rfl ?_
    have hc164 : (own_bu (1 : Int64) v42) = v42 := own_law2 _
    refine own_ifN X30 hx (hb hby at_164) (teq ((lw_eq _ _).mpr hc164)).2 167 (by decide) ?_
    refine own_iconst X30 hx (hb hby at_167) (1 : Int32) rfl 168 rfl ?_
    refine own_goto X30 hx (hb hby at_168) 172 (by decide) ?_
    refine own_istore X30 hx (hb hby at_172) #[.val (.int i0), .val (.long j1), .second, .val (.long j3), .second, .val (.long j5), .second, .val (.int i7), .val (.int (0 : Int32)), .val (.int (1 : Int32)), .val (.int v28), .val (.long v42), .second, .val (.int ((1 : Int32) + (((i7.toUInt32 >>> ((1 : Int32) &&& 31).toUInt32).toInt32) &&& (3 : Int32)))), .val (.ref b1), .val (.int (1 : Int32)), .val (.ref b8), .val (.long (own_bu j5 v42)), .second, .val (.long v153), .second, .val (.int (1 : Int32)), .unset] rfl 174 rfl ?_
    refine own_aload X30 hx (hb hby at_174) rfl rfl 176 rfl ?_
    refine own_iload X30 hx (hb hby at_176) rfl 178 rfl ?_
    refine own_lload X30 hx (hb hby at_178) rfl 180 rfl ?_
    refine own_callV X30 hx hZ hown (hw _ (List.mem_of_getElem? (i := 46) rfl)) (hw _ (List.mem_of_getElem? (i := 47) rfl)) (hw _ (List.mem_of_getElem? (i := 49) rfl)) (hw _ (List.mem_of_getElem? (i := 48) rfl)) (hw _ (List.mem_of_getElem? (i := 50) rfl)) (hw _ (List.mem_of_getElem? (i := 4) rfl)) (by decide) Eb1_29 (rm5 l Z a0 hw [] b1 (1 : Int32) j5 bu_5 ku_5 (3 : Int32) [(.long v42), (.long (9223372036854775807 : Int64)), (.long (9223372036854775807 : Int64))] (.long (0 : Int64)) (9223372036854775807 : Int64) T24.heap n0 Zs27 Fb1_barUntil_26 P24_1 ⟨by decide, by decide⟩ rfl) e30 (hb hby at_180) pd__IJ_J rfl (by rw [hml]; rfl) (st := []) rfl 0 (Nat.le_of_eq rfl) (by decide) (by decide) (by decide) (by decide) 183 rfl ?_
    intro T31 v31 L31 X31 hQ31
    obtain ⟨rfl, N31q, e31⟩ := hQ31
    have N31 := Fr.app N30 N31q
    show OwnW p e below (OwnG s (fun v hh L => Q0 Z i0 j1 j3 j5 i7 fs h0 n0 v hh L ∧ ks10 ≤ hh.size) room_1.cells room_1.slots) (T31.setTop (mkF m 183 #[.val (.int i0), .val (.long j1), .second, .val (.long j3), .second, .val (.long j5), .second, .val (.int i7), .val (.int (0 : Int32)), .val (.int (1 : Int32)), .val (.int v28), .val (.long v42), .second, .val (.int ((1 : Int32) + (((i7.toUInt32 >>> ((1 : Int32) &&& 31).toUInt32).toInt32) &&& (3 : Int32)))), .val (.ref b1), .val (.int (1 : Int32)), .val (.ref b8), .val (.long (own_bu j5 v42)), .second, .val (.long v153), .second, .val (.int (1 : Int32)), .unset] [(.long (own_bu j5 (9223372036854775807 : Int64)))]))
    refine own_ldcJ X31 hx hZ hown (hw _ (List.mem_of_getElem? (i := 1) rfl)) (hb hby at_183) 186 rfl ?_
    refine own_lcmp X31 hx (hb hby at_186) 187 rfl ?_
    have hc187 : (own_bu j5 (9223372036854775807 : Int64)) = (9223372036854775807 : Int64) := own_law1 _
    refine own_ifN X31 hx (hb hby at_187) (teq ((lw_eq _ _).mpr hc187)).2 190 (by decide) ?_
    refine own_iconst X31 hx (hb hby at_190) (1 : Int32) rfl 191 rfl ?_
    refine own_goto X31 hx (hb hby at_191) 195 (by decide) ?_
    refine own_istore X31 hx (hb hby at_195) #[.val (.int i0), .val (.long j1), .second, .val (.long j3), .second, .val (.long j5), .second, .val (.int i7), .val (.int (0 : Int32)), .val (.int (1 : Int32)), .val (.int v28), .val (.long v42), .second, .val (.int ((1 : Int32) + (((i7.toUInt32 >>> ((1 : Int32) &&& 31).toUInt32).toInt32) &&& (3 : Int32)))), .val (.ref b1), .val (.int (1 : Int32)), .val (.ref b8), .val (.long (own_bu j5 v42)), .second, .val (.long v153), .second, .val (.int (1 : Int32)), .val (.int (1 : Int32))] rfl 197 rfl ?_
    refine own_iload X31 hx (hb hby at_197) rfl 199 rfl ?_
    refine own_ifN X31 hx (hb hby at_199) (feq (by decide : ¬ ((1 : Int32) = (0 : Int32)))).1 202 (by decide) ?_
    refine own_lload X31 hx (hb hby at_202) rfl 204 rfl ?_
    refine own_lload X31 hx (hb hby at_204) rfl 206 rfl ?_
    refine own_lcmp X31 hx (hb hby at_206) 207 rfl ?_
    have hc207 : (own_bu j5 v42) = v153 := own_law3 hv42 hv153
    refine own_ifN X31 hx (hb hby at_207) (teq ((lw_eq _ _).mpr hc207)).2 210 (by decide) ?_
    refine own_iload X31 hx (hb hby at_210) rfl 212 rfl ?_
    refine own_ifN X31 hx (hb hby at_212) (feq (by decide : ¬ ((1 : Int32) = (0 : Int32)))).1 215 (by decide) ?_
    refine own_iload X31 hx (hb hby at_215) rfl 217 rfl ?_
    refine own_ifN X31 hx (hb hby at_217) (feq (by decide : ¬ ((1 : Int32) = (0 : Int32)))).1 220 (by decide) ?_
    refine own_iconst X31 hx (hb hby at_220) (1 : Int32) rfl 221 rfl ?_
    refine own_goto X31 hx (hb hby at_221) 225 (by decide) ?_
    refine own_retZ X31 hx hlk Bd.returns (by decide) (hb hby at_225) (by decide) (by decide) ?_
    show (Q0 Z i0 j1 j3 j5 i7 fs h0 n0 _ T31.heap _) ∧ ks10 ≤ T31.heap.size
    rw [e31]
    exact ⟨⟨rfl, N31⟩, (Nat.le_trans (Nat.le_trans hks10 Kc16.1) Kc24.1)⟩
  · -- case 1
    rw [hk]
    show OwnW p e below (OwnGW s (Q0 Z i0 j1 j3 j5 i7 fs h0 n0) room_1.cells room_1.slots) (s₁.setTop (mkF m 8 #[.val (.int i0), .val (.long j1), .second, .val (.long j3), .second, .val (.long j5), .second, .val (.int i7), .val (.int (1 : Int32)), .unset, .unset, .unset, .unset, .unset, .unset, .unset, .unset, .unset, .unset, .unset, .unset, .unset, .unset] []))
    refine own_iload X0 hx (hb hby at_8) rfl 10 rfl ?_
    refine own_iconst X0 hx (hb hby at_10) (1 : Int32) rfl 11 rfl ?_
    refine own_iadd X0 hx (hb hby at_11) 12 rfl ?_
    show OwnW p e below (OwnGW s (Q0 Z i0 j1 j3 j5 i7 fs h0 n0) room_1.cells room_1.slots) (s₁.setTop (mkF m 12 #[.val (.int i0), .val (.long j1), .second, .val (.long j3), .second, .val (.long j5), .second, .val (.int i7), .val (.int (1 : Int32)), .unset, .unset, .unset, .unset, .unset, .unset, .unset, .unset, .unset, .unset, .unset, .unset, .unset, .unset] [(.int (2 : Int32))]))
    refine own_iconst X0 hx (hb hby at_12) (3 : Int32) rfl 13 rfl ?_
    refine own_irem X0 hx (hb hby at_13) (by decide) 14 rfl ?_
    show OwnW p e below (OwnGW s (Q0 Z i0 j1 j3 j5 i7 fs h0 n0) room_1.cells room_1.slots) (s₁.setTop (mkF m 14 #[.val (.int i0), .val (.long j1), .second, .val (.long j3), .second, .val (.long j5), .second, .val (.int i7), .val (.int (1 : Int32)), .unset, .unset, .unset, .unset, .unset, .unset, .unset, .unset, .unset, .unset, .unset, .unset, .unset, .unset] [(.int (2 : Int32))]))
    refine own_istore X0 hx (hb hby at_14) #[.val (.int i0), .val (.long j1), .second, .val (.long j3), .second, .val (.long j5), .second, .val (.int i7), .val (.int (1 : Int32)), .val (.int (2 : Int32)), .unset, .unset, .unset, .unset, .unset, .unset, .unset, .unset, .unset, .unset, .unset, .unset, .unset] rfl 16 rfl ?_
    refine own_iload X0 hx (hb hby at_16) rfl 18 rfl ?_
    refine own_iconst X0 hx (hb hby at_18) (1 : Int32) rfl 19 rfl ?_
    refine own_iand X0 hx (hb hby at_19) 20 rfl ?_
    suffices J28 : ∀ v28 : Int32, v28 = (if (i7 &&& (1 : Int32)) = (0 : Int32) then (0 : Int32) else (1 : Int32)) → OwnW p e below (OwnGW s (Q0 Z i0 j1 j3 j5 i7 fs h0 n0) room_1.cells room_1.slots) (s₁.setTop (mkF m 28 #[.val (.int i0), .val (.long j1), .second, .val (.long j3), .second, .val (.long j5), .second, .val (.int i7), .val (.int (1 : Int32)), .val (.int (2 : Int32)), .unset, .unset, .unset, .unset, .unset, .unset, .unset, .unset, .unset, .unset, .unset, .unset, .unset] [(.int v28)])) by
      by_cases hc20 : (i7 &&& (1 : Int32)) = (0 : Int32)
      · -- hc20
        refine own_ifY X0 hx (hb hby at_20) (teq hc20).1 27 (by decide) ?_
        refine own_iconst X0 hx (hb hby at_27) (0 : Int32) rfl 28 rfl ?_
        exact J28 _ (by rw [if_pos hc20])
      · -- not hc20
        refine own_ifN X0 hx (hb hby at_20) (feq hc20).1 23 (by decide) ?_
        refine own_iconst X0 hx (hb hby at_23) (1 : Int32) rfl 24 rfl ?_
        refine own_goto X0 hx (hb hby at_24) 28 (by decide) ?_
        exact J28 _ (by rw [if_neg hc20])
    intro v28 hv28
    refine own_istore X0 hx (hb hby at_28) #[.val (.int i0), .val (.long j1), .second, .val (.long j3), .second, .val (.long j5), .second, .val (.int i7), .val (.int (1 : Int32)), .val (.int (2 : Int32)), .val (.int v28), .unset, .unset, .unset, .unset, .unset, .unset, .unset, .unset, .unset, .unset, .unset, .unset] rfl 30 rfl ?_
    refine own_iload X0 hx (hb hby at_30) rfl 32 rfl ?_
    suffices J42 : ∀ v42 : Int64, v42 = (if v28 = (0 : Int32) then j3 else (9223372036854775807 : Int64)) → OwnW p e below (OwnGW s (Q0 Z i0 j1 j3 j5 i7 fs h0 n0) room_1.cells room_1.slots) (s₁.setTop (mkF m 42 #[.val (.int i0), .val (.long j1), .second, .val (.long j3), .second, .val (.long j5), .second, .val (.int i7), .val (.int (1 : Int32)), .val (.int (2 : Int32)), .val (.int v28), .unset, .unset, .unset, .unset, .unset, .unset, .unset, .unset, .unset, .unset, .unset, .unset] [(.long v42)])) by
      by_cases hc32 : v28 = (0 : Int32)
      · -- hc32
        refine own_ifY X0 hx (hb hby at_32) (teq hc32).1 41 (by decide) ?_
        refine own_lloadN X0 hx (hb hby at_41) rfl 42 rfl ?_
        exact J42 _ (by rw [if_pos hc32])
      · -- not hc32
        refine own_ifN X0 hx (hb hby at_32) (feq hc32).1 35 (by decide) ?_
        refine own_ldcJ X0 hx hZ hown (hw _ (List.mem_of_getElem? (i := 1) rfl)) (hb hby at_35) 38 rfl ?_
        refine own_goto X0 hx (hb hby at_38) 42 (by decide) ?_
        exact J42 _ (by rw [if_neg hc32])
    intro v42 hv42
    refine own_lstore X0 hx (hb hby at_42) #[.val (.int i0), .val (.long j1), .second, .val (.long j3), .second, .val (.long j5), .second, .val (.int i7), .val (.int (1 : Int32)), .val (.int (2 : Int32)), .val (.int v28), .val (.long v42), .second, .unset, .unset, .unset, .unset, .unset, .unset, .unset, .unset, .unset, .unset] rfl 44 rfl ?_
    refine own_iconst X0 hx (hb hby at_44) (1 : Int32) rfl 45 rfl ?_
    refine own_iload X0 hx (hb hby at_45) rfl 47 rfl ?_
    refine own_iconst X0 hx (hb hby at_47) (1 : Int32) rfl 48 rfl ?_
    refine own_iushr X0 hx (hb hby at_48) 49 rfl ?_
    refine own_iconst X0 hx (hb hby at_49) (3 : Int32) rfl 50 rfl ?_
    refine own_iand X0 hx (hb hby at_50) 51 rfl ?_
    refine own_iadd X0 hx (hb hby at_51) 52 rfl ?_
    refine own_istore X0 hx (hb hby at_52) #[.val (.int i0), .val (.long j1), .second, .val (.long j3), .second, .val (.long j5), .second, .val (.int i7), .val (.int (1 : Int32)), .val (.int (2 : Int32)), .val (.int v28), .val (.long v42), .second, .val (.int ((1 : Int32) + (((i7.toUInt32 >>> ((1 : Int32) &&& 31).toUInt32).toInt32) &&& (3 : Int32)))), .unset, .unset, .unset, .unset, .unset, .unset, .unset, .unset, .unset] rfl 54 rfl ?_
    refine own_new X0 hx hZ hown (hw _ (List.mem_of_getElem? (i := 2) rfl)) (hw _ (List.mem_of_getElem? (i := 3) rfl)) (hw _ (List.mem_of_getElem? (i := 4) rfl)) e0 (hb hby at_54) (by decide) (by decide) 57 rfl ?_
    intro T32 h32 b32 qe32 X32 e32 E32 A32 D32
    have ne_fs_b32 : fs ≠ b32 := Nat.ne_of_lt (Nat.lt_of_lt_of_le E_fs.lt (Nat.le_of_eq qe32.symm))
    have g_b32 : n0 ≤ b32 := Nat.le_trans Z0 (Nat.le_of_eq qe32.symm)
    have F32_isDown : Fld Z h32 b32 "com/example/holdfast/holdfast/MachineStates" "isDown" "[Z" .null := D32 (Or.inr (hw _ (List.mem_of_getElem? (i := 13) rfl))) (ty := (.array .boolean)) (by decide)
    have F32_lost : Fld Z h32 b32 "com/example/holdfast/holdfast/MachineStates" "lost" "[I" .null := D32 (Or.inr (hw _ (List.mem_of_getElem? (i := 16) rfl))) (ty := (.array .int)) (by decide)
    have F32_draining : Fld Z h32 b32 "com/example/holdfast/holdfast/MachineStates" "draining" "[I" .null := D32 (Or.inr (hw _ (List.mem_of_getElem? (i := 18) rfl))) (ty := (.array .int)) (by decide)
    have F32_gates : Fld Z h32 b32 "com/example/holdfast/holdfast/MachineStates" "gates" "[Lcom/example/holdfast/holdfast/MachineStates$Gate;" .null := D32 (Or.inr (hw _ (List.mem_of_getElem? (i := 22) rfl))) (ty := (.array (.object "com/example/holdfast/holdfast/MachineStates$Gate"))) (by decide)
    have F32_barFrom : Fld Z h32 b32 "com/example/holdfast/holdfast/MachineStates" "barFrom" "[J" .null := D32 (Or.inr (hw _ (List.mem_of_getElem? (i := 25) rfl))) (ty := (.array .long)) (by decide)
    have F32_barUntil : Fld Z h32 b32 "com/example/holdfast/holdfast/MachineStates" "barUntil" "[J" .null := D32 (Or.inr (hw _ (List.mem_of_getElem? (i := 27) rfl))) (ty := (.array .long)) (by decide)
    have F32_barNodes : Fld Z h32 b32 "com/example/holdfast/holdfast/MachineStates" "barNodes" "[I" .null := D32 (Or.inr (hw _ (List.mem_of_getElem? (i := 29) rfl))) (ty := (.array .int)) (by decide)
    have F32_uptimes : Fld Z h32 b32 "com/example/holdfast/holdfast/MachineStates" "uptimes" "[Lcom/example/holdfast/holdfast/MachineStates$Uptime;" .null := D32 (Or.inr (hw _ (List.mem_of_getElem? (i := 33) rfl))) (ty := (.array (.object "com/example/holdfast/holdfast/MachineStates$Uptime"))) (by decide)
    refine own_dup X32 hx (hb hby at_57) rfl 58 rfl ?_
    refine own_iconst X32 hx (hb hby at_58) (3 : Int32) rfl 59 rfl ?_
    have ScomexampleholdfastholdfastMachineStatesUptime_FROM_START_33 := (S_FROM_START.ext E32)
    have Efs_34 := (E_fs.ext E32)
    have Zs35 : n0 ≤ h32.size := (Nat.le_trans Z0 E32.1)
    refine own_callI X32 hx hZ hown rfl (hw _ (List.mem_of_getElem? (i := 5) rfl)) (hw _ (List.mem_of_getElem? (i := 6) rfl)) (hw _ (List.mem_of_getElem? (i := 7) rfl)) (hw _ (List.mem_of_getElem? (i := 4) rfl)) (by decide) (rm1 l Z a0 hw [] b32 .null .null .null .null .null .null .null .null fs h32 n0 Zs35 A32 g_b32 F32_isDown F32_lost F32_draining F32_gates F32_barFrom F32_barUntil F32_barNodes F32_uptimes ScomexampleholdfastholdfastMachineStatesUptime_FROM_START_33 Efs_34 ne_fs_b32) e32 (hb hby at_59) pd__I_V rfl (by rw [hml]; rfl) (st := [(.ref b32)]) rfl 1 (Nat.le_of_eq rfl) (by decide) (by decide) (by decide) (by decide) 62 rfl ?_
    intro T36 v36 L36 X36 hQ36
    obtain ⟨bf_36, bu_36, bn_36, kf_36, ku_36, kn_36, rfl, N36q, Kc36, P36_0, P36_1, P36_2, P36_3, P36_4, P36_5, P36_6, P36_7, P36_8, P36_9, P36_10, P36_11, P36_12⟩ := hQ36
    have N36 := Fr.app N0 N36q
    have ne_fs_bf_36 : fs ≠ bf_36 := Nat.ne_of_lt (Nat.lt_of_lt_of_le Efs_34.lt P36_0)
    have ne_b32_bf_36 : b32 ≠ bf_36 := Nat.ne_of_lt (Nat.lt_of_lt_of_le A32.lt P36_0)
    have g_bf_36 : n0 ≤ bf_36 := Nat.le_trans Zs35 P36_0
    have ne_fs_bu_36 : fs ≠ bu_36 := Nat.ne_of_lt (Nat.lt_of_lt_of_le Efs_34.lt P36_1)
    have ne_b32_bu_36 : b32 ≠ bu_36 := Nat.ne_of_lt (Nat.lt_of_lt_of_le A32.lt P36_1)
    have g_bu_36 : n0 ≤ bu_36 := Nat.le_trans Zs35 P36_1
    have ne_fs_bn_36 : fs ≠ bn_36 := Nat.ne_of_lt (Nat.lt_of_lt_of_le Efs_34.lt P36_2)
    have ne_b32_bn_36 : b32 ≠ bn_36 := Nat.ne_of_lt (Nat.lt_of_lt_of_le A32.lt P36_2)
    have g_bn_36 : n0 ≤ bn_36 := Nat.le_trans Zs35 P36_2
    show OwnW p e below (OwnGW s (Q0 Z i0 j1 j3 j5 i7 fs h0 n0) room_1.cells room_1.slots) (T36.setTop (mkF m 62 #[.val (.int i0), .val (.long j1), .second, .val (.long j3), .second, .val (.long j5), .second, .val (.int i7), .val (.int (1 : Int32)), .val (.int (2 : Int32)), .val (.int v28), .val (.long v42), .second, .val (.int ((1 : Int32) + (((i7.toUInt32 >>> ((1 : Int32) &&& 31).toUInt32).toInt32) &&& (3 : Int32)))), .unset, .unset, .unset, .unset, .unset, .unset, .unset, .unset, .unset] [(.ref b32)]))
    refine own_astore X36 hx (hb hby at_62) rfl #[.val (.int i0), .val (.long j1), .second, .val (.long j3), .second, .val (.long j5), .second, .val (.int i7), .val (.int (1 : Int32)), .val (.int (2 : Int32)), .val (.int v28), .val (.long v42), .second, .val (.int ((1 : Int32) + (((i7.toUInt32 >>> ((1 : Int32) &&& 31).toUInt32).toInt32) &&& (3 : Int32)))), .val (.ref b32), .unset, .unset, .unset, .unset, .unset, .unset, .unset, .unset] rfl 64 rfl ?_
    refine own_aload X36 hx (hb hby at_64) rfl rfl 66 rfl ?_
    refine own_iload X36 hx (hb hby at_66) rfl 68 rfl ?_
    refine own_lload X36 hx (hb hby at_68) rfl 70 rfl ?_
    have Zs37 : n0 ≤ T36.heap.size := (Nat.le_trans Zs35 Kc36.1)
    refine own_callV X36 hx hZ hown (hw _ (List.mem_of_getElem? (i := 46) rfl)) (hw _ (List.mem_of_getElem? (i := 47) rfl)) (hw _ (List.mem_of_getElem? (i := 49) rfl)) (hw _ (List.mem_of_getElem? (i := 48) rfl)) (hw _ (List.mem_of_getElem? (i := 50) rfl)) (hw _ (List.mem_of_getElem? (i := 4) rfl)) (by decide) P36_6 (rm5 l Z a0 hw [] b32 (1 : Int32) j5 bu_36 ku_36 (3 : Int32) [(.long (9223372036854775807 : Int64)), (.long (9223372036854775807 : Int64)), (.long (9223372036854775807 : Int64))] (.long (0 : Int64)) (9223372036854775807 : Int64) T36.heap n0 Zs37 P36_8 P36_11 ⟨by decide, by decide⟩ rfl) rfl (hb hby at_70) pd__IJ_J rfl (by rw [hml]; rfl) (st := []) rfl 0 (Nat.le_of_eq rfl) (by decide) (by decide) (by decide) (by decide) 73 rfl ?_
    intro T38 v38 L38 X38 hQ38
    obtain ⟨rfl, N38q, e38⟩ := hQ38
    have N38 := Fr.app N36 N38q
    show OwnW p e below (OwnGW s (Q0 Z i0 j1 j3 j5 i7 fs h0 n0) room_1.cells room_1.slots) (T38.setTop (mkF m 73 #[.val (.int i0), .val (.long j1), .second, .val (.long j3), .second, .val (.long j5), .second, .val (.int i7), .val (.int (1 : Int32)), .val (.int (2 : Int32)), .val (.int v28), .val (.long v42), .second, .val (.int ((1 : Int32) + (((i7.toUInt32 >>> ((1 : Int32) &&& 31).toUInt32).toInt32) &&& (3 : Int32)))), .val (.ref b32), .unset, .unset, .unset, .unset, .unset, .unset, .unset, .unset] [(.long (own_bu j5 (9223372036854775807 : Int64)))]))
    refine own_ldcJ X38 hx hZ hown (hw _ (List.mem_of_getElem? (i := 1) rfl)) (hb hby at_73) 76 rfl ?_
    refine own_lcmp X38 hx (hb hby at_76) 77 rfl ?_
    have hc77 : (own_bu j5 (9223372036854775807 : Int64)) = (9223372036854775807 : Int64) := own_law1 _
    refine own_ifN X38 hx (hb hby at_77) (teq ((lw_eq _ _).mpr hc77)).2 80 (by decide) ?_
    refine own_iconst X38 hx (hb hby at_80) (1 : Int32) rfl 81 rfl ?_
    refine own_goto X38 hx (hb hby at_81) 85 (by decide) ?_
    refine own_istore X38 hx (hb hby at_85) #[.val (.int i0), .val (.long j1), .second, .val (.long j3), .second, .val (.long j5), .second, .val (.int i7), .val (.int (1 : Int32)), .val (.int (2 : Int32)), .val (.int v28), .val (.long v42), .second, .val (.int ((1 : Int32) + (((i7.toUInt32 >>> ((1 : Int32) &&& 31).toUInt32).toInt32) &&& (3 : Int32)))), .val (.ref b32), .val (.int (1 : Int32)), .unset, .unset, .unset, .unset, .unset, .unset, .unset] rfl 87 rfl ?_
    refine own_new X38 hx hZ hown (hw _ (List.mem_of_getElem? (i := 51) rfl)) (hw _ (List.mem_of_getElem? (i := 52) rfl)) (hw _ (List.mem_of_getElem? (i := 53) rfl)) e38 (hb hby at_87) (by decide) (by decide) 90 rfl ?_
    intro T39 h39 b39 qe39 X39 e39 E39 A39 D39
    have Efs_40 := (Efs_34.keep Kc36)
    have ne_fs_b39 : fs ≠ b39 := Nat.ne_of_lt (Nat.lt_of_lt_of_le Efs_40.lt (Nat.le_of_eq qe39.symm))
    have ne_b32_b39 : b32 ≠ b39 := Nat.ne_of_lt (Nat.lt_of_lt_of_le P36_6.lt (Nat.le_of_eq qe39.symm))
    have ne_bf_36_b39 : bf_36 ≠ b39 := Nat.ne_of_lt (Nat.lt_of_lt_of_le P36_10.lt (Nat.le_of_eq qe39.symm))
    have ne_bu_36_b39 : bu_36 ≠ b39 := Nat.ne_of_lt (Nat.lt_of_lt_of_le P36_11.lt (Nat.le_of_eq qe39.symm))
    have ne_bn_36_b39 : bn_36 ≠ b39 := Nat.ne_of_lt (Nat.lt_of_lt_of_le P36_12.lt (Nat.le_of_eq qe39.symm))
    have g_b39 : n0 ≤ b39 := Nat.le_trans Zs37 (Nat.le_of_eq qe39.symm)
    have F39_number : Fld Z h39 b39 "com/example/holdfast/holdfast/Machine" "number" "I" (.int (0 : Int32)) := D39 (Or.inr (hw _ (List.mem_of_getElem? (i := 72) rfl))) (ty := .int) (by decide)
    have F39_name : Fld Z h39 b39 "com/example/holdfast/holdfast/Machine" "name" "Ljava/lang/String;" .null := D39 (Or.inr (hw _ (List.mem_of_getElem? (i := 74) rfl))) (ty := (.object "java/lang/String")) (by decide)
    have F39_nodes : Fld Z h39 b39 "com/example/holdfast/holdfast/Machine" "nodes" "I" (.int (0 : Int32)) := D39 (Or.inr (hw _ (List.mem_of_getElem? (i := 76) rfl))) (ty := .int) (by decide)
    refine own_dup X39 hx (hb hby at_90) rfl 91 rfl ?_
    refine own_iload X39 hx (hb hby at_91) rfl 93 rfl ?_
    refine own_iconst X39 hx (hb hby at_93) (1 : Int32) rfl 94 rfl ?_
    refine own_iadd X39 hx (hb hby at_94) 95 rfl ?_
    show OwnW p e below (OwnGW s (Q0 Z i0 j1 j3 j5 i7 fs h0 n0) room_1.cells room_1.slots) (T39.setTop (mkF m 95 #[.val (.int i0), .val (.long j1), .second, .val (.long j3), .second, .val (.long j5), .second, .val (.int i7), .val (.int (1 : Int32)), .val (.int (2 : Int32)), .val (.int v28), .val (.long v42), .second, .val (.int ((1 : Int32) + (((i7.toUInt32 >>> ((1 : Int32) &&& 31).toUInt32).toInt32) &&& (3 : Int32)))), .val (.ref b32), .val (.int (1 : Int32)), .unset, .unset, .unset, .unset, .unset, .unset, .unset] [(.int (2 : Int32)), (.ref b39), (.ref b39)]))
    refine own_ldcS X39 hx hZ hown (hw _ (List.mem_of_getElem? (i := 54) rfl)) (fun a ha => hw a (own_strW a ha)) e39 (hb hby at_95) 8 (by decide +kernel) (by decide) (by decide) (by decide) 97 rfl ?_
    intro s sa41 T41 h41 ks41 X41 e41 E41 hks41 hZ hown
    refine own_iconst X41 hx (hb hby at_97) (4 : Int32) rfl 98 rfl ?_
    have Eb39_42 := (A39.ext E41)
    have Fb39_number_43 := (F39_number.ext E41)
    have Fb39_name_44 := (F39_name.ext E41)
    have Fb39_nodes_45 := (F39_nodes.ext E41)
    have Zs46 : n0 ≤ h41.size := (Nat.le_trans (Nat.le_trans Zs37 E39.1) E41.1)
    refine own_callI X41 hx hZ hown rfl (hw _ (List.mem_of_getElem? (i := 62) rfl)) (hw _ (List.mem_of_getElem? (i := 63) rfl)) (hw _ (List.mem_of_getElem? (i := 64) rfl)) (hw _ (List.mem_of_getElem? (i := 53) rfl)) (by decide) (rm6 l Z a0 hw [] b39 (2 : Int32) sa41 (4 : Int32) (.int (0 : Int32)) .null (.int (0 : Int32)) h41 n0 Zs46 Eb39_42 g_b39 Fb39_number_43 Fb39_name_44 Fb39_nodes_45) e41 (hb hby at_98) pd__ILjava_lang_String_I_V rfl (by rw [hml]; rfl) (st := [(.ref b39)]) rfl 1 (Nat.le_of_eq rfl) (by decide) (by decide) (by decide) (by decide) 101 rfl ?_
    intro T47 v47 L47 X47 hQ47
    obtain ⟨rfl, N47q, Kc47, P47_0, P47_1⟩ := hQ47
    have N47 := Fr.app N38 N47q
    show OwnW p e below (OwnG s (fun v hh L => Q0 Z i0 j1 j3 j5 i7 fs h0 n0 v hh L ∧ ks41 ≤ hh.size) room_1.cells room_1.slots) (T47.setTop (mkF m 101 #[.val (.int i0), .val (.long j1), .second, .val (.long j3), .second, .val (.long j5), .second, .val (.int i7), .val (.int (1 : Int32)), .val (.int (2 : Int32)), .val (.int v28), .val (.long v42), .second, .val (.int ((1 : Int32) + (((i7.toUInt32 >>> ((1 : Int32) &&& 31).toUInt32).toInt32) &&& (3 : Int32)))), .val (.ref b32), .val (.int (1 : Int32)), .unset, .unset, .unset, .unset, .unset, .unset, .unset] [(.ref b39)]))
    refine own_astore X47 hx (hb hby at_101) rfl #[.val (.int i0), .val (.long j1), .second, .val (.long j3), .second, .val (.long j5), .second, .val (.int i7), .val (.int (1 : Int32)), .val (.int (2 : Int32)), .val (.int v28), .val (.long v42), .second, .val (.int ((1 : Int32) + (((i7.toUInt32 >>> ((1 : Int32) &&& 31).toUInt32).toInt32) &&& (3 : Int32)))), .val (.ref b32), .val (.int (1 : Int32)), .val (.ref b39), .unset, .unset, .unset, .unset, .unset, .unset] rfl 103 rfl ?_
    refine own_aload X47 hx (hb hby at_103) rfl rfl 105 rfl ?_
    refine own_aload X47 hx (hb hby at_105) rfl rfl 107 rfl ?_
    refine own_lloadN X47 hx (hb hby at_107) rfl 108 rfl ?_
    refine own_lload X47 hx (hb hby at_108) rfl 110 rfl ?_
    refine own_iload X47 hx (hb hby at_110) rfl 112 rfl ?_
    have Fb32_barFrom_48 := (((P36_7.ext E39).ext E41).keep Kc47 (ninS ne_b32_b39 nin0))
    have Fb32_barUntil_49 := (((P36_8.ext E39).ext E41).keep Kc47 (ninS ne_b32_b39 nin0))
    have Fb32_barNodes_50 := (((P36_9.ext E39).ext E41).keep Kc47 (ninS ne_b32_b39 nin0))
    have Vbf_36_51 := (((P36_10.ext E39).ext E41).keep Kc47 (ninS ne_bf_36_b39 nin0))
    have Vbu_36_52 := (((P36_11.ext E39).ext E41).keep Kc47 (ninS ne_bu_36_b39 nin0))
    have Vbn_36_53 := (((P36_12.ext E39).ext E41).keep Kc47 (ninS ne_bn_36_b39 nin0))
    have Zs54 : n0 ≤ T47.heap.size := (Nat.le_trans Zs46 Kc47.1)
    have Eb32_56 := (((P36_6.ext E39).ext E41).keep Kc47)
    refine own_callV X47 hx hZ hown (hw _ (List.mem_of_getElem? (i := 77) rfl)) (hw _ (List.mem_of_getElem? (i := 78) rfl)) (hw _ (List.mem_of_getElem? (i := 80) rfl)) (hw _ (List.mem_of_getElem? (i := 79) rfl)) (hw _ (List.mem_of_getElem? (i := 81) rfl)) (hw _ (List.mem_of_getElem? (i := 4) rfl)) (by decide) Eb32_56 (rm8_1 l Z a0 hw [] b32 b39 j1 v42 ((1 : Int32) + (((i7.toUInt32 >>> ((1 : Int32) &&& 31).toUInt32).toInt32) &&& (3 : Int32))) bf_36 bu_36 bn_36 kf_36 ku_36 kn_36 (9223372036854775807 : Int64) (9223372036854775807 : Int64) (9223372036854775807 : Int64) (9223372036854775807 : Int64) (9223372036854775807 : Int64) (9223372036854775807 : Int64) (0 : Int32) (0 : Int32) (0 : Int32) T47.heap n0 Zs54 Fb32_barFrom_48 Fb32_barUntil_49 Fb32_barNodes_50 P47_0 P47_1 Vbf_36_51 Vbu_36_52 Vbn_36_53 g_bf_36 g_bu_36 g_bn_36 ne_b32_bf_36 ne_b32_bu_36 ne_b32_bn_36 P36_3 P36_4 P36_5) rfl (hb hby at_112) pd__Lcom_example_holdfast_holdfast_Machine_JJI_V rfl (by rw [hml]; rfl) (st := []) rfl 0 (Nat.le_of_eq rfl) (by decide) (by decide) (by decide) (by decide) 115 rfl ?_
    intro T55 v55 L55 X55 hQ55
    obtain ⟨rfl, N55q, Kc55, P55_0, P55_1, P55_2⟩ := hQ55
    have N55 := Fr.app N47 N55q
    show OwnW p e below (OwnG s (fun v hh L => Q0 Z i0 j1 j3 j5 i7 fs h0 n0 v hh L ∧ ks41 ≤ hh.size) room_1.cells room_1.slots) (T55.setTop (mkF m 115 #[.val (.int i0), .val (.long j1), .second, .val (.long j3), .second, .val (.long j5), .second, .val (.int i7), .val (.int (1 : Int32)), .val (.int (2 : Int32)), .val (.int v28), .val (.long v42), .second, .val (.int ((1 : Int32) + (((i7.toUInt32 >>> ((1 : Int32) &&& 31).toUInt32).toInt32) &&& (3 : Int32)))), .val (.ref b32), .val (.int (1 : Int32)), .val (.ref b39), .unset, .unset, .unset, .unset, .unset, .unset] []))
    refine own_aload X55 hx (hb hby at_115) rfl rfl 117 rfl ?_
    refine own_iload X55 hx (hb hby at_117) rfl 119 rfl ?_
    refine own_lload X55 hx (hb hby at_119) rfl 121 rfl ?_
    have Fb32_barUntil_57 := (Fb32_barUntil_49.keep Kc55 (ninS ne_b32_bf_36 (ninS ne_b32_bu_36 (ninS ne_b32_bn_36 nin0))))
    have Zs58 : n0 ≤ T55.heap.size := (Nat.le_trans Zs54 Kc55.1)
    have Eb32_60 := (Eb32_56.keep Kc55)
    refine own_callV X55 hx hZ hown (hw _ (List.mem_of_getElem? (i := 46) rfl)) (hw _ (List.mem_of_getElem? (i := 47) rfl)) (hw _ (List.mem_of_getElem? (i := 49) rfl)) (hw _ (List.mem_of_getElem? (i := 48) rfl)) (hw _ (List.mem_of_getElem? (i := 50) rfl)) (hw _ (List.mem_of_getElem? (i := 4) rfl)) (by decide) Eb32_60 (rm5 l Z a0 hw [] b32 (1 : Int32) j5 bu_36 ku_36 (3 : Int32) [(.long (9223372036854775807 : Int64)), (.long v42), (.long (9223372036854775807 : Int64))] (.long (0 : Int64)) v42 T55.heap n0 Zs58 Fb32_barUntil_57 P55_1 ⟨by decide, by decide⟩ rfl) rfl (hb hby at_121) pd__IJ_J rfl (by rw [hml]; rfl) (st := []) rfl 0 (Nat.le_of_eq rfl) (by decide) (by decide) (by decide) (by decide) 124 rfl ?_
    intro T59 v59 L59 X59 hQ59
    obtain ⟨rfl, N59q, e59⟩ := hQ59
    have N59 := Fr.app N55 N59q
    show OwnW p e below (OwnG s (fun v hh L => Q0 Z i0 j1 j3 j5 i7 fs h0 n0 v hh L ∧ ks41 ≤ hh.size) room_1.cells room_1.slots) (T59.setTop (mkF m 124 #[.val (.int i0), .val (.long j1), .second, .val (.long j3), .second, .val (.long j5), .second, .val (.int i7), .val (.int (1 : Int32)), .val (.int (2 : Int32)), .val (.int v28), .val (.long v42), .second, .val (.int ((1 : Int32) + (((i7.toUInt32 >>> ((1 : Int32) &&& 31).toUInt32).toInt32) &&& (3 : Int32)))), .val (.ref b32), .val (.int (1 : Int32)), .val (.ref b39), .unset, .unset, .unset, .unset, .unset, .unset] [(.long (own_bu j5 v42))]))
    refine own_lstore X59 hx (hb hby at_124) #[.val (.int i0), .val (.long j1), .second, .val (.long j3), .second, .val (.long j5), .second, .val (.int i7), .val (.int (1 : Int32)), .val (.int (2 : Int32)), .val (.int v28), .val (.long v42), .second, .val (.int ((1 : Int32) + (((i7.toUInt32 >>> ((1 : Int32) &&& 31).toUInt32).toInt32) &&& (3 : Int32)))), .val (.ref b32), .val (.int (1 : Int32)), .val (.ref b39), .val (.long (own_bu j5 v42)), .second, .unset, .unset, .unset, .unset] rfl 126 rfl ?_
    refine own_iload X59 hx (hb hby at_126) rfl 128 rfl ?_
    suffices J153 : ∀ v153 : Int64, v153 = (if v28 = (0 : Int32) then (if j3 = (9223372036854775807 : Int64) then (9223372036854775807 : Int64) else (j3 * j5)) else (9223372036854775807 : Int64)) → OwnW p e below (OwnG s (fun v hh L => Q0 Z i0 j1 j3 j5 i7 fs h0 n0 v hh L ∧ ks41 ≤ hh.size) room_1.cells room_1.slots) (T59.setTop (mkF m 153 #[.val (.int i0), .val (.long j1), .second, .val (.long j3), .second, .val (.long j5), .second, .val (.int i7), .val (.int (1 : Int32)), .val (.int (2 : Int32)), .val (.int v28), .val (.long v42), .second, .val (.int ((1 : Int32) + (((i7.toUInt32 >>> ((1 : Int32) &&& 31).toUInt32).toInt32) &&& (3 : Int32)))), .val (.ref b32), .val (.int (1 : Int32)), .val (.ref b39), .val (.long (own_bu j5 v42)), .second, .val (.long v153), .second, .unset, .unset] [])) by
      by_cases hc128 : v28 = (0 : Int32)
      · -- hc128
        refine own_ifN X59 hx (hb hby at_128) (teq hc128).2 131 (by decide) ?_
        refine own_lloadN X59 hx (hb hby at_131) rfl 132 rfl ?_
        refine own_ldcJ X59 hx hZ hown (hw _ (List.mem_of_getElem? (i := 1) rfl)) (hb hby at_132) 135 rfl ?_
        refine own_lcmp X59 hx (hb hby at_135) 136 rfl ?_
        by_cases hc136 : j3 = (9223372036854775807 : Int64)
        · -- hc136
          refine own_ifN X59 hx (hb hby at_136) (teq ((lw_eq _ _).mpr hc136)).2 139 (by decide) ?_
          refine own_ldcJ X59 hx hZ hown (hw _ (List.mem_of_getElem? (i := 1) rfl)) (hb hby at_139) 142 rfl ?_
          refine own_lstore X59 hx (hb hby at_142) #[.val (.int i0), .val (.long j1), .second, .val (.long j3), .second, .val (.long j5), .second, .val (.int i7), .val (.int (1 : Int32)), .val (.int (2 : Int32)), .val (.int v28), .val (.long v42), .second, .val (.int ((1 : Int32) + (((i7.toUInt32 >>> ((1 : Int32) &&& 31).toUInt32).toInt32) &&& (3 : Int32)))), .val (.ref b32), .val (.int (1 : Int32)), .val (.ref b39), .val (.long (own_bu j5 v42)), .second, .val (.long (9223372036854775807 : Int64)), .second, .unset, .unset] rfl 144 rfl ?_
          refine own_goto X59 hx (hb hby at_144) 153 (by decide) ?_
          exact J153 _ (by rw [if_pos hc128, if_pos hc136])
        · -- not hc136
          refine own_ifY X59 hx (hb hby at_136) (feq (mt (lw_eq _ _).mp hc136)).2 147 (by decide) ?_
          refine own_lloadN X59 hx (hb hby at_147) rfl 148 rfl ?_
          refine own_lload X59 hx (hb hby at_148) rfl 150 rfl ?_
          refine own_lmul X59 hx (hb hby at_150) 151 rfl ?_
          refine own_lstore X59 hx (hb hby at_151) #[.val (.int i0), .val (.long j1), .second, .val (.long j3), .second, .val (.long j5), .second, .val (.int i7), .val (.int (1 : Int32)), .val (.int (2 : Int32)), .val (.int v28), .val (.long v42), .second, .val (.int ((1 : Int32) + (((i7.toUInt32 >>> ((1 : Int32) &&& 31).toUInt32).toInt32) &&& (3 : Int32)))), .val (.ref b32), .val (.int (1 : Int32)), .val (.ref b39), .val (.long (own_bu j5 v42)), .second, .val (.long (j3 * j5)), .second, .unset, .unset] rfl 153 rfl ?_
          exact J153 _ (by rw [if_pos hc128, if_neg hc136])
      · -- not hc128
        refine own_ifY X59 hx (hb hby at_128) (feq hc128).2 139 (by decide) ?_
        refine own_ldcJ X59 hx hZ hown (hw _ (List.mem_of_getElem? (i := 1) rfl)) (hb hby at_139) 142 rfl ?_
        refine own_lstore X59 hx (hb hby at_142) #[.val (.int i0), .val (.long j1), .second, .val (.long j3), .second, .val (.long j5), .second, .val (.int i7), .val (.int (1 : Int32)), .val (.int (2 : Int32)), .val (.int v28), .val (.long v42), .second, .val (.int ((1 : Int32) + (((i7.toUInt32 >>> ((1 : Int32) &&& 31).toUInt32).toInt32) &&& (3 : Int32)))), .val (.ref b32), .val (.int (1 : Int32)), .val (.ref b39), .val (.long (own_bu j5 v42)), .second, .val (.long (9223372036854775807 : Int64)), .second, .unset, .unset] rfl 144 rfl ?_
        refine own_goto X59 hx (hb hby at_144) 153 (by decide) ?_
        exact J153 _ (by rw [if_neg hc128])
    intro v153 hv153
    refine own_aload X59 hx (hb hby at_153) rfl rfl 155 rfl ?_
    refine own_iload X59 hx (hb hby at_155) rfl 157 rfl ?_
    refine own_lconst1 X59 hx (hb hby at_157) 158 rfl ?_
    refine own_callV X59 hx hZ hown (hw _ (List.mem_of_getElem? (i := 46) rfl)) (hw _ (List.mem_of_getElem? (i := 47) rfl)) (hw _ (List.mem_of_getElem? (i := 49) rfl)) (hw _ (List.mem_of_getElem? (i := 48) rfl)) (hw _ (List.mem_of_getElem? (i := 50) rfl)) (hw _ (List.mem_of_getElem? (i := 4) rfl)) (by decide) Eb32_60 (rm5 l Z a0 hw [] b32 (1 : Int32) (1 : Int64) bu_36 ku_36 (3 : Int32) [(.long (9223372036854775807 : Int64)), (.long v42), (.long (9223372036854775807 : Int64))] (.long (0 : Int64)) v42 T55.heap n0 Zs58 Fb32_barUntil_57 P55_1 ⟨by decide, by decide⟩ rfl) e59 (hb hby at_158) pd__IJ_J rfl (by rw [hml]; rfl) (st := []) rfl 0 (Nat.le_of_eq rfl) (by decide) (by decide) (by decide) (by decide) 161 rfl ?_
    intro T61 v61 L61 X61 hQ61
    obtain ⟨rfl, N61q, e61⟩ := hQ61
    have N61 := Fr.app N59 N61q
    show OwnW p e below (OwnG s (fun v hh L => Q0 Z i0 j1 j3 j5 i7 fs h0 n0 v hh L ∧ ks41 ≤ hh.size) room_1.cells room_1.slots) (T61.setTop (mkF m 161 #[.val (.int i0), .val (.long j1), .second, .val (.long j3), .second, .val (.long j5), .second, .val (.int i7), .val (.int (1 : Int32)), .val (.int (2 : Int32)), .val (.int v28), .val (.long v42), .second, .val (.int ((1 : Int32) + (((i7.toUInt32 >>> ((1 : Int32) &&& 31).toUInt32).toInt32) &&& (3 : Int32)))), .val (.ref b32), .val (.int (1 : Int32)), .val (.ref b39), .val (.long (own_bu j5 v42)), .second, .val (.long v153), .second, .unset, .unset] [(.long (own_bu (1 : Int64) v42))]))
    refine own_lload X61 hx (hb hby at_161) rfl 163 rfl ?_
    refine own_lcmp X61 hx (hb hby at_163) 164 rfl ?_
    have hc164 : (own_bu (1 : Int64) v42) = v42 := own_law2 _
    refine own_ifN X61 hx (hb hby at_164) (teq ((lw_eq _ _).mpr hc164)).2 167 (by decide) ?_
    refine own_iconst X61 hx (hb hby at_167) (1 : Int32) rfl 168 rfl ?_
    refine own_goto X61 hx (hb hby at_168) 172 (by decide) ?_
    refine own_istore X61 hx (hb hby at_172) #[.val (.int i0), .val (.long j1), .second, .val (.long j3), .second, .val (.long j5), .second, .val (.int i7), .val (.int (1 : Int32)), .val (.int (2 : Int32)), .val (.int v28), .val (.long v42), .second, .val (.int ((1 : Int32) + (((i7.toUInt32 >>> ((1 : Int32) &&& 31).toUInt32).toInt32) &&& (3 : Int32)))), .val (.ref b32), .val (.int (1 : Int32)), .val (.ref b39), .val (.long (own_bu j5 v42)), .second, .val (.long v153), .second, .val (.int (1 : Int32)), .unset] rfl 174 rfl ?_
    refine own_aload X61 hx (hb hby at_174) rfl rfl 176 rfl ?_
    refine own_iload X61 hx (hb hby at_176) rfl 178 rfl ?_
    refine own_lload X61 hx (hb hby at_178) rfl 180 rfl ?_
    refine own_callV X61 hx hZ hown (hw _ (List.mem_of_getElem? (i := 46) rfl)) (hw _ (List.mem_of_getElem? (i := 47) rfl)) (hw _ (List.mem_of_getElem? (i := 49) rfl)) (hw _ (List.mem_of_getElem? (i := 48) rfl)) (hw _ (List.mem_of_getElem? (i := 50) rfl)) (hw _ (List.mem_of_getElem? (i := 4) rfl)) (by decide) Eb32_60 (rm5 l Z a0 hw [] b32 (2 : Int32) j5 bu_36 ku_36 (3 : Int32) [(.long (9223372036854775807 : Int64)), (.long v42), (.long (9223372036854775807 : Int64))] (.long (0 : Int64)) (9223372036854775807 : Int64) T55.heap n0 Zs58 Fb32_barUntil_57 P55_1 ⟨by decide, by decide⟩ rfl) e61 (hb hby at_180) pd__IJ_J rfl (by rw [hml]; rfl) (st := []) rfl 0 (Nat.le_of_eq rfl) (by decide) (by decide) (by decide) (by decide) 183 rfl ?_
    intro T62 v62 L62 X62 hQ62
    obtain ⟨rfl, N62q, e62⟩ := hQ62
    have N62 := Fr.app N61 N62q
    show OwnW p e below (OwnG s (fun v hh L => Q0 Z i0 j1 j3 j5 i7 fs h0 n0 v hh L ∧ ks41 ≤ hh.size) room_1.cells room_1.slots) (T62.setTop (mkF m 183 #[.val (.int i0), .val (.long j1), .second, .val (.long j3), .second, .val (.long j5), .second, .val (.int i7), .val (.int (1 : Int32)), .val (.int (2 : Int32)), .val (.int v28), .val (.long v42), .second, .val (.int ((1 : Int32) + (((i7.toUInt32 >>> ((1 : Int32) &&& 31).toUInt32).toInt32) &&& (3 : Int32)))), .val (.ref b32), .val (.int (1 : Int32)), .val (.ref b39), .val (.long (own_bu j5 v42)), .second, .val (.long v153), .second, .val (.int (1 : Int32)), .unset] [(.long (own_bu j5 (9223372036854775807 : Int64)))]))
    refine own_ldcJ X62 hx hZ hown (hw _ (List.mem_of_getElem? (i := 1) rfl)) (hb hby at_183) 186 rfl ?_
    refine own_lcmp X62 hx (hb hby at_186) 187 rfl ?_
    have hc187 : (own_bu j5 (9223372036854775807 : Int64)) = (9223372036854775807 : Int64) := own_law1 _
    refine own_ifN X62 hx (hb hby at_187) (teq ((lw_eq _ _).mpr hc187)).2 190 (by decide) ?_
    refine own_iconst X62 hx (hb hby at_190) (1 : Int32) rfl 191 rfl ?_
    refine own_goto X62 hx (hb hby at_191) 195 (by decide) ?_
    refine own_istore X62 hx (hb hby at_195) #[.val (.int i0), .val (.long j1), .second, .val (.long j3), .second, .val (.long j5), .second, .val (.int i7), .val (.int (1 : Int32)), .val (.int (2 : Int32)), .val (.int v28), .val (.long v42), .second, .val (.int ((1 : Int32) + (((i7.toUInt32 >>> ((1 : Int32) &&& 31).toUInt32).toInt32) &&& (3 : Int32)))), .val (.ref b32), .val (.int (1 : Int32)), .val (.ref b39), .val (.long (own_bu j5 v42)), .second, .val (.long v153), .second, .val (.int (1 : Int32)), .val (.int (1 : Int32))] rfl 197 rfl ?_
    refine own_iload X62 hx (hb hby at_197) rfl 199 rfl ?_
    refine own_ifN X62 hx (hb hby at_199) (feq (by decide : ¬ ((1 : Int32) = (0 : Int32)))).1 202 (by decide) ?_
    refine own_lload X62 hx (hb hby at_202) rfl 204 rfl ?_
    refine own_lload X62 hx (hb hby at_204) rfl 206 rfl ?_
    refine own_lcmp X62 hx (hb hby at_206) 207 rfl ?_
    have hc207 : (own_bu j5 v42) = v153 := own_law3 hv42 hv153
    refine own_ifN X62 hx (hb hby at_207) (teq ((lw_eq _ _).mpr hc207)).2 210 (by decide) ?_
    refine own_iload X62 hx (hb hby at_210) rfl 212 rfl ?_
    refine own_ifN X62 hx (hb hby at_212) (feq (by decide : ¬ ((1 : Int32) = (0 : Int32)))).1 215 (by decide) ?_
    refine own_iload X62 hx (hb hby at_215) rfl 217 rfl ?_
    refine own_ifN X62 hx (hb hby at_217) (feq (by decide : ¬ ((1 : Int32) = (0 : Int32)))).1 220 (by decide) ?_
    refine own_iconst X62 hx (hb hby at_220) (1 : Int32) rfl 221 rfl ?_
    refine own_goto X62 hx (hb hby at_221) 225 (by decide) ?_
    refine own_retZ X62 hx hlk Bd.returns (by decide) (hb hby at_225) (by decide) (by decide) ?_
    show (Q0 Z i0 j1 j3 j5 i7 fs h0 n0 _ T62.heap _) ∧ ks41 ≤ T62.heap.size
    rw [e62]
    exact ⟨⟨rfl, N62⟩, (Nat.le_trans (Nat.le_trans hks41 Kc47.1) Kc55.1)⟩
  · -- case 2
    rw [hk]
    show OwnW p e below (OwnGW s (Q0 Z i0 j1 j3 j5 i7 fs h0 n0) room_1.cells room_1.slots) (s₁.setTop (mkF m 8 #[.val (.int i0), .val (.long j1), .second, .val (.long j3), .second, .val (.long j5), .second, .val (.int i7), .val (.int (2 : Int32)), .unset, .unset, .unset, .unset, .unset, .unset, .unset, .unset, .unset, .unset, .unset, .unset, .unset, .unset] []))
    refine own_iload X0 hx (hb hby at_8) rfl 10 rfl ?_
    refine own_iconst X0 hx (hb hby at_10) (1 : Int32) rfl 11 rfl ?_
    refine own_iadd X0 hx (hb hby at_11) 12 rfl ?_
    show OwnW p e below (OwnGW s (Q0 Z i0 j1 j3 j5 i7 fs h0 n0) room_1.cells room_1.slots) (s₁.setTop (mkF m 12 #[.val (.int i0), .val (.long j1), .second, .val (.long j3), .second, .val (.long j5), .second, .val (.int i7), .val (.int (2 : Int32)), .unset, .unset, .unset, .unset, .unset, .unset, .unset, .unset, .unset, .unset, .unset, .unset, .unset, .unset] [(.int (3 : Int32))]))
    refine own_iconst X0 hx (hb hby at_12) (3 : Int32) rfl 13 rfl ?_
    refine own_irem X0 hx (hb hby at_13) (by decide) 14 rfl ?_
    show OwnW p e below (OwnGW s (Q0 Z i0 j1 j3 j5 i7 fs h0 n0) room_1.cells room_1.slots) (s₁.setTop (mkF m 14 #[.val (.int i0), .val (.long j1), .second, .val (.long j3), .second, .val (.long j5), .second, .val (.int i7), .val (.int (2 : Int32)), .unset, .unset, .unset, .unset, .unset, .unset, .unset, .unset, .unset, .unset, .unset, .unset, .unset, .unset] [(.int (0 : Int32))]))
    refine own_istore X0 hx (hb hby at_14) #[.val (.int i0), .val (.long j1), .second, .val (.long j3), .second, .val (.long j5), .second, .val (.int i7), .val (.int (2 : Int32)), .val (.int (0 : Int32)), .unset, .unset, .unset, .unset, .unset, .unset, .unset, .unset, .unset, .unset, .unset, .unset, .unset] rfl 16 rfl ?_
    refine own_iload X0 hx (hb hby at_16) rfl 18 rfl ?_
    refine own_iconst X0 hx (hb hby at_18) (1 : Int32) rfl 19 rfl ?_
    refine own_iand X0 hx (hb hby at_19) 20 rfl ?_
    suffices J28 : ∀ v28 : Int32, v28 = (if (i7 &&& (1 : Int32)) = (0 : Int32) then (0 : Int32) else (1 : Int32)) → OwnW p e below (OwnGW s (Q0 Z i0 j1 j3 j5 i7 fs h0 n0) room_1.cells room_1.slots) (s₁.setTop (mkF m 28 #[.val (.int i0), .val (.long j1), .second, .val (.long j3), .second, .val (.long j5), .second, .val (.int i7), .val (.int (2 : Int32)), .val (.int (0 : Int32)), .unset, .unset, .unset, .unset, .unset, .unset, .unset, .unset, .unset, .unset, .unset, .unset, .unset] [(.int v28)])) by
      by_cases hc20 : (i7 &&& (1 : Int32)) = (0 : Int32)
      · -- hc20
        refine own_ifY X0 hx (hb hby at_20) (teq hc20).1 27 (by decide) ?_
        refine own_iconst X0 hx (hb hby at_27) (0 : Int32) rfl 28 rfl ?_
        exact J28 _ (by rw [if_pos hc20])
      · -- not hc20
        refine own_ifN X0 hx (hb hby at_20) (feq hc20).1 23 (by decide) ?_
        refine own_iconst X0 hx (hb hby at_23) (1 : Int32) rfl 24 rfl ?_
        refine own_goto X0 hx (hb hby at_24) 28 (by decide) ?_
        exact J28 _ (by rw [if_neg hc20])
    intro v28 hv28
    refine own_istore X0 hx (hb hby at_28) #[.val (.int i0), .val (.long j1), .second, .val (.long j3), .second, .val (.long j5), .second, .val (.int i7), .val (.int (2 : Int32)), .val (.int (0 : Int32)), .val (.int v28), .unset, .unset, .unset, .unset, .unset, .unset, .unset, .unset, .unset, .unset, .unset, .unset] rfl 30 rfl ?_
    refine own_iload X0 hx (hb hby at_30) rfl 32 rfl ?_
    suffices J42 : ∀ v42 : Int64, v42 = (if v28 = (0 : Int32) then j3 else (9223372036854775807 : Int64)) → OwnW p e below (OwnGW s (Q0 Z i0 j1 j3 j5 i7 fs h0 n0) room_1.cells room_1.slots) (s₁.setTop (mkF m 42 #[.val (.int i0), .val (.long j1), .second, .val (.long j3), .second, .val (.long j5), .second, .val (.int i7), .val (.int (2 : Int32)), .val (.int (0 : Int32)), .val (.int v28), .unset, .unset, .unset, .unset, .unset, .unset, .unset, .unset, .unset, .unset, .unset, .unset] [(.long v42)])) by
      by_cases hc32 : v28 = (0 : Int32)
      · -- hc32
        refine own_ifY X0 hx (hb hby at_32) (teq hc32).1 41 (by decide) ?_
        refine own_lloadN X0 hx (hb hby at_41) rfl 42 rfl ?_
        exact J42 _ (by rw [if_pos hc32])
      · -- not hc32
        refine own_ifN X0 hx (hb hby at_32) (feq hc32).1 35 (by decide) ?_
        refine own_ldcJ X0 hx hZ hown (hw _ (List.mem_of_getElem? (i := 1) rfl)) (hb hby at_35) 38 rfl ?_
        refine own_goto X0 hx (hb hby at_38) 42 (by decide) ?_
        exact J42 _ (by rw [if_neg hc32])
    intro v42 hv42
    refine own_lstore X0 hx (hb hby at_42) #[.val (.int i0), .val (.long j1), .second, .val (.long j3), .second, .val (.long j5), .second, .val (.int i7), .val (.int (2 : Int32)), .val (.int (0 : Int32)), .val (.int v28), .val (.long v42), .second, .unset, .unset, .unset, .unset, .unset, .unset, .unset, .unset, .unset, .unset] rfl 44 rfl ?_
    refine own_iconst X0 hx (hb hby at_44) (1 : Int32) rfl 45 rfl ?_
    refine own_iload X0 hx (hb hby at_45) rfl 47 rfl ?_
    refine own_iconst X0 hx (hb hby at_47) (1 : Int32) rfl 48 rfl ?_
    refine own_iushr X0 hx (hb hby at_48) 49 rfl ?_
    refine own_iconst X0 hx (hb hby at_49) (3 : Int32) rfl 50 rfl ?_
    refine own_iand X0 hx (hb hby at_50) 51 rfl ?_
    refine own_iadd X0 hx (hb hby at_51) 52 rfl ?_
    refine own_istore X0 hx (hb hby at_52) #[.val (.int i0), .val (.long j1), .second, .val (.long j3), .second, .val (.long j5), .second, .val (.int i7), .val (.int (2 : Int32)), .val (.int (0 : Int32)), .val (.int v28), .val (.long v42), .second, .val (.int ((1 : Int32) + (((i7.toUInt32 >>> ((1 : Int32) &&& 31).toUInt32).toInt32) &&& (3 : Int32)))), .unset, .unset, .unset, .unset, .unset, .unset, .unset, .unset, .unset] rfl 54 rfl ?_
    refine own_new X0 hx hZ hown (hw _ (List.mem_of_getElem? (i := 2) rfl)) (hw _ (List.mem_of_getElem? (i := 3) rfl)) (hw _ (List.mem_of_getElem? (i := 4) rfl)) e0 (hb hby at_54) (by decide) (by decide) 57 rfl ?_
    intro T63 h63 b63 qe63 X63 e63 E63 A63 D63
    have ne_fs_b63 : fs ≠ b63 := Nat.ne_of_lt (Nat.lt_of_lt_of_le E_fs.lt (Nat.le_of_eq qe63.symm))
    have g_b63 : n0 ≤ b63 := Nat.le_trans Z0 (Nat.le_of_eq qe63.symm)
    have F63_isDown : Fld Z h63 b63 "com/example/holdfast/holdfast/MachineStates" "isDown" "[Z" .null := D63 (Or.inr (hw _ (List.mem_of_getElem? (i := 13) rfl))) (ty := (.array .boolean)) (by decide)
    have F63_lost : Fld Z h63 b63 "com/example/holdfast/holdfast/MachineStates" "lost" "[I" .null := D63 (Or.inr (hw _ (List.mem_of_getElem? (i := 16) rfl))) (ty := (.array .int)) (by decide)
    have F63_draining : Fld Z h63 b63 "com/example/holdfast/holdfast/MachineStates" "draining" "[I" .null := D63 (Or.inr (hw _ (List.mem_of_getElem? (i := 18) rfl))) (ty := (.array .int)) (by decide)
    have F63_gates : Fld Z h63 b63 "com/example/holdfast/holdfast/MachineStates" "gates" "[Lcom/example/holdfast/holdfast/MachineStates$Gate;" .null := D63 (Or.inr (hw _ (List.mem_of_getElem? (i := 22) rfl))) (ty := (.array (.object "com/example/holdfast/holdfast/MachineStates$Gate"))) (by decide)
    have F63_barFrom : Fld Z h63 b63 "com/example/holdfast/holdfast/MachineStates" "barFrom" "[J" .null := D63 (Or.inr (hw _ (List.mem_of_getElem? (i := 25) rfl))) (ty := (.array .long)) (by decide)
    have F63_barUntil : Fld Z h63 b63 "com/example/holdfast/holdfast/MachineStates" "barUntil" "[J" .null := D63 (Or.inr (hw _ (List.mem_of_getElem? (i := 27) rfl))) (ty := (.array .long)) (by decide)
    have F63_barNodes : Fld Z h63 b63 "com/example/holdfast/holdfast/MachineStates" "barNodes" "[I" .null := D63 (Or.inr (hw _ (List.mem_of_getElem? (i := 29) rfl))) (ty := (.array .int)) (by decide)
    have F63_uptimes : Fld Z h63 b63 "com/example/holdfast/holdfast/MachineStates" "uptimes" "[Lcom/example/holdfast/holdfast/MachineStates$Uptime;" .null := D63 (Or.inr (hw _ (List.mem_of_getElem? (i := 33) rfl))) (ty := (.array (.object "com/example/holdfast/holdfast/MachineStates$Uptime"))) (by decide)
    refine own_dup X63 hx (hb hby at_57) rfl 58 rfl ?_
    refine own_iconst X63 hx (hb hby at_58) (3 : Int32) rfl 59 rfl ?_
    have ScomexampleholdfastholdfastMachineStatesUptime_FROM_START_64 := (S_FROM_START.ext E63)
    have Efs_65 := (E_fs.ext E63)
    have Zs66 : n0 ≤ h63.size := (Nat.le_trans Z0 E63.1)
    refine own_callI X63 hx hZ hown rfl (hw _ (List.mem_of_getElem? (i := 5) rfl)) (hw _ (List.mem_of_getElem? (i := 6) rfl)) (hw _ (List.mem_of_getElem? (i := 7) rfl)) (hw _ (List.mem_of_getElem? (i := 4) rfl)) (by decide) (rm1 l Z a0 hw [] b63 .null .null .null .null .null .null .null .null fs h63 n0 Zs66 A63 g_b63 F63_isDown F63_lost F63_draining F63_gates F63_barFrom F63_barUntil F63_barNodes F63_uptimes ScomexampleholdfastholdfastMachineStatesUptime_FROM_START_64 Efs_65 ne_fs_b63) e63 (hb hby at_59) pd__I_V rfl (by rw [hml]; rfl) (st := [(.ref b63)]) rfl 1 (Nat.le_of_eq rfl) (by decide) (by decide) (by decide) (by decide) 62 rfl ?_
    intro T67 v67 L67 X67 hQ67
    obtain ⟨bf_67, bu_67, bn_67, kf_67, ku_67, kn_67, rfl, N67q, Kc67, P67_0, P67_1, P67_2, P67_3, P67_4, P67_5, P67_6, P67_7, P67_8, P67_9, P67_10, P67_11, P67_12⟩ := hQ67
    have N67 := Fr.app N0 N67q
    have ne_fs_bf_67 : fs ≠ bf_67 := Nat.ne_of_lt (Nat.lt_of_lt_of_le Efs_65.lt P67_0)
    have ne_b63_bf_67 : b63 ≠ bf_67 := Nat.ne_of_lt (Nat.lt_of_lt_of_le A63.lt P67_0)
    have g_bf_67 : n0 ≤ bf_67 := Nat.le_trans Zs66 P67_0
    have ne_fs_bu_67 : fs ≠ bu_67 := Nat.ne_of_lt (Nat.lt_of_lt_of_le Efs_65.lt P67_1)
    have ne_b63_bu_67 : b63 ≠ bu_67 := Nat.ne_of_lt (Nat.lt_of_lt_of_le A63.lt P67_1)
    have g_bu_67 : n0 ≤ bu_67 := Nat.le_trans Zs66 P67_1
    have ne_fs_bn_67 : fs ≠ bn_67 := Nat.ne_of_lt (Nat.lt_of_lt_of_le Efs_65.lt P67_2)
    have ne_b63_bn_67 : b63 ≠ bn_67 := Nat.ne_of_lt (Nat.lt_of_lt_of_le A63.lt P67_2)
    have g_bn_67 : n0 ≤ bn_67 := Nat.le_trans Zs66 P67_2
    show OwnW p e below (OwnGW s (Q0 Z i0 j1 j3 j5 i7 fs h0 n0) room_1.cells room_1.slots) (T67.setTop (mkF m 62 #[.val (.int i0), .val (.long j1), .second, .val (.long j3), .second, .val (.long j5), .second, .val (.int i7), .val (.int (2 : Int32)), .val (.int (0 : Int32)), .val (.int v28), .val (.long v42), .second, .val (.int ((1 : Int32) + (((i7.toUInt32 >>> ((1 : Int32) &&& 31).toUInt32).toInt32) &&& (3 : Int32)))), .unset, .unset, .unset, .unset, .unset, .unset, .unset, .unset, .unset] [(.ref b63)]))
    refine own_astore X67 hx (hb hby at_62) rfl #[.val (.int i0), .val (.long j1), .second, .val (.long j3), .second, .val (.long j5), .second, .val (.int i7), .val (.int (2 : Int32)), .val (.int (0 : Int32)), .val (.int v28), .val (.long v42), .second, .val (.int ((1 : Int32) + (((i7.toUInt32 >>> ((1 : Int32) &&& 31).toUInt32).toInt32) &&& (3 : Int32)))), .val (.ref b63), .unset, .unset, .unset, .unset, .unset, .unset, .unset, .unset] rfl 64 rfl ?_
    refine own_aload X67 hx (hb hby at_64) rfl rfl 66 rfl ?_
    refine own_iload X67 hx (hb hby at_66) rfl 68 rfl ?_
    refine own_lload X67 hx (hb hby at_68) rfl 70 rfl ?_
    have Zs68 : n0 ≤ T67.heap.size := (Nat.le_trans Zs66 Kc67.1)
    refine own_callV X67 hx hZ hown (hw _ (List.mem_of_getElem? (i := 46) rfl)) (hw _ (List.mem_of_getElem? (i := 47) rfl)) (hw _ (List.mem_of_getElem? (i := 49) rfl)) (hw _ (List.mem_of_getElem? (i := 48) rfl)) (hw _ (List.mem_of_getElem? (i := 50) rfl)) (hw _ (List.mem_of_getElem? (i := 4) rfl)) (by decide) P67_6 (rm5 l Z a0 hw [] b63 (2 : Int32) j5 bu_67 ku_67 (3 : Int32) [(.long (9223372036854775807 : Int64)), (.long (9223372036854775807 : Int64)), (.long (9223372036854775807 : Int64))] (.long (0 : Int64)) (9223372036854775807 : Int64) T67.heap n0 Zs68 P67_8 P67_11 ⟨by decide, by decide⟩ rfl) rfl (hb hby at_70) pd__IJ_J rfl (by rw [hml]; rfl) (st := []) rfl 0 (Nat.le_of_eq rfl) (by decide) (by decide) (by decide) (by decide) 73 rfl ?_
    intro T69 v69 L69 X69 hQ69
    obtain ⟨rfl, N69q, e69⟩ := hQ69
    have N69 := Fr.app N67 N69q
    show OwnW p e below (OwnGW s (Q0 Z i0 j1 j3 j5 i7 fs h0 n0) room_1.cells room_1.slots) (T69.setTop (mkF m 73 #[.val (.int i0), .val (.long j1), .second, .val (.long j3), .second, .val (.long j5), .second, .val (.int i7), .val (.int (2 : Int32)), .val (.int (0 : Int32)), .val (.int v28), .val (.long v42), .second, .val (.int ((1 : Int32) + (((i7.toUInt32 >>> ((1 : Int32) &&& 31).toUInt32).toInt32) &&& (3 : Int32)))), .val (.ref b63), .unset, .unset, .unset, .unset, .unset, .unset, .unset, .unset] [(.long (own_bu j5 (9223372036854775807 : Int64)))]))
    refine own_ldcJ X69 hx hZ hown (hw _ (List.mem_of_getElem? (i := 1) rfl)) (hb hby at_73) 76 rfl ?_
    refine own_lcmp X69 hx (hb hby at_76) 77 rfl ?_
    have hc77 : (own_bu j5 (9223372036854775807 : Int64)) = (9223372036854775807 : Int64) := own_law1 _
    refine own_ifN X69 hx (hb hby at_77) (teq ((lw_eq _ _).mpr hc77)).2 80 (by decide) ?_
    refine own_iconst X69 hx (hb hby at_80) (1 : Int32) rfl 81 rfl ?_
    refine own_goto X69 hx (hb hby at_81) 85 (by decide) ?_
    refine own_istore X69 hx (hb hby at_85) #[.val (.int i0), .val (.long j1), .second, .val (.long j3), .second, .val (.long j5), .second, .val (.int i7), .val (.int (2 : Int32)), .val (.int (0 : Int32)), .val (.int v28), .val (.long v42), .second, .val (.int ((1 : Int32) + (((i7.toUInt32 >>> ((1 : Int32) &&& 31).toUInt32).toInt32) &&& (3 : Int32)))), .val (.ref b63), .val (.int (1 : Int32)), .unset, .unset, .unset, .unset, .unset, .unset, .unset] rfl 87 rfl ?_
    refine own_new X69 hx hZ hown (hw _ (List.mem_of_getElem? (i := 51) rfl)) (hw _ (List.mem_of_getElem? (i := 52) rfl)) (hw _ (List.mem_of_getElem? (i := 53) rfl)) e69 (hb hby at_87) (by decide) (by decide) 90 rfl ?_
    intro T70 h70 b70 qe70 X70 e70 E70 A70 D70
    have Efs_71 := (Efs_65.keep Kc67)
    have ne_fs_b70 : fs ≠ b70 := Nat.ne_of_lt (Nat.lt_of_lt_of_le Efs_71.lt (Nat.le_of_eq qe70.symm))
    have ne_b63_b70 : b63 ≠ b70 := Nat.ne_of_lt (Nat.lt_of_lt_of_le P67_6.lt (Nat.le_of_eq qe70.symm))
    have ne_bf_67_b70 : bf_67 ≠ b70 := Nat.ne_of_lt (Nat.lt_of_lt_of_le P67_10.lt (Nat.le_of_eq qe70.symm))
    have ne_bu_67_b70 : bu_67 ≠ b70 := Nat.ne_of_lt (Nat.lt_of_lt_of_le P67_11.lt (Nat.le_of_eq qe70.symm))
    have ne_bn_67_b70 : bn_67 ≠ b70 := Nat.ne_of_lt (Nat.lt_of_lt_of_le P67_12.lt (Nat.le_of_eq qe70.symm))
    have g_b70 : n0 ≤ b70 := Nat.le_trans Zs68 (Nat.le_of_eq qe70.symm)
    have F70_number : Fld Z h70 b70 "com/example/holdfast/holdfast/Machine" "number" "I" (.int (0 : Int32)) := D70 (Or.inr (hw _ (List.mem_of_getElem? (i := 72) rfl))) (ty := .int) (by decide)
    have F70_name : Fld Z h70 b70 "com/example/holdfast/holdfast/Machine" "name" "Ljava/lang/String;" .null := D70 (Or.inr (hw _ (List.mem_of_getElem? (i := 74) rfl))) (ty := (.object "java/lang/String")) (by decide)
    have F70_nodes : Fld Z h70 b70 "com/example/holdfast/holdfast/Machine" "nodes" "I" (.int (0 : Int32)) := D70 (Or.inr (hw _ (List.mem_of_getElem? (i := 76) rfl))) (ty := .int) (by decide)
    refine own_dup X70 hx (hb hby at_90) rfl 91 rfl ?_
    refine own_iload X70 hx (hb hby at_91) rfl 93 rfl ?_
    refine own_iconst X70 hx (hb hby at_93) (1 : Int32) rfl 94 rfl ?_
    refine own_iadd X70 hx (hb hby at_94) 95 rfl ?_
    show OwnW p e below (OwnGW s (Q0 Z i0 j1 j3 j5 i7 fs h0 n0) room_1.cells room_1.slots) (T70.setTop (mkF m 95 #[.val (.int i0), .val (.long j1), .second, .val (.long j3), .second, .val (.long j5), .second, .val (.int i7), .val (.int (2 : Int32)), .val (.int (0 : Int32)), .val (.int v28), .val (.long v42), .second, .val (.int ((1 : Int32) + (((i7.toUInt32 >>> ((1 : Int32) &&& 31).toUInt32).toInt32) &&& (3 : Int32)))), .val (.ref b63), .val (.int (1 : Int32)), .unset, .unset, .unset, .unset, .unset, .unset, .unset] [(.int (3 : Int32)), (.ref b70), (.ref b70)]))
    refine own_ldcS X70 hx hZ hown (hw _ (List.mem_of_getElem? (i := 54) rfl)) (fun a ha => hw a (own_strW a ha)) e70 (hb hby at_95) 8 (by decide +kernel) (by decide) (by decide) (by decide) 97 rfl ?_
    intro s sa72 T72 h72 ks72 X72 e72 E72 hks72 hZ hown
    refine own_iconst X72 hx (hb hby at_97) (4 : Int32) rfl 98 rfl ?_
    have Eb70_73 := (A70.ext E72)
    have Fb70_number_74 := (F70_number.ext E72)
    have Fb70_name_75 := (F70_name.ext E72)
    have Fb70_nodes_76 := (F70_nodes.ext E72)
    have Zs77 : n0 ≤ h72.size := (Nat.le_trans (Nat.le_trans Zs68 E70.1) E72.1)
    refine own_callI X72 hx hZ hown rfl (hw _ (List.mem_of_getElem? (i := 62) rfl)) (hw _ (List.mem_of_getElem? (i := 63) rfl)) (hw _ (List.mem_of_getElem? (i := 64) rfl)) (hw _ (List.mem_of_getElem? (i := 53) rfl)) (by decide) (rm6 l Z a0 hw [] b70 (3 : Int32) sa72 (4 : Int32) (.int (0 : Int32)) .null (.int (0 : Int32)) h72 n0 Zs77 Eb70_73 g_b70 Fb70_number_74 Fb70_name_75 Fb70_nodes_76) e72 (hb hby at_98) pd__ILjava_lang_String_I_V rfl (by rw [hml]; rfl) (st := [(.ref b70)]) rfl 1 (Nat.le_of_eq rfl) (by decide) (by decide) (by decide) (by decide) 101 rfl ?_
    intro T78 v78 L78 X78 hQ78
    obtain ⟨rfl, N78q, Kc78, P78_0, P78_1⟩ := hQ78
    have N78 := Fr.app N69 N78q
    show OwnW p e below (OwnG s (fun v hh L => Q0 Z i0 j1 j3 j5 i7 fs h0 n0 v hh L ∧ ks72 ≤ hh.size) room_1.cells room_1.slots) (T78.setTop (mkF m 101 #[.val (.int i0), .val (.long j1), .second, .val (.long j3), .second, .val (.long j5), .second, .val (.int i7), .val (.int (2 : Int32)), .val (.int (0 : Int32)), .val (.int v28), .val (.long v42), .second, .val (.int ((1 : Int32) + (((i7.toUInt32 >>> ((1 : Int32) &&& 31).toUInt32).toInt32) &&& (3 : Int32)))), .val (.ref b63), .val (.int (1 : Int32)), .unset, .unset, .unset, .unset, .unset, .unset, .unset] [(.ref b70)]))
    refine own_astore X78 hx (hb hby at_101) rfl #[.val (.int i0), .val (.long j1), .second, .val (.long j3), .second, .val (.long j5), .second, .val (.int i7), .val (.int (2 : Int32)), .val (.int (0 : Int32)), .val (.int v28), .val (.long v42), .second, .val (.int ((1 : Int32) + (((i7.toUInt32 >>> ((1 : Int32) &&& 31).toUInt32).toInt32) &&& (3 : Int32)))), .val (.ref b63), .val (.int (1 : Int32)), .val (.ref b70), .unset, .unset, .unset, .unset, .unset, .unset] rfl 103 rfl ?_
    refine own_aload X78 hx (hb hby at_103) rfl rfl 105 rfl ?_
    refine own_aload X78 hx (hb hby at_105) rfl rfl 107 rfl ?_
    refine own_lloadN X78 hx (hb hby at_107) rfl 108 rfl ?_
    refine own_lload X78 hx (hb hby at_108) rfl 110 rfl ?_
    refine own_iload X78 hx (hb hby at_110) rfl 112 rfl ?_
    have Fb63_barFrom_79 := (((P67_7.ext E70).ext E72).keep Kc78 (ninS ne_b63_b70 nin0))
    have Fb63_barUntil_80 := (((P67_8.ext E70).ext E72).keep Kc78 (ninS ne_b63_b70 nin0))
    have Fb63_barNodes_81 := (((P67_9.ext E70).ext E72).keep Kc78 (ninS ne_b63_b70 nin0))
    have Vbf_67_82 := (((P67_10.ext E70).ext E72).keep Kc78 (ninS ne_bf_67_b70 nin0))
    have Vbu_67_83 := (((P67_11.ext E70).ext E72).keep Kc78 (ninS ne_bu_67_b70 nin0))
    have Vbn_67_84 := (((P67_12.ext E70).ext E72).keep Kc78 (ninS ne_bn_67_b70 nin0))
    have Zs85 : n0 ≤ T78.heap.size := (Nat.le_trans Zs77 Kc78.1)
    have Eb63_87 := (((P67_6.ext E70).ext E72).keep Kc78)
    refine own_callV X78 hx hZ hown (hw _ (List.mem_of_getElem? (i := 77) rfl)) (hw _ (List.mem_of_getElem? (i := 78) rfl)) (hw _ (List.mem_of_getElem? (i := 80) rfl)) (hw _ (List.mem_of_getElem? (i := 79) rfl)) (hw _ (List.mem_of_getElem? (i := 81) rfl)) (hw _ (List.mem_of_getElem? (i := 4) rfl)) (by decide) Eb63_87 (rm8_2 l Z a0 hw [] b63 b70 j1 v42 ((1 : Int32) + (((i7.toUInt32 >>> ((1 : Int32) &&& 31).toUInt32).toInt32) &&& (3 : Int32))) bf_67 bu_67 bn_67 kf_67 ku_67 kn_67 (9223372036854775807 : Int64) (9223372036854775807 : Int64) (9223372036854775807 : Int64) (9223372036854775807 : Int64) (9223372036854775807 : Int64) (9223372036854775807 : Int64) (0 : Int32) (0 : Int32) (0 : Int32) T78.heap n0 Zs85 Fb63_barFrom_79 Fb63_barUntil_80 Fb63_barNodes_81 P78_0 P78_1 Vbf_67_82 Vbu_67_83 Vbn_67_84 g_bf_67 g_bu_67 g_bn_67 ne_b63_bf_67 ne_b63_bu_67 ne_b63_bn_67 P67_3 P67_4 P67_5) rfl (hb hby at_112) pd__Lcom_example_holdfast_holdfast_Machine_JJI_V rfl (by rw [hml]; rfl) (st := []) rfl 0 (Nat.le_of_eq rfl) (by decide) (by decide) (by decide) (by decide) 115 rfl ?_
    intro T86 v86 L86 X86 hQ86
    obtain ⟨rfl, N86q, Kc86, P86_0, P86_1, P86_2⟩ := hQ86
    have N86 := Fr.app N78 N86q
    show OwnW p e below (OwnG s (fun v hh L => Q0 Z i0 j1 j3 j5 i7 fs h0 n0 v hh L ∧ ks72 ≤ hh.size) room_1.cells room_1.slots) (T86.setTop (mkF m 115 #[.val (.int i0), .val (.long j1), .second, .val (.long j3), .second, .val (.long j5), .second, .val (.int i7), .val (.int (2 : Int32)), .val (.int (0 : Int32)), .val (.int v28), .val (.long v42), .second, .val (.int ((1 : Int32) + (((i7.toUInt32 >>> ((1 : Int32) &&& 31).toUInt32).toInt32) &&& (3 : Int32)))), .val (.ref b63), .val (.int (1 : Int32)), .val (.ref b70), .unset, .unset, .unset, .unset, .unset, .unset] []))
    refine own_aload X86 hx (hb hby at_115) rfl rfl 117 rfl ?_
    refine own_iload X86 hx (hb hby at_117) rfl 119 rfl ?_
    refine own_lload X86 hx (hb hby at_119) rfl 121 rfl ?_
    have Fb63_barUntil_88 := (Fb63_barUntil_80.keep Kc86 (ninS ne_b63_bf_67 (ninS ne_b63_bu_67 (ninS ne_b63_bn_67 nin0))))
    have Zs89 : n0 ≤ T86.heap.size := (Nat.le_trans Zs85 Kc86.1)
    have Eb63_91 := (Eb63_87.keep Kc86)
    refine own_callV X86 hx hZ hown (hw _ (List.mem_of_getElem? (i := 46) rfl)) (hw _ (List.mem_of_getElem? (i := 47) rfl)) (hw _ (List.mem_of_getElem? (i := 49) rfl)) (hw _ (List.mem_of_getElem? (i := 48) rfl)) (hw _ (List.mem_of_getElem? (i := 50) rfl)) (hw _ (List.mem_of_getElem? (i := 4) rfl)) (by decide) Eb63_91 (rm5 l Z a0 hw [] b63 (2 : Int32) j5 bu_67 ku_67 (3 : Int32) [(.long (9223372036854775807 : Int64)), (.long (9223372036854775807 : Int64)), (.long v42)] (.long (0 : Int64)) v42 T86.heap n0 Zs89 Fb63_barUntil_88 P86_1 ⟨by decide, by decide⟩ rfl) rfl (hb hby at_121) pd__IJ_J rfl (by rw [hml]; rfl) (st := []) rfl 0 (Nat.le_of_eq rfl) (by decide) (by decide) (by decide) (by decide) 124 rfl ?_
    intro T90 v90 L90 X90 hQ90
    obtain ⟨rfl, N90q, e90⟩ := hQ90
    have N90 := Fr.app N86 N90q
    show OwnW p e below (OwnG s (fun v hh L => Q0 Z i0 j1 j3 j5 i7 fs h0 n0 v hh L ∧ ks72 ≤ hh.size) room_1.cells room_1.slots) (T90.setTop (mkF m 124 #[.val (.int i0), .val (.long j1), .second, .val (.long j3), .second, .val (.long j5), .second, .val (.int i7), .val (.int (2 : Int32)), .val (.int (0 : Int32)), .val (.int v28), .val (.long v42), .second, .val (.int ((1 : Int32) + (((i7.toUInt32 >>> ((1 : Int32) &&& 31).toUInt32).toInt32) &&& (3 : Int32)))), .val (.ref b63), .val (.int (1 : Int32)), .val (.ref b70), .unset, .unset, .unset, .unset, .unset, .unset] [(.long (own_bu j5 v42))]))
    refine own_lstore X90 hx (hb hby at_124) #[.val (.int i0), .val (.long j1), .second, .val (.long j3), .second, .val (.long j5), .second, .val (.int i7), .val (.int (2 : Int32)), .val (.int (0 : Int32)), .val (.int v28), .val (.long v42), .second, .val (.int ((1 : Int32) + (((i7.toUInt32 >>> ((1 : Int32) &&& 31).toUInt32).toInt32) &&& (3 : Int32)))), .val (.ref b63), .val (.int (1 : Int32)), .val (.ref b70), .val (.long (own_bu j5 v42)), .second, .unset, .unset, .unset, .unset] rfl 126 rfl ?_
    refine own_iload X90 hx (hb hby at_126) rfl 128 rfl ?_
    suffices J153 : ∀ v153 : Int64, v153 = (if v28 = (0 : Int32) then (if j3 = (9223372036854775807 : Int64) then (9223372036854775807 : Int64) else (j3 * j5)) else (9223372036854775807 : Int64)) → OwnW p e below (OwnG s (fun v hh L => Q0 Z i0 j1 j3 j5 i7 fs h0 n0 v hh L ∧ ks72 ≤ hh.size) room_1.cells room_1.slots) (T90.setTop (mkF m 153 #[.val (.int i0), .val (.long j1), .second, .val (.long j3), .second, .val (.long j5), .second, .val (.int i7), .val (.int (2 : Int32)), .val (.int (0 : Int32)), .val (.int v28), .val (.long v42), .second, .val (.int ((1 : Int32) + (((i7.toUInt32 >>> ((1 : Int32) &&& 31).toUInt32).toInt32) &&& (3 : Int32)))), .val (.ref b63), .val (.int (1 : Int32)), .val (.ref b70), .val (.long (own_bu j5 v42)), .second, .val (.long v153), .second, .unset, .unset] [])) by
      by_cases hc128 : v28 = (0 : Int32)
      · -- hc128
        refine own_ifN X90 hx (hb hby at_128) (teq hc128).2 131 (by decide) ?_
        refine own_lloadN X90 hx (hb hby at_131) rfl 132 rfl ?_
        refine own_ldcJ X90 hx hZ hown (hw _ (List.mem_of_getElem? (i := 1) rfl)) (hb hby at_132) 135 rfl ?_
        refine own_lcmp X90 hx (hb hby at_135) 136 rfl ?_
        by_cases hc136 : j3 = (9223372036854775807 : Int64)
        · -- hc136
          refine own_ifN X90 hx (hb hby at_136) (teq ((lw_eq _ _).mpr hc136)).2 139 (by decide) ?_
          refine own_ldcJ X90 hx hZ hown (hw _ (List.mem_of_getElem? (i := 1) rfl)) (hb hby at_139) 142 rfl ?_
          refine own_lstore X90 hx (hb hby at_142) #[.val (.int i0), .val (.long j1), .second, .val (.long j3), .second, .val (.long j5), .second, .val (.int i7), .val (.int (2 : Int32)), .val (.int (0 : Int32)), .val (.int v28), .val (.long v42), .second, .val (.int ((1 : Int32) + (((i7.toUInt32 >>> ((1 : Int32) &&& 31).toUInt32).toInt32) &&& (3 : Int32)))), .val (.ref b63), .val (.int (1 : Int32)), .val (.ref b70), .val (.long (own_bu j5 v42)), .second, .val (.long (9223372036854775807 : Int64)), .second, .unset, .unset] rfl 144 rfl ?_
          refine own_goto X90 hx (hb hby at_144) 153 (by decide) ?_
          exact J153 _ (by rw [if_pos hc128, if_pos hc136])
        · -- not hc136
          refine own_ifY X90 hx (hb hby at_136) (feq (mt (lw_eq _ _).mp hc136)).2 147 (by decide) ?_
          refine own_lloadN X90 hx (hb hby at_147) rfl 148 rfl ?_
          refine own_lload X90 hx (hb hby at_148) rfl 150 rfl ?_
          refine own_lmul X90 hx (hb hby at_150) 151 rfl ?_
          refine own_lstore X90 hx (hb hby at_151) #[.val (.int i0), .val (.long j1), .second, .val (.long j3), .second, .val (.long j5), .second, .val (.int i7), .val (.int (2 : Int32)), .val (.int (0 : Int32)), .val (.int v28), .val (.long v42), .second, .val (.int ((1 : Int32) + (((i7.toUInt32 >>> ((1 : Int32) &&& 31).toUInt32).toInt32) &&& (3 : Int32)))), .val (.ref b63), .val (.int (1 : Int32)), .val (.ref b70), .val (.long (own_bu j5 v42)), .second, .val (.long (j3 * j5)), .second, .unset, .unset] rfl 153 rfl ?_
          exact J153 _ (by rw [if_pos hc128, if_neg hc136])
      · -- not hc128
        refine own_ifY X90 hx (hb hby at_128) (feq hc128).2 139 (by decide) ?_
        refine own_ldcJ X90 hx hZ hown (hw _ (List.mem_of_getElem? (i := 1) rfl)) (hb hby at_139) 142 rfl ?_
        refine own_lstore X90 hx (hb hby at_142) #[.val (.int i0), .val (.long j1), .second, .val (.long j3), .second, .val (.long j5), .second, .val (.int i7), .val (.int (2 : Int32)), .val (.int (0 : Int32)), .val (.int v28), .val (.long v42), .second, .val (.int ((1 : Int32) + (((i7.toUInt32 >>> ((1 : Int32) &&& 31).toUInt32).toInt32) &&& (3 : Int32)))), .val (.ref b63), .val (.int (1 : Int32)), .val (.ref b70), .val (.long (own_bu j5 v42)), .second, .val (.long (9223372036854775807 : Int64)), .second, .unset, .unset] rfl 144 rfl ?_
        refine own_goto X90 hx (hb hby at_144) 153 (by decide) ?_
        exact J153 _ (by rw [if_neg hc128])
    intro v153 hv153
    refine own_aload X90 hx (hb hby at_153) rfl rfl 155 rfl ?_
    refine own_iload X90 hx (hb hby at_155) rfl 157 rfl ?_
    refine own_lconst1 X90 hx (hb hby at_157) 158 rfl ?_
    refine own_callV X90 hx hZ hown (hw _ (List.mem_of_getElem? (i := 46) rfl)) (hw _ (List.mem_of_getElem? (i := 47) rfl)) (hw _ (List.mem_of_getElem? (i := 49) rfl)) (hw _ (List.mem_of_getElem? (i := 48) rfl)) (hw _ (List.mem_of_getElem? (i := 50) rfl)) (hw _ (List.mem_of_getElem? (i := 4) rfl)) (by decide) Eb63_91 (rm5 l Z a0 hw [] b63 (2 : Int32) (1 : Int64) bu_67 ku_67 (3 : Int32) [(.long (9223372036854775807 : Int64)), (.long (9223372036854775807 : Int64)), (.long v42)] (.long (0 : Int64)) v42 T86.heap n0 Zs89 Fb63_barUntil_88 P86_1 ⟨by decide, by decide⟩ rfl) e90 (hb hby at_158) pd__IJ_J rfl (by rw [hml]; rfl) (st := []) rfl 0 (Nat.le_of_eq rfl) (by decide) (by decide) (by decide) (by decide) 161 rfl ?_
    intro T92 v92 L92 X92 hQ92
    obtain ⟨rfl, N92q, e92⟩ := hQ92
    have N92 := Fr.app N90 N92q
    show OwnW p e below (OwnG s (fun v hh L => Q0 Z i0 j1 j3 j5 i7 fs h0 n0 v hh L ∧ ks72 ≤ hh.size) room_1.cells room_1.slots) (T92.setTop (mkF m 161 #[.val (.int i0), .val (.long j1), .second, .val (.long j3), .second, .val (.long j5), .second, .val (.int i7), .val (.int (2 : Int32)), .val (.int (0 : Int32)), .val (.int v28), .val (.long v42), .second, .val (.int ((1 : Int32) + (((i7.toUInt32 >>> ((1 : Int32) &&& 31).toUInt32).toInt32) &&& (3 : Int32)))), .val (.ref b63), .val (.int (1 : Int32)), .val (.ref b70), .val (.long (own_bu j5 v42)), .second, .val (.long v153), .second, .unset, .unset] [(.long (own_bu (1 : Int64) v42))]))
    refine own_lload X92 hx (hb hby at_161) rfl 163 rfl ?_
    refine own_lcmp X92 hx (hb hby at_163) 164 rfl ?_
    have hc164 : (own_bu (1 : Int64) v42) = v42 := own_law2 _
    refine own_ifN X92 hx (hb hby at_164) (teq ((lw_eq _ _).mpr hc164)).2 167 (by decide) ?_
    refine own_iconst X92 hx (hb hby at_167) (1 : Int32) rfl 168 rfl ?_
    refine own_goto X92 hx (hb hby at_168) 172 (by decide) ?_
    refine own_istore X92 hx (hb hby at_172) #[.val (.int i0), .val (.long j1), .second, .val (.long j3), .second, .val (.long j5), .second, .val (.int i7), .val (.int (2 : Int32)), .val (.int (0 : Int32)), .val (.int v28), .val (.long v42), .second, .val (.int ((1 : Int32) + (((i7.toUInt32 >>> ((1 : Int32) &&& 31).toUInt32).toInt32) &&& (3 : Int32)))), .val (.ref b63), .val (.int (1 : Int32)), .val (.ref b70), .val (.long (own_bu j5 v42)), .second, .val (.long v153), .second, .val (.int (1 : Int32)), .unset] rfl 174 rfl ?_
    refine own_aload X92 hx (hb hby at_174) rfl rfl 176 rfl ?_
    refine own_iload X92 hx (hb hby at_176) rfl 178 rfl ?_
    refine own_lload X92 hx (hb hby at_178) rfl 180 rfl ?_
    refine own_callV X92 hx hZ hown (hw _ (List.mem_of_getElem? (i := 46) rfl)) (hw _ (List.mem_of_getElem? (i := 47) rfl)) (hw _ (List.mem_of_getElem? (i := 49) rfl)) (hw _ (List.mem_of_getElem? (i := 48) rfl)) (hw _ (List.mem_of_getElem? (i := 50) rfl)) (hw _ (List.mem_of_getElem? (i := 4) rfl)) (by decide) Eb63_91 (rm5 l Z a0 hw [] b63 (0 : Int32) j5 bu_67 ku_67 (3 : Int32) [(.long (9223372036854775807 : Int64)), (.long (9223372036854775807 : Int64)), (.long v42)] (.long (0 : Int64)) (9223372036854775807 : Int64) T86.heap n0 Zs89 Fb63_barUntil_88 P86_1 ⟨by decide, by decide⟩ rfl) e92 (hb hby at_180) pd__IJ_J rfl (by rw [hml]; rfl) (st := []) rfl 0 (Nat.le_of_eq rfl) (by decide) (by decide) (by decide) (by decide) 183 rfl ?_
    intro T93 v93 L93 X93 hQ93
    obtain ⟨rfl, N93q, e93⟩ := hQ93
    have N93 := Fr.app N92 N93q
    show OwnW p e below (OwnG s (fun v hh L => Q0 Z i0 j1 j3 j5 i7 fs h0 n0 v hh L ∧ ks72 ≤ hh.size) room_1.cells room_1.slots) (T93.setTop (mkF m 183 #[.val (.int i0), .val (.long j1), .second, .val (.long j3), .second, .val (.long j5), .second, .val (.int i7), .val (.int (2 : Int32)), .val (.int (0 : Int32)), .val (.int v28), .val (.long v42), .second, .val (.int ((1 : Int32) + (((i7.toUInt32 >>> ((1 : Int32) &&& 31).toUInt32).toInt32) &&& (3 : Int32)))), .val (.ref b63), .val (.int (1 : Int32)), .val (.ref b70), .val (.long (own_bu j5 v42)), .second, .val (.long v153), .second, .val (.int (1 : Int32)), .unset] [(.long (own_bu j5 (9223372036854775807 : Int64)))]))
    refine own_ldcJ X93 hx hZ hown (hw _ (List.mem_of_getElem? (i := 1) rfl)) (hb hby at_183) 186 rfl ?_
    refine own_lcmp X93 hx (hb hby at_186) 187 rfl ?_
    have hc187 : (own_bu j5 (9223372036854775807 : Int64)) = (9223372036854775807 : Int64) := own_law1 _
    refine own_ifN X93 hx (hb hby at_187) (teq ((lw_eq _ _).mpr hc187)).2 190 (by decide) ?_
    refine own_iconst X93 hx (hb hby at_190) (1 : Int32) rfl 191 rfl ?_
    refine own_goto X93 hx (hb hby at_191) 195 (by decide) ?_
    refine own_istore X93 hx (hb hby at_195) #[.val (.int i0), .val (.long j1), .second, .val (.long j3), .second, .val (.long j5), .second, .val (.int i7), .val (.int (2 : Int32)), .val (.int (0 : Int32)), .val (.int v28), .val (.long v42), .second, .val (.int ((1 : Int32) + (((i7.toUInt32 >>> ((1 : Int32) &&& 31).toUInt32).toInt32) &&& (3 : Int32)))), .val (.ref b63), .val (.int (1 : Int32)), .val (.ref b70), .val (.long (own_bu j5 v42)), .second, .val (.long v153), .second, .val (.int (1 : Int32)), .val (.int (1 : Int32))] rfl 197 rfl ?_
    refine own_iload X93 hx (hb hby at_197) rfl 199 rfl ?_
    refine own_ifN X93 hx (hb hby at_199) (feq (by decide : ¬ ((1 : Int32) = (0 : Int32)))).1 202 (by decide) ?_
    refine own_lload X93 hx (hb hby at_202) rfl 204 rfl ?_
    refine own_lload X93 hx (hb hby at_204) rfl 206 rfl ?_
    refine own_lcmp X93 hx (hb hby at_206) 207 rfl ?_
    have hc207 : (own_bu j5 v42) = v153 := own_law3 hv42 hv153
    refine own_ifN X93 hx (hb hby at_207) (teq ((lw_eq _ _).mpr hc207)).2 210 (by decide) ?_
    refine own_iload X93 hx (hb hby at_210) rfl 212 rfl ?_
    refine own_ifN X93 hx (hb hby at_212) (feq (by decide : ¬ ((1 : Int32) = (0 : Int32)))).1 215 (by decide) ?_
    refine own_iload X93 hx (hb hby at_215) rfl 217 rfl ?_
    refine own_ifN X93 hx (hb hby at_217) (feq (by decide : ¬ ((1 : Int32) = (0 : Int32)))).1 220 (by decide) ?_
    refine own_iconst X93 hx (hb hby at_220) (1 : Int32) rfl 221 rfl ?_
    refine own_goto X93 hx (hb hby at_221) 225 (by decide) ?_
    refine own_retZ X93 hx hlk Bd.returns (by decide) (hb hby at_225) (by decide) (by decide) ?_
    show (Q0 Z i0 j1 j3 j5 i7 fs h0 n0 _ T93.heap _) ∧ ks72 ≤ T93.heap.size
    rw [e93]
    exact ⟨⟨rfl, N93⟩, (Nat.le_trans (Nat.le_trans hks72 Kc78.1) Kc86.1)⟩
set_option maxRecDepth 65536 in
set_option maxHeartbeats 40000000 in
theorem comes_1 {Post : Tables → Env → Array Value → State → Outcome → State → Prop} (hpost : ∀ tb e args s v u, (limb_1_1.after args s (.returned v) u = true ∧ limb_1_2.after args s (.returned v) u = true) → ReturnedEndW s (.returned v) u (Jvm.fieldLocs frame_1_writes args s ++ Jvm.arrayLocs frame_1_arrays args s ++ Jvm.staticLocs frame_1_statics s) 32 1216 → Post tb e args s (.returned v) u) :
    ArmFor flags0 classFile x code maxLocals ret World_1 tables_1 room_1 Calls_1 rest_1 Pre_1 Post := by
  intro l hfl _ _ p e ha hc hk s m args below hf hA hF happ hP
  obtain ⟨hcalls, hrest, hpre⟩ := hP
  obtain ⟨-, -, -, hnamed, -, -, -, hat⟩ := (Spec.applies_iff hf).mp happ
  obtain ⟨hg, hn⟩ := and_e (Cond.before_iff.mp (show (Jvm.Cond.and given_1 narrow_1).before args s = true from hpre))
  obtain ⟨gc, gr⟩ := and_e hg
  obtain ⟨ga0, gr0⟩ := and_e gr
  obtain ⟨ga1, gr1⟩ := and_e gr0
  obtain ⟨ga2, gr2⟩ := and_e gr1
  obtain ⟨ga3, gr3⟩ := and_e gr2
  have ga4 := gr3
  obtain ⟨w0, w1, w2, w3, w4, rfl⟩ : ∃ w0 w1 w2 w3 w4 : Value, args = #[w0, w1, w2, w3, w4] := by
    have hs : args.size = 5 := by simpa [Cond.value, given_1] using gc
    obtain ⟨L⟩ := args
    match L, hs with
    | [w0, w1, w2, w3, w4], _ => exact ⟨w0, w1, w2, w3, w4, rfl⟩
  have hw := fun d (hd : d ∈ tables_1) => atoms_spec (ws := Jvm.Cond.code x code maxLocals ret :: tables_1) hat d (List.mem_cons_of_mem _ hd)
  have hfit : Fit s := fun {y c} hc i hi => by
    obtain ⟨ha, rfl⟩ := Array.getElem?_eq_some_iff.mp hc
    have q := List.all_eq_true.mp ((Array.all_eq_true_iff_forall_mem.mp hF) _ (Array.getElem_mem ha)) i (List.mem_range.mpr hi)
    simpa [Array.getElem?_eq_getElem hi] using q
  obtain ⟨i0, ei0⟩ := is_v ga0
  obtain rfl : w0 = (.int i0) := Option.some.inj ei0
  obtain ⟨i1, ei1⟩ := isL_v ga1
  obtain rfl : w1 = (.long i1) := Option.some.inj ei1
  obtain ⟨i2, ei2⟩ := isL_v ga2
  obtain rfl : w2 = (.long i2) := Option.some.inj ei2
  obtain ⟨i3, ei3⟩ := isL_v ga3
  obtain rfl : w3 = (.long i3) := Option.some.inj ei3
  obtain ⟨i4, ei4⟩ := is_v ga4
  obtain rfl : w4 = (.int i4) := Option.some.inj ei4
  obtain ⟨fs, efs⟩ := exa_v hn
  have E0 := Exa.start efs hn
  have S0 := Sta.start efs (Or.inr ⟨(hw _ (List.mem_of_getElem? (i := 40) rfl)), (hw _ (List.mem_of_getElem? (i := 41) rfl))⟩)
  obtain ⟨n, o, h1, h2, h3, _, L, rfl, ⟨rfl, N⟩, hq⟩ := rm0 l s _ hw tables_1 i0 i1 i2 i3 i4 fs s.heap s.heap.size (Nat.le_refl _) S0 E0 p e ha hc hk s m _ below hf ((Spec.applies_iff_loose hf).mp happ).1 ⟨rfl, State.Warmed39.refl s, rfl⟩ trivial
  refine ⟨n, _, h1, h2, h3, hpost _ _ _ _ _ _ ⟨Cond.after_iff.mpr rfl, Cond.after_iff.mpr (eq_i res_at (Term.int_eval (1)) rfl)⟩ ⟨hq.1, hq.2.1, hq.2.2.1, (hq.2.2.2.sift fun y hy => Or.inr (N y hy)).mono (by decide) (by decide)⟩⟩
theorem main_1_1 : Claimed_1_1 := comes_1 fun _ _ _ _ _ _ h hF => ⟨h.1, hF⟩
theorem main_1_2 : Claimed_1_2 := comes_1 fun _ _ _ _ _ _ h hF => ⟨h.2, hF⟩
end Jvm.Pilot.@@N@@
namespace Jvm.Pilot.@@N@@
open Jvm Jvm.ClassFile Sem Op Lib Jvm.Free Jvm.Stand Jvm.Pilot.@@N@@.Jvm.D
/-! MADE BY PROGRAM (witnessworld.py) out of the Statement's table words and the real class files: 25 classes; the members and pool entries that the words name. The judged class is class 1, her method 1. -/
namespace start1
open Jvm.ClassFile
def u (s : String) : CpInfo := .utf8 (stringToUtf16 s)
/-- a pool by its gaps: so many unusable entries, then the entry; so many at the end -/
def gap : Nat → List CpInfo → List CpInfo
  | 0, r => r
  | n + 1, r => .unusable :: gap n r
def poolList (es : List (Nat × CpInfo)) (last : Nat) : List CpInfo := es.foldr (fun e r => gap e.1 (e.2 :: r)) (gap last [])
def pool (es : List (Nat × CpInfo)) (last : Nat) : Array CpInfo := ⟨poolList es last⟩
def fileOf (pool : Array CpInfo) (this : Nat) (attrs : Array Attribute := #[]) (ms : Array MethodInfo := #[]) (fl : Nat := 33) (sup : Nat := 0) (ifs : Array Nat := #[]) (fds : Array FieldInfo := #[]) : ClassFile where
  minorVersion := 0
  majorVersion := 65
  constantPool := pool
  accessFlags := fl
  thisClass := this
  superClass := sup
  interfaces := ifs
  fields := fds
  methods := ms
  attributes := attrs
def plain (name : String) (sup : Option ClassId) : Class where
  name := name
  kind := .ordinary
  loader := none
  accessFlags := 33
  super := sup
  interfaces := #[]
  cf := none
  fields := #[]
  methods := #[]
  instanceTypes := #[]
  staticTypes := #[]
  resolved := #[]
  callSites := []
  init := .initialized
  statics := none
  mirror := none

def pool0 : Array CpInfo := pool [(5, u "<init>"), (0, u "()V"), (1, .class_ 10), (1, u "java/lang/Object")] 113

def k0c0 : Code := { maxStack := 0, maxLocals := 1, code := object_method_1_code, exceptionTable := #[], attributes := #[] }
def k0m0 : Method := { name := "<init>", desc := "()V", sig := { parameters := [], returnType := none }, accessFlags := 1, code := some k0c0 }
/-- java/lang/Object -/
def k0 : Class := { plain "java/lang/Object" none with
  accessFlags := 33
  interfaces := #[]
  cf := some (fileOf pool0 8 #[] #[{ accessFlags := 1, nameIndex := 5, descriptorIndex := 6, attributes := #[] }] 33 0 #[] #[])
  fields := #[]
  methods := #[k0m0]
  instanceTypes := #[]
  staticTypes := #[]
  resolved := Array.replicate 124 none
  statics := none }

def pool1 : Array CpInfo := pool [(2, .class_ 4), (1, u "java/lang/Object"), (0, u "<init>"), (0, u "()V"), (0, .integer 2147483647), (2, .long 9223372036854775807), (1, .class_ 13), (0, u "com/example/holdfast/holdfast/MachineStates"), (0, .methodref 12 15), (0, .nameAndType 5 16), (0, u "(I)V"), (0, .methodref 12 18), (0, .nameAndType 19 20), (0, u "barUntil"), (0, u "(IJ)J"), (0, .class_ 22), (0, u "com/example/holdfast/holdfast/Machine"), (0, .string 24), (0, u "m"), (0, .methodref 21 26), (0, .nameAndType 5 27), (0, u "(ILjava/lang/String;I)V"), (0, .methodref 12 29), (0, .nameAndType 30 31), (0, u "bar"), (0, u "(Lcom/example/holdfast/holdfast/Machine;JJI)V"), (0, .class_ 33), (0, u "com/example/holdfast/holdfast/MachineStatesBarUntilPinLaw"), (2, u "law"), (0, u "(IJJJI)Z")] 3

def k1m0 : Method := { name := "<init>", desc := "()V", sig := { parameters := [], returnType := none }, accessFlags := 1, code := none }
def k1c1 : Code := { maxStack := 7, maxLocals := 23, code := code, exceptionTable := #[], attributes := #[] }
def k1m1 : Method := { name := "law", desc := "(IJJJI)Z", sig := { parameters := [.int, .long, .long, .long, .int], returnType := some .boolean }, accessFlags := 9, code := some k1c1 }
/-- com/example/holdfast/holdfast/MachineStatesBarUntilPinLaw -/
def k1 : Class := { plain "com/example/holdfast/holdfast/MachineStatesBarUntilPinLaw" (some 0) with
  accessFlags := 49
  interfaces := #[]
  cf := some (fileOf pool1 32 #[] #[{ accessFlags := 1, nameIndex := 5, descriptorIndex := 6, attributes := #[] }, { accessFlags := 9, nameIndex := 36, descriptorIndex := 37, attributes := #[] }] 49 2 #[] #[])
  fields := #[]
  methods := #[k1m0, k1m1]
  instanceTypes := #[]
  staticTypes := #[]
  resolved := Array.replicate 41 none
  statics := none }

def pool2 : Array CpInfo := pool [(1, .methodref 2 3), (0, .class_ 4), (0, .nameAndType 5 6), (0, u "java/lang/Object"), (0, u "<init>"), (0, u "()V"), (0, .fieldref 8 9), (0, .class_ 10), (0, .nameAndType 11 12), (0, u "com/example/holdfast/holdfast/MachineStates"), (0, u "isDown"), (0, u "[Z"), (0, .fieldref 8 14), (0, .nameAndType 15 16), (0, u "lost"), (0, u "[I"), (0, .fieldref 8 18), (0, .nameAndType 19 16), (0, u "draining"), (0, .class_ 21), (0, u "com/example/holdfast/holdfast/MachineStates$Gate"), (0, .fieldref 8 23), (0, .nameAndType 24 25), (0, u "gates"), (0, u "[Lcom/example/holdfast/holdfast/MachineStates$Gate;"), (0, .fieldref 8 27), (0, .nameAndType 28 29), (0, u "barFrom"), (0, u "[J"), (0, .fieldref 8 31), (0, .nameAndType 32 29), (0, u "barUntil"), (0, .fieldref 8 34), (0, .nameAndType 35 16), (0, u "barNodes"), (0, .class_ 37), (0, u "com/example/holdfast/holdfast/MachineStates$Uptime"), (0, .fieldref 8 39), (0, .nameAndType 40 41), (0, u "uptimes"), (0, u "[Lcom/example/holdfast/holdfast/MachineStates$Uptime;"), (2, .long 9223372036854775807), (1, .methodref 47 48), (0, .class_ 49), (0, .nameAndType 50 51), (0, u "java/util/Arrays"), (0, u "fill"), (0, u "([JJ)V"), (0, .fieldref 36 53), (0, .nameAndType 54 55), (0, u "FROM_START"), (0, u "Lcom/example/holdfast/holdfast/MachineStates$Uptime;"), (0, .methodref 47 57), (0, .nameAndType 50 58), (0, u "([Ljava/lang/Object;Ljava/lang/Object;)V"), (11, u "gated"), (0, u "I"), (7, .methodref 80 81), (0, .class_ 82), (0, .nameAndType 83 84), (0, u "com/example/holdfast/holdfast/Machine"), (0, u "number"), (0, u "()I"), (66, u "(IJ)J"), (10, u "CLOSED"), (0, u "Lcom/example/holdfast/holdfast/MachineStates$Gate;"), (41, .class_ 206), (0, u "com/example/holdfast/holdfast/MachineStates$1"), (1, u "PRIOR_FAILURES"), (0, u "J"), (1, u "(I)V"), (20, u "bar"), (0, u "(Lcom/example/holdfast/holdfast/Machine;JJI)V")] 54

def k2c0 : Code := { maxStack := 3, maxLocals := 2, code := prog_101_method_1_code, exceptionTable := #[], attributes := #[] }
def k2m0 : Method := { name := "<init>", desc := "(I)V", sig := { parameters := [.int], returnType := none }, accessFlags := 0, code := some k2c0 }
def k2c1 : Code := { maxStack := 4, maxLocals := 4, code := prog_101_method_17_code, exceptionTable := #[], attributes := #[] }
def k2m1 : Method := { name := "barUntil", desc := "(IJ)J", sig := { parameters := [.int, .long], returnType := some .long }, accessFlags := 0, code := some k2c1 }
def k2c2 : Code := { maxStack := 4, maxLocals := 8, code := prog_101_method_19_code, exceptionTable := #[], attributes := #[] }
def k2m2 : Method := { name := "bar", desc := "(Lcom/example/holdfast/holdfast/Machine;JJI)V", sig := { parameters := [(.object "com/example/holdfast/holdfast/Machine"), .long, .long, .int], returnType := none }, accessFlags := 0, code := some k2c2 }
/-- com/example/holdfast/holdfast/MachineStates -/
def k2 : Class := { plain "com/example/holdfast/holdfast/MachineStates" (some 0) with
  accessFlags := 48
  interfaces := #[]
  cf := some (fileOf pool2 8 #[.nestMembers #[36, 20, 205]] #[{ accessFlags := 0, nameIndex := 5, descriptorIndex := 211, attributes := #[] }, { accessFlags := 0, nameIndex := 32, descriptorIndex := 151, attributes := #[] }, { accessFlags := 0, nameIndex := 232, descriptorIndex := 233, attributes := #[] }] 48 2 #[] #[{ accessFlags := 24, nameIndex := 208, descriptorIndex := 209, attributes := #[] }, { accessFlags := 24, nameIndex := 162, descriptorIndex := 163, attributes := #[] }, { accessFlags := 18, nameIndex := 11, descriptorIndex := 12, attributes := #[] }, { accessFlags := 18, nameIndex := 15, descriptorIndex := 16, attributes := #[] }, { accessFlags := 18, nameIndex := 19, descriptorIndex := 16, attributes := #[] }, { accessFlags := 18, nameIndex := 24, descriptorIndex := 25, attributes := #[] }, { accessFlags := 2, nameIndex := 70, descriptorIndex := 71, attributes := #[] }, { accessFlags := 18, nameIndex := 28, descriptorIndex := 29, attributes := #[] }, { accessFlags := 18, nameIndex := 32, descriptorIndex := 29, attributes := #[] }, { accessFlags := 18, nameIndex := 35, descriptorIndex := 16, attributes := #[] }, { accessFlags := 18, nameIndex := 40, descriptorIndex := 41, attributes := #[] }])
  fields := #[{ name := "PRIOR_FAILURES", type := .long, accessFlags := 24, slot := 0, constantValue := 0 }, { name := "CLOSED", type := (.object "com/example/holdfast/holdfast/MachineStates$Gate"), accessFlags := 24, slot := 1, constantValue := 0 }, { name := "isDown", type := (.array .boolean), accessFlags := 18, slot := 0, constantValue := 0 }, { name := "lost", type := (.array .int), accessFlags := 18, slot := 1, constantValue := 0 }, { name := "draining", type := (.array .int), accessFlags := 18, slot := 2, constantValue := 0 }, { name := "gates", type := (.array (.object "com/example/holdfast/holdfast/MachineStates$Gate")), accessFlags := 18, slot := 3, constantValue := 0 }, { name := "gated", type := .int, accessFlags := 2, slot := 4, constantValue := 0 }, { name := "barFrom", type := (.array .long), accessFlags := 18, slot := 5, constantValue := 0 }, { name := "barUntil", type := (.array .long), accessFlags := 18, slot := 6, constantValue := 0 }, { name := "barNodes", type := (.array .int), accessFlags := 18, slot := 7, constantValue := 0 }, { name := "uptimes", type := (.array (.object "com/example/holdfast/holdfast/MachineStates$Uptime")), accessFlags := 18, slot := 8, constantValue := 0 }]
  methods := #[k2m0, k2m1, k2m2]
  instanceTypes := #[(.array .boolean), (.array .int), (.array .int), (.array (.object "com/example/holdfast/holdfast/MachineStates$Gate")), .int, (.array .long), (.array .long), (.array .int), (.array (.object "com/example/holdfast/holdfast/MachineStates$Uptime"))]
  staticTypes := #[.long, (.object "com/example/holdfast/holdfast/MachineStates$Gate")]
  resolved := Array.replicate 288 none
  statics := none }

def pool3 : Array CpInfo := pool [(1, .class_ 2), (0, u "com/example/holdfast/holdfast/MachineStates$Gate"), (0, .class_ 4), (0, u "java/lang/Object"), (11, .class_ 17), (0, u "com/example/holdfast/holdfast/MachineStates")] 2

/-- com/example/holdfast/holdfast/MachineStates$Gate -/
def k3 : Class := { plain "com/example/holdfast/holdfast/MachineStates$Gate" (some 0) with
  accessFlags := 1536
  interfaces := #[]
  cf := some (fileOf pool3 1 #[.nestHost 16] #[] 1536 3 #[] #[])
  fields := #[]
  methods := #[]
  instanceTypes := #[]
  staticTypes := #[]
  resolved := Array.replicate 20 none
  statics := none }

def pool4 : Array CpInfo := pool [(1, .methodref 2 3), (0, .class_ 4), (0, .nameAndType 5 6), (0, u "java/lang/Object"), (0, u "<init>"), (0, u "()V"), (0, .class_ 8), (0, u "java/lang/Record")] 13

def k4c0 : Code := { maxStack := 1, maxLocals := 1, code := jdk_30_method_1_code, exceptionTable := #[], attributes := #[] }
def k4m0 : Method := { name := "<init>", desc := "()V", sig := { parameters := [], returnType := none }, accessFlags := 4, code := some k4c0 }
/-- java/lang/Record -/
def k4 : Class := { plain "java/lang/Record" (some 0) with
  accessFlags := 1057
  interfaces := #[]
  cf := some (fileOf pool4 7 #[] #[{ accessFlags := 4, nameIndex := 5, descriptorIndex := 6, attributes := #[] }] 1057 2 #[] #[])
  fields := #[]
  methods := #[k4m0]
  instanceTypes := #[]
  staticTypes := #[]
  resolved := Array.replicate 22 none
  statics := none }

def pool5 : Array CpInfo := pool [(2, .class_ 4), (1, u "java/lang/Record"), (3, .class_ 10), (1, u "com/example/holdfast/holdfast/MachineStates$Uptime"), (0, u "failures"), (0, u "J"), (2, u "upBefore"), (2, u "since"), (2, u "failing"), (0, u "Z"), (31, u "FROM_START"), (0, u "Lcom/example/holdfast/holdfast/MachineStates$Uptime;"), (17, .class_ 74), (0, u "com/example/holdfast/holdfast/MachineStates")] 22

/-- com/example/holdfast/holdfast/MachineStates$Uptime -/
def k5 : Class := { plain "com/example/holdfast/holdfast/MachineStates$Uptime" (some 4) with
  accessFlags := 48
  interfaces := #[]
  cf := some (fileOf pool5 8 #[.nestHost 73] #[] 48 2 #[] #[{ accessFlags := 18, nameIndex := 11, descriptorIndex := 12, attributes := #[] }, { accessFlags := 18, nameIndex := 15, descriptorIndex := 12, attributes := #[] }, { accessFlags := 18, nameIndex := 18, descriptorIndex := 12, attributes := #[] }, { accessFlags := 18, nameIndex := 21, descriptorIndex := 22, attributes := #[] }, { accessFlags := 24, nameIndex := 54, descriptorIndex := 55, attributes := #[] }])
  fields := #[{ name := "failures", type := .long, accessFlags := 18, slot := 0, constantValue := 0 }, { name := "upBefore", type := .long, accessFlags := 18, slot := 1, constantValue := 0 }, { name := "since", type := .long, accessFlags := 18, slot := 2, constantValue := 0 }, { name := "failing", type := .boolean, accessFlags := 18, slot := 3, constantValue := 0 }, { name := "FROM_START", type := (.object "com/example/holdfast/holdfast/MachineStates$Uptime"), accessFlags := 24, slot := 0, constantValue := 0 }]
  methods := #[]
  instanceTypes := #[.long, .long, .long, .boolean]
  staticTypes := #[(.object "com/example/holdfast/holdfast/MachineStates$Uptime")]
  resolved := Array.replicate 97 none
  statics := some 0 }

def pool6 : Array CpInfo := pool [(2, .class_ 4), (1, u "java/lang/Object"), (0, u "<init>"), (0, u "()V"), (7, .class_ 16), (1, u "java/util/Arrays"), (57, .class_ 76), (1, u "java/util/Arrays$NaturalOrder"), (36, .class_ 115), (1, u "java/util/Arrays$LegacyMergeSort"), (1, u "Z"), (257, .class_ 376), (0, u "java/util/Arrays$ArrayList"), (68, u "$assertionsDisabled"), (269, u "MIN_ARRAY_SORT_GRAN"), (0, u "I"), (2, u "INSERTIONSORT_THRESHOLD"), (120, u "fill"), (0, u "([JJ)V"), (16, u "([Ljava/lang/Object;Ljava/lang/Object;)V"), (116, .class_ 976), (0, u "java/util/Arrays$ArrayItr")] 52

def k6m0 : Method := { name := "<init>", desc := "()V", sig := { parameters := [], returnType := none }, accessFlags := 2, code := none }
def k6c1 : Code := { maxStack := 4, maxLocals := 5, code := jdk_65_method_101_code, exceptionTable := #[], attributes := #[] }
def k6m1 : Method := { name := "fill", desc := "([JJ)V", sig := { parameters := [(.array .long), .long], returnType := none }, accessFlags := 9, code := some k6c1 }
def k6c2 : Code := { maxStack := 3, maxLocals := 4, code := jdk_65_method_117_code, exceptionTable := #[], attributes := #[] }
def k6m2 : Method := { name := "fill", desc := "([Ljava/lang/Object;Ljava/lang/Object;)V", sig := { parameters := [(.array (.object "java/lang/Object")), (.object "java/lang/Object")], returnType := none }, accessFlags := 9, code := some k6c2 }
/-- java/util/Arrays -/
def k6 : Class := { plain "java/util/Arrays" (some 0) with
  accessFlags := 49
  interfaces := #[]
  cf := some (fileOf pool6 14 #[.nestMembers #[975, 375, 113, 74]] #[{ accessFlags := 2, nameIndex := 5, descriptorIndex := 6, attributes := #[] }, { accessFlags := 9, nameIndex := 840, descriptorIndex := 841, attributes := #[] }, { accessFlags := 9, nameIndex := 840, descriptorIndex := 858, attributes := #[] }] 49 2 #[] #[{ accessFlags := 26, nameIndex := 715, descriptorIndex := 716, attributes := #[] }, { accessFlags := 26, nameIndex := 719, descriptorIndex := 716, attributes := #[] }, { accessFlags := 4120, nameIndex := 445, descriptorIndex := 117, attributes := #[] }])
  fields := #[{ name := "MIN_ARRAY_SORT_GRAN", type := .int, accessFlags := 26, slot := 0, constantValue := 0 }, { name := "INSERTIONSORT_THRESHOLD", type := .int, accessFlags := 26, slot := 1, constantValue := 0 }, { name := "$assertionsDisabled", type := .boolean, accessFlags := 4120, slot := 2, constantValue := 0 }]
  methods := #[k6m0, k6m1, k6m2]
  instanceTypes := #[]
  staticTypes := #[.int, .int, .boolean]
  resolved := Array.replicate 1029 none
  statics := none }

def pool7 : Array CpInfo := pool [(1, .methodref 2 3), (0, .class_ 4), (0, .nameAndType 5 6), (0, u "java/lang/Record"), (0, u "<init>"), (0, u "()V"), (0, .fieldref 8 9), (0, .class_ 10), (0, .nameAndType 11 12), (0, u "com/example/holdfast/holdfast/Machine"), (0, u "number"), (0, u "I"), (0, .fieldref 8 14), (0, .nameAndType 15 16), (0, u "name"), (0, u "Ljava/lang/String;"), (0, .fieldref 8 18), (0, .nameAndType 19 12), (0, u "nodes"), (70, u "()I"), (53, u "(ILjava/lang/String;I)V")] 89

def k7c0 : Code := { maxStack := 2, maxLocals := 4, code := prog_100_method_1_code, exceptionTable := #[], attributes := #[] }
def k7m0 : Method := { name := "<init>", desc := "(ILjava/lang/String;I)V", sig := { parameters := [.int, (.object "java/lang/String"), .int], returnType := none }, accessFlags := 0, code := some k7c0 }
def k7c1 : Code := { maxStack := 1, maxLocals := 1, code := prog_100_method_11_code, exceptionTable := #[], attributes := #[] }
def k7m1 : Method := { name := "number", desc := "()I", sig := { parameters := [], returnType := some .int }, accessFlags := 1, code := some k7c1 }
/-- com/example/holdfast/holdfast/Machine -/
def k7 : Class := { plain "com/example/holdfast/holdfast/Machine" (some 4) with
  accessFlags := 48
  interfaces := #[]
  cf := some (fileOf pool7 8 #[] #[{ accessFlags := 0, nameIndex := 5, descriptorIndex := 144, attributes := #[] }, { accessFlags := 1, nameIndex := 11, descriptorIndex := 90, attributes := #[] }] 48 2 #[] #[{ accessFlags := 18, nameIndex := 11, descriptorIndex := 12, attributes := #[] }, { accessFlags := 18, nameIndex := 15, descriptorIndex := 16, attributes := #[] }, { accessFlags := 18, nameIndex := 19, descriptorIndex := 12, attributes := #[] }])
  fields := #[{ name := "number", type := .int, accessFlags := 18, slot := 0, constantValue := 0 }, { name := "name", type := (.object "java/lang/String"), accessFlags := 18, slot := 1, constantValue := 0 }, { name := "nodes", type := .int, accessFlags := 18, slot := 2, constantValue := 0 }]
  methods := #[k7m0, k7m1]
  instanceTypes := #[.int, (.object "java/lang/String"), .int]
  staticTypes := #[]
  resolved := Array.replicate 234 none
  statics := none }

def pool8 : Array CpInfo := pool [(1, .class_ 2), (0, u "java/io/Serializable"), (0, .class_ 4), (0, u "java/lang/Object")] 2

/-- java/io/Serializable -/
def k8 : Class := { plain "java/io/Serializable" (some 0) with
  accessFlags := 1537
  interfaces := #[]
  cf := some (fileOf pool8 1 #[] #[] 1537 3 #[] #[])
  fields := #[]
  methods := #[]
  instanceTypes := #[]
  staticTypes := #[]
  resolved := Array.replicate 7 none
  statics := none }

def pool9 : Array CpInfo := pool [(1, .class_ 2), (0, u "java/lang/Comparable"), (0, .class_ 4), (0, u "java/lang/Object")] 7

/-- java/lang/Comparable -/
def k9 : Class := { plain "java/lang/Comparable" (some 0) with
  accessFlags := 1537
  interfaces := #[]
  cf := some (fileOf pool9 1 #[] #[] 1537 3 #[] #[])
  fields := #[]
  methods := #[]
  instanceTypes := #[]
  staticTypes := #[]
  resolved := Array.replicate 12 none
  statics := none }

def pool10 : Array CpInfo := pool [(2, .class_ 4), (1, u "java/lang/CharSequence"), (42, .class_ 48), (0, u "java/lang/CharSequence$1CodePointIterator"), (10, .class_ 60), (0, u "java/lang/CharSequence$1CharIterator"), (5, .class_ 67), (0, u "java/lang/Object")] 63

/-- java/lang/CharSequence -/
def k10 : Class := { plain "java/lang/CharSequence" (some 0) with
  accessFlags := 1537
  interfaces := #[]
  cf := some (fileOf pool10 2 #[.nestMembers #[47, 59]] #[] 1537 66 #[] #[])
  fields := #[]
  methods := #[]
  instanceTypes := #[]
  staticTypes := #[]
  resolved := Array.replicate 131 none
  statics := none }

def pool11 : Array CpInfo := pool [(1, .class_ 2), (0, u "java/lang/constant/Constable"), (0, .class_ 4), (0, u "java/lang/Object")] 6

/-- java/lang/constant/Constable -/
def k11 : Class := { plain "java/lang/constant/Constable" (some 0) with
  accessFlags := 1537
  interfaces := #[]
  cf := some (fileOf pool11 1 #[] #[] 1537 3 #[] #[])
  fields := #[]
  methods := #[]
  instanceTypes := #[]
  staticTypes := #[]
  resolved := Array.replicate 11 none
  statics := none }

def pool12 : Array CpInfo := pool [(1, .class_ 2), (0, u "java/lang/constant/ConstantDesc"), (0, .class_ 4), (0, u "java/lang/Object")] 32

/-- java/lang/constant/ConstantDesc -/
def k12 : Class := { plain "java/lang/constant/ConstantDesc" (some 0) with
  accessFlags := 1537
  interfaces := #[]
  cf := some (fileOf pool12 1 #[] #[] 1537 3 #[] #[])
  fields := #[]
  methods := #[]
  instanceTypes := #[]
  staticTypes := #[]
  resolved := Array.replicate 37 none
  statics := none }

def pool13 : Array CpInfo := pool [(2, .class_ 4), (1, u "java/lang/Object"), (0, u "<init>"), (0, u "()V"), (3, .class_ 12), (1, u "java/lang/String"), (0, u "value"), (0, u "[B"), (2, u "coder"), (0, u "B"), (2, u "hash"), (0, u "I"), (2, u "hashIsZero"), (0, u "Z"), (13, u "COMPACT_STRINGS"), (534, .class_ 576), (0, u "java/lang/CharSequence"), (22, u "CASE_INSENSITIVE_ORDER"), (0, u "Ljava/util/Comparator;"), (500, u "serialPersistentFields"), (0, u "[Ljava/io/ObjectStreamField;"), (0, .class_ 1104), (0, u "java/lang/String$CaseInsensitiveComparator"), (1, .class_ 1107), (0, u "java/io/Serializable"), (0, .class_ 1109), (0, u "java/lang/Comparable"), (0, .class_ 1111), (0, u "java/lang/constant/Constable"), (0, .class_ 1113), (0, u "java/lang/constant/ConstantDesc"), (2, u "serialVersionUID"), (0, u "J"), (3, u "REPL"), (0, u "C"), (2, u "LATIN1"), (1, u "UTF16")] 323

def k13m0 : Method := { name := "<init>", desc := "()V", sig := { parameters := [], returnType := none }, accessFlags := 1, code := none }
/-- java/lang/String -/
def k13 : Class := { plain "java/lang/String" (some 0) with
  accessFlags := 49
  interfaces := #[8, 9, 10, 11, 12]
  cf := some (fileOf pool13 10 #[.nestMembers #[1103]] #[{ accessFlags := 1, nameIndex := 5, descriptorIndex := 6, attributes := #[] }] 49 2 #[1106, 1108, 575, 1110, 1112] #[{ accessFlags := 18, nameIndex := 13, descriptorIndex := 14, attributes := #[] }, { accessFlags := 18, nameIndex := 17, descriptorIndex := 18, attributes := #[] }, { accessFlags := 2, nameIndex := 21, descriptorIndex := 22, attributes := #[] }, { accessFlags := 2, nameIndex := 25, descriptorIndex := 26, attributes := #[] }, { accessFlags := 26, nameIndex := 1116, descriptorIndex := 1117, attributes := #[] }, { accessFlags := 24, nameIndex := 40, descriptorIndex := 26, attributes := #[] }, { accessFlags := 26, nameIndex := 1101, descriptorIndex := 1102, attributes := #[] }, { accessFlags := 26, nameIndex := 1121, descriptorIndex := 1122, attributes := #[] }, { accessFlags := 25, nameIndex := 599, descriptorIndex := 600, attributes := #[] }, { accessFlags := 24, nameIndex := 1125, descriptorIndex := 18, attributes := #[] }, { accessFlags := 24, nameIndex := 1127, descriptorIndex := 18, attributes := #[] }])
  fields := #[{ name := "value", type := (.array .byte), accessFlags := 18, slot := 0, constantValue := 0 }, { name := "coder", type := .byte, accessFlags := 18, slot := 1, constantValue := 0 }, { name := "hash", type := .int, accessFlags := 2, slot := 2, constantValue := 0 }, { name := "hashIsZero", type := .boolean, accessFlags := 2, slot := 3, constantValue := 0 }, { name := "serialVersionUID", type := .long, accessFlags := 26, slot := 0, constantValue := 0 }, { name := "COMPACT_STRINGS", type := .boolean, accessFlags := 24, slot := 1, constantValue := 0 }, { name := "serialPersistentFields", type := (.array (.object "java/io/ObjectStreamField")), accessFlags := 26, slot := 2, constantValue := 0 }, { name := "REPL", type := .char, accessFlags := 26, slot := 3, constantValue := 0 }, { name := "CASE_INSENSITIVE_ORDER", type := (.object "java/util/Comparator"), accessFlags := 25, slot := 4, constantValue := 0 }, { name := "LATIN1", type := .byte, accessFlags := 24, slot := 5, constantValue := 0 }, { name := "UTF16", type := .byte, accessFlags := 24, slot := 6, constantValue := 0 }]
  methods := #[k13m0]
  instanceTypes := #[(.array .byte), .byte, .int, .boolean]
  staticTypes := #[.long, .boolean, (.array (.object "java/io/ObjectStreamField")), .char, (.object "java/util/Comparator"), .byte, .byte]
  resolved := Array.replicate 1451 none
  statics := none }

def pool14 : Array CpInfo := pool [(1, u "java/lang/Cloneable"), (0, .class_ 1), (0, u "java/lang/Object"), (0, .class_ 3)] 3

/-- java/lang/Cloneable -/
def k14 : Class := { plain "java/lang/Cloneable" (some 0) with
  accessFlags := 1537
  interfaces := #[]
  cf := some (fileOf pool14 2 #[] #[] 1537 4 #[] #[])
  fields := #[]
  methods := #[]
  instanceTypes := #[]
  staticTypes := #[]
  resolved := Array.replicate 8 none
  statics := none }

/-- the primitive boolean -/
def k15 : Class := { plain "boolean" none with kind := .primitive 'Z', accessFlags := 0x411 }
/-- [Z -/
def k16 : Class := { plain "[Z" (some 0) with kind := .array 15 .boolean, interfaces := #[14, 8], accessFlags := 1041 }

/-- the primitive byte -/
def k17 : Class := { plain "byte" none with kind := .primitive 'B', accessFlags := 0x411 }
/-- [B -/
def k18 : Class := { plain "[B" (some 0) with kind := .array 17 .byte, interfaces := #[14, 8], accessFlags := 1041 }

/-- the primitive int -/
def k19 : Class := { plain "int" none with kind := .primitive 'I', accessFlags := 0x411 }
/-- [I -/
def k20 : Class := { plain "[I" (some 0) with kind := .array 19 .int, interfaces := #[14, 8], accessFlags := 1041 }

/-- the primitive long -/
def k21 : Class := { plain "long" none with kind := .primitive 'J', accessFlags := 0x411 }
/-- [J -/
def k22 : Class := { plain "[J" (some 0) with kind := .array 21 .long, interfaces := #[14, 8], accessFlags := 1041 }

/-- [Lcom/example/holdfast/holdfast/MachineStates$Gate; -/
def k23 : Class := { plain "[Lcom/example/holdfast/holdfast/MachineStates$Gate;" (some 0) with kind := .array 3 (.object "com/example/holdfast/holdfast/MachineStates$Gate"), interfaces := #[14, 8], accessFlags := 1041 }

/-- [Lcom/example/holdfast/holdfast/MachineStates$Uptime; -/
def k24 : Class := { plain "[Lcom/example/holdfast/holdfast/MachineStates$Uptime;" (some 0) with kind := .array 5 (.object "com/example/holdfast/holdfast/MachineStates$Uptime"), interfaces := #[14, 8], accessFlags := 1041 }

def heap : Heap := #[{ cls := 5, slots := #[.ref 1], vm := .statics 5 },
  { cls := 5, slots := #[.long 0, .long 0, .long 0, .int 0], vm := .none }]
def classes : Array Class := #[k0, k1, k2, k3, k4, k5, k6, k7, k8, k9, k10, k11, k12, k13, k14, k15, k16, k17, k18, k19, k20, k21, k22, k23, k24]
def interned : List (Array UInt16 × Addr) := []
def slotsUsed : Nat := 5
def theMethod : MethodId := ⟨1, 1⟩
def args0 : Array Value := #[.int 5, .long 1, .long 3, .long 2, .int 0]
def aboutOver (below : List Frame) : State where
  vm := { classes := classes, interned := interned.toArray }
  heap := heap
  slotsUsed := slotsUsed
  threads := #[{ frames := .invoking theMethod args0 :: below }]
def below0 : List Frame := [.native { method := ⟨0, 0⟩, args := #[] }]
def about1 : State := aboutOver below0
def p0 : Program := .bare "" "" ""
def e0 : Env := launch0.env 0 0 0
theorem w_frames : about1.frames = Frame.invoking theMethod args0 :: below0 := rfl
set_option maxRecDepth 65536 in
theorem w_args : argsFit about1.vm theMethod args0 = true := by decide +kernel
set_option maxRecDepth 65536 in
theorem w_heap : heapFits about1 = true := by decide +kernel
set_option maxRecDepth 65536 in
theorem w_runnable : about1.curStatus? = some .runnable := by decide +kernel
set_option maxRecDepth 65536 in
theorem w_alone : about1.alone = true := by decide +kernel
set_option maxRecDepth 65536 in
theorem w_named : about1.methodNamed? x = some theMethod := by decide +kernel
set_option maxRecDepth 65536 in
theorem w_hears : about1.hears theMethod below0 = true := by decide +kernel
set_option maxRecDepth 65536 in
theorem w_ripe : about1.ripe theMethod args0 below0 = true := by decide +kernel
theorem w_running : about1.status = .running := rfl
set_option maxRecDepth 65536 in
theorem w_room : about1.hasRoom e0.platform room_1 = true :=
  launch0.hasRoom_least _ room_1 (by decide +kernel) (by decide +kernel) (by decide +kernel) (by decide +kernel) (by decide +kernel) (by decide +kernel)
theorem allAtoms_all (ts : List Jvm.Cond) (a : Array Jvm.Value) (st : Jvm.State) : (allAtoms ts).before a st = ts.all (fun c => c.before a st) := by
  induction ts with
  | nil => rfl
  | cons c t ih =>
    show (Jvm.Cond.and c (allAtoms t)).before a st = _
    rw [Jvm.Cond.before_and, ih, List.all_cons]
def words1 : List Jvm.Cond := Jvm.Cond.code x code maxLocals ret :: tables_1
/-- a 'code' word, met by the world's own term for the bytes: nothing is compared byte by byte -/
theorem code_word {y : MethodName} {bytes : ByteArray} {mx : Nat} {rt : Option FieldType} {a : Array Value} {s : State} {m : MethodId} {meth : Method} {c : Code} (h1 : s.methodNamed? y = some m) (h2 : s.vm.method? m = some meth) (h3 : meth.code = some c) (h4 : c.code = bytes)
    (h5 : (c.maxLocals == mx && c.exceptionTable.isEmpty && decide (c.maxStack ≤ mostOperands) && decide (meth.sig.returnType = rt) && !meth.locks && decide (parseMethodDescriptor y.desc = some meth.sig)) = true) : (Jvm.Cond.code y bytes mx rt).before a s = true := by
  simp only [Bool.and_eq_true, beq_iff_eq, Bool.not_eq_true', decide_eq_true_eq] at h5
  obtain ⟨⟨⟨⟨⟨g1, g2⟩, g3⟩, g4⟩, g5⟩, g6⟩ := h5
  simp [Cond.before, Cond.holds, Cond.value, h1, h2, h3, h4, g1, g2, g3, g4, g5, g6]
def isCode : Jvm.Cond → Bool
  | .code _ _ _ _ => true
  | _ => false
theorem all_split {L : List Jvm.Cond} {P : Jvm.Cond → Bool} (h1 : L.all (fun c => isCode c || P c) = true) (h2 : ∀ c ∈ L.filter isCode, P c = true) : L.all P = true := by
  refine List.all_eq_true.mpr fun c hc => ?_
  have h := List.all_eq_true.mp h1 c hc
  rcases Bool.eq_false_or_eq_true (isCode c) with hi | hi
  · exact h2 c (List.mem_filter.mpr ⟨hc, hi⟩)
  · simpa [hi] using h
set_option maxRecDepth 65536 in
theorem w_c0 : (Jvm.Cond.code x code maxLocals ret).before args0 about1 = true := code_word (m := ⟨1, 1⟩) (meth := k1m1) (c := k1c1) (by decide +kernel) rfl rfl rfl (by decide +kernel)
set_option maxRecDepth 65536 in
theorem w_c1 : (Jvm.Cond.code ({ cls := "com/example/holdfast/holdfast/MachineStates", name := "<init>", desc := "(I)V" } : Jvm.MethodName) prog_101_method_1_code (2 : Nat) (Option.none : Option Jvm.ClassFile.FieldType)).before args0 about1 = true := code_word (m := ⟨2, 0⟩) (meth := k2m0) (c := k2c0) (by decide +kernel) rfl rfl rfl (by decide +kernel)
set_option maxRecDepth 65536 in
theorem w_c2 : (Jvm.Cond.code ({ cls := "java/lang/Object", name := "<init>", desc := "()V" } : Jvm.MethodName) object_method_1_code (1 : Nat) (Option.none : Option Jvm.ClassFile.FieldType)).before args0 about1 = true := code_word (m := ⟨0, 0⟩) (meth := k0m0) (c := k0c0) (by decide +kernel) rfl rfl rfl (by decide +kernel)
set_option maxRecDepth 65536 in
theorem w_c3 : (Jvm.Cond.code ({ cls := "java/util/Arrays", name := "fill", desc := "([JJ)V" } : Jvm.MethodName) jdk_65_method_101_code (5 : Nat) (Option.none : Option Jvm.ClassFile.FieldType)).before args0 about1 = true := code_word (m := ⟨6, 1⟩) (meth := k6m1) (c := k6c1) (by decide +kernel) rfl rfl rfl (by decide +kernel)
set_option maxRecDepth 65536 in
theorem w_c4 : (Jvm.Cond.code ({ cls := "java/util/Arrays", name := "fill", desc := "([Ljava/lang/Object;Ljava/lang/Object;)V" } : Jvm.MethodName) jdk_65_method_117_code (4 : Nat) (Option.none : Option Jvm.ClassFile.FieldType)).before args0 about1 = true := code_word (m := ⟨6, 2⟩) (meth := k6m2) (c := k6c2) (by decide +kernel) rfl rfl rfl (by decide +kernel)
set_option maxRecDepth 65536 in
theorem w_c5 : (Jvm.Cond.code ({ cls := "com/example/holdfast/holdfast/MachineStates", name := "barUntil", desc := "(IJ)J" } : Jvm.MethodName) prog_101_method_17_code (4 : Nat) (Option.some Jvm.ClassFile.FieldType.long)).before args0 about1 = true := code_word (m := ⟨2, 1⟩) (meth := k2m1) (c := k2c1) (by decide +kernel) rfl rfl rfl (by decide +kernel)
set_option maxRecDepth 65536 in
theorem w_c6 : (Jvm.Cond.code ({ cls := "com/example/holdfast/holdfast/Machine", name := "<init>", desc := "(ILjava/lang/String;I)V" } : Jvm.MethodName) prog_100_method_1_code (4 : Nat) (Option.none : Option Jvm.ClassFile.FieldType)).before args0 about1 = true := code_word (m := ⟨7, 0⟩) (meth := k7m0) (c := k7c0) (by decide +kernel) rfl rfl rfl (by decide +kernel)
set_option maxRecDepth 65536 in
theorem w_c7 : (Jvm.Cond.code ({ cls := "java/lang/Record", name := "<init>", desc := "()V" } : Jvm.MethodName) jdk_30_method_1_code (1 : Nat) (Option.none : Option Jvm.ClassFile.FieldType)).before args0 about1 = true := code_word (m := ⟨4, 0⟩) (meth := k4m0) (c := k4c0) (by decide +kernel) rfl rfl rfl (by decide +kernel)
set_option maxRecDepth 65536 in
theorem w_c8 : (Jvm.Cond.code ({ cls := "com/example/holdfast/holdfast/MachineStates", name := "bar", desc := "(Lcom/example/holdfast/holdfast/Machine;JJI)V" } : Jvm.MethodName) prog_101_method_19_code (8 : Nat) (Option.none : Option Jvm.ClassFile.FieldType)).before args0 about1 = true := code_word (m := ⟨2, 2⟩) (meth := k2m2) (c := k2c2) (by decide +kernel) rfl rfl rfl (by decide +kernel)
set_option maxRecDepth 65536 in
theorem w_c9 : (Jvm.Cond.code ({ cls := "com/example/holdfast/holdfast/Machine", name := "number", desc := "()I" } : Jvm.MethodName) prog_100_method_11_code (1 : Nat) (Option.some Jvm.ClassFile.FieldType.int)).before args0 about1 = true := code_word (m := ⟨7, 1⟩) (meth := k7m1) (c := k7c1) (by decide +kernel) rfl rfl rfl (by decide +kernel)
def codes1 : List Jvm.Cond := [Jvm.Cond.code x code maxLocals ret, Jvm.Cond.code ({ cls := "com/example/holdfast/holdfast/MachineStates", name := "<init>", desc := "(I)V" } : Jvm.MethodName) prog_101_method_1_code (2 : Nat) (Option.none : Option Jvm.ClassFile.FieldType), Jvm.Cond.code ({ cls := "java/lang/Object", name := "<init>", desc := "()V" } : Jvm.MethodName) object_method_1_code (1 : Nat) (Option.none : Option Jvm.ClassFile.FieldType), Jvm.Cond.code ({ cls := "java/util/Arrays", name := "fill", desc := "([JJ)V" } : Jvm.MethodName) jdk_65_method_101_code (5 : Nat) (Option.none : Option Jvm.ClassFile.FieldType), Jvm.Cond.code ({ cls := "java/util/Arrays", name := "fill", desc := "([Ljava/lang/Object;Ljava/lang/Object;)V" } : Jvm.MethodName) jdk_65_method_117_code (4 : Nat) (Option.none : Option Jvm.ClassFile.FieldType), Jvm.Cond.code ({ cls := "com/example/holdfast/holdfast/MachineStates", name := "barUntil", desc := "(IJ)J" } : Jvm.MethodName) prog_101_method_17_code (4 : Nat) (Option.some Jvm.ClassFile.FieldType.long), Jvm.Cond.code ({ cls := "com/example/holdfast/holdfast/Machine", name := "<init>", desc := "(ILjava/lang/String;I)V" } : Jvm.MethodName) prog_100_method_1_code (4 : Nat) (Option.none : Option Jvm.ClassFile.FieldType), Jvm.Cond.code ({ cls := "java/lang/Record", name := "<init>", desc := "()V" } : Jvm.MethodName) jdk_30_method_1_code (1 : Nat) (Option.none : Option Jvm.ClassFile.FieldType), Jvm.Cond.code ({ cls := "com/example/holdfast/holdfast/MachineStates", name := "bar", desc := "(Lcom/example/holdfast/holdfast/Machine;JJI)V" } : Jvm.MethodName) prog_101_method_19_code (8 : Nat) (Option.none : Option Jvm.ClassFile.FieldType), Jvm.Cond.code ({ cls := "com/example/holdfast/holdfast/Machine", name := "number", desc := "()I" } : Jvm.MethodName) prog_100_method_11_code (1 : Nat) (Option.some Jvm.ClassFile.FieldType.int)]
set_option maxRecDepth 65536 in
theorem codes_eq : words1.filter isCode = codes1 := rfl
theorem w_codes : ∀ c ∈ words1.filter isCode, c.before args0 about1 = true := by
  rw [codes_eq]
  intro c hc
  simp only [codes1, List.mem_cons, List.not_mem_nil, or_false] at hc
  rcases hc with rfl | rfl | rfl | rfl | rfl | rfl | rfl | rfl | rfl | rfl
  · exact w_c0
  · exact w_c1
  · exact w_c2
  · exact w_c3
  · exact w_c4
  · exact w_c5
  · exact w_c6
  · exact w_c7
  · exact w_c8
  · exact w_c9
set_option maxRecDepth 65536 in
theorem w_t1 : (words1.take 24).all (fun c => isCode c || c.before args0 about1) = true := by decide +kernel
set_option maxRecDepth 65536 in
theorem w_t2 : ((words1.drop 24).take 24).all (fun c => isCode c || c.before args0 about1) = true := by decide +kernel
set_option maxRecDepth 65536 in
theorem w_t3 : (((words1.drop 24).drop 24).take 24).all (fun c => isCode c || c.before args0 about1) = true := by decide +kernel
set_option maxRecDepth 65536 in
theorem w_t4 : (((words1.drop 24).drop 24).drop 24).all (fun c => isCode c || c.before args0 about1) = true := by decide +kernel
theorem w_tables : (allAtoms (Jvm.Cond.code x code maxLocals ret :: tables_1)).before args0 about1 = true := by
  rw [allAtoms_all]
  show words1.all (fun c => c.before args0 about1) = true
  refine all_split ?_ w_codes
  rw [← List.take_append_drop 24 words1, List.all_append, w_t1, ← List.take_append_drop 24 (words1.drop 24), List.all_append, w_t2, ← List.take_append_drop 24 ((words1.drop 24).drop 24), List.all_append, w_t3, w_t4]
  rfl
set_option maxRecDepth 65536 in
theorem w_case : (Jvm.Cond.and given_1 narrow_1).before args0 about1 = true := by decide +kernel
theorem w_applies : (headSpec (Jvm.Cond.code x code maxLocals ret :: tables_1) room_1).applies x e0.platform about1 = true :=
  (Spec.applies_iff w_frames).mpr ⟨w_running, w_runnable, w_alone, w_named, w_hears, w_ripe, w_room, w_tables⟩
theorem atStart : AtStart classFile x code maxLocals ret World_1 tables_1 room_1 Calls_1 rest_1 Pre_1 launch0 p0 e0 about1 theMethod args0 below0 :=
  ⟨lists_1, trivial, launch0.admits_env _ _ _, launch0.least_env, fairChoices_fair.cas, fairChoices_fair.clock, w_frames, w_args, w_heap, w_applies, trivial, trivial, w_case⟩
end start1
theorem witness_1 : WitnessClaimed_1 := ⟨start1.p0, start1.e0, start1.about1, start1.theMethod, start1.args0, start1.below0, start1.atStart⟩
end Jvm.Pilot.@@N@@
