import JvmDerived
import JvmDerived.Pilot.@@N@@Statement
import JvmDerived.Pilot.@@N@@Code
set_option linter.unusedVariables false
set_option linter.unusedSimpArgs false
namespace Jvm.Pilot.@@N@@
open Jvm Jvm.ClassFile Sem Op Lib Jvm.Free Jvm.Stand Jvm.LawKit Jvm.RoadKit Bundle Jvm.Pilot.@@N@@.Jvm.D
section Own
variable {p : Program} {l : Launch} {e : Env} {R : Room} {s : State} {m : MethodId} {args : Array Value} {below : List Frame} {meth : Method} {c : Code} {T : State} {locs : List Loc} {cells slots : Nat} {Q : Option Value → Heap → List Loc → Prop} {rc rs : Nat} {G : Outcome → State → Prop} {Ls : Array Slot} {st : List Value} {Z : State} {a0 : Array Value} {h : Heap} {pc : Nat}
/-- what is left of a body's walk: from U it comes to its end, of which G holds -/
def OwnW (p : Program) (e : Env) (below : List Frame) (G : Outcome → State → Prop) (U : State) : Prop :=
  ∃ s₂ o, Steps p.tables e below U s₂ ∧ s₂.status = .running ∧ Ended s₂ below o ∧ G o s₂
/-- it returned, Q holds of what it returned, the heap and the written places; the frame -/
def OwnG (s : State) (Q : Option Value → Heap → List Loc → Prop) (rc rs : Nat) (o : Outcome) (t : State) : Prop := ∃ v L, o = .returned v ∧ Q v t.heap L ∧ FrameEnd s o t L rc rs
theorem OwnW.go {U V : State} (k : OwnW p e below G V) (st : ∀ t, Steps p.tables e below V t → Steps p.tables e below U t) : OwnW p e below G U := by
  obtain ⟨s₂, o, h1, h2⟩ := k
  exact ⟨s₂, o, st _ h1, h2⟩
theorem OwnW.tr {U V : State} (k : OwnW p e below G V) (st : Steps p.tables e below U V) : OwnW p e below G U := k.go fun _ h => st.trans h
theorem own_aload (X : Stand p l e R s m args below meth c T locs cells slots) (hx : p.tables.exec = Jvm.exec) {k : Nat} {v : Value} (hd : decode c.code pc = .ok (.aload k, 2)) (hl : Ls[k]? = some (.val v)) (hv : v.isRef = true) (pc' : Nat) (hp : pc + 2 = pc')
    (K : OwnW p e below G (T.setTop (mkF m pc' Ls (v :: st)))) : OwnW p e below G (T.setTop (mkF m pc Ls st)) := by
  subst hp; exact K.go fun _ k => XS.aload X.here hx rfl hd hl hv k
theorem own_aloadN (X : Stand p l e R s m args below meth c T locs cells slots) (hx : p.tables.exec = Jvm.exec) {k : Fin 4} {v : Value} (hd : decode c.code pc = .ok (.aload_n k, 1)) (hl : Ls[k.val]? = some (.val v)) (hv : v.isRef = true) (pc' : Nat) (hp : pc + 1 = pc')
    (K : OwnW p e below G (T.setTop (mkF m pc' Ls (v :: st)))) : OwnW p e below G (T.setTop (mkF m pc Ls st)) := by
  subst hp; exact K.go fun _ k => XS.aloadN X.here hx rfl hd hl hv k
theorem own_iload (X : Stand p l e R s m args below meth c T locs cells slots) (hx : p.tables.exec = Jvm.exec) {k : Nat} {v : Int32} (hd : decode c.code pc = .ok (.iload k, 2)) (hl : Ls[k]? = some (.val (.int v))) (pc' : Nat) (hp : pc + 2 = pc')
    (K : OwnW p e below G (T.setTop (mkF m pc' Ls (.int v :: st)))) : OwnW p e below G (T.setTop (mkF m pc Ls st)) := by
  subst hp; exact K.go fun _ k => XS.iload X.here hx rfl hd hl k
theorem own_iloadN (X : Stand p l e R s m args below meth c T locs cells slots) (hx : p.tables.exec = Jvm.exec) {k : Fin 4} {v : Int32} (hd : decode c.code pc = .ok (.iload_n k, 1)) (hl : Ls[k.val]? = some (.val (.int v))) (pc' : Nat) (hp : pc + 1 = pc')
    (K : OwnW p e below G (T.setTop (mkF m pc' Ls (.int v :: st)))) : OwnW p e below G (T.setTop (mkF m pc Ls st)) := by
  subst hp; exact K.go fun _ k => XS.iloadN X.here hx rfl hd hl k
theorem own_lload (X : Stand p l e R s m args below meth c T locs cells slots) (hx : p.tables.exec = Jvm.exec) {k : Nat} {v : Int64} (hd : decode c.code pc = .ok (.lload k, 2)) (hl : Ls[k]? = some (.val (.long v))) (pc' : Nat) (hp : pc + 2 = pc')
    (K : OwnW p e below G (T.setTop (mkF m pc' Ls (.long v :: st)))) : OwnW p e below G (T.setTop (mkF m pc Ls st)) := by
  subst hp; exact K.go fun _ k => XS.lload X.here hx rfl hd hl k
theorem own_lloadN (X : Stand p l e R s m args below meth c T locs cells slots) (hx : p.tables.exec = Jvm.exec) {k : Fin 4} {v : Int64} (hd : decode c.code pc = .ok (.lload_n k, 1)) (hl : Ls[k.val]? = some (.val (.long v))) (pc' : Nat) (hp : pc + 1 = pc')
    (K : OwnW p e below G (T.setTop (mkF m pc' Ls (.long v :: st)))) : OwnW p e below G (T.setTop (mkF m pc Ls st)) := by
  subst hp; exact K.go fun _ k => XS.lloadN X.here hx rfl hd hl k
theorem own_istore (X : Stand p l e R s m args below meth c T locs cells slots) (hx : p.tables.exec = Jvm.exec) {k : Nat} {x : Int32} (hd : decode c.code pc = .ok (.istore k, 2)) (Ls' : Array Slot) (hl : storeLocals Ls k (.int x) = some Ls') (pc' : Nat) (hp : pc + 2 = pc')
    (K : OwnW p e below G (T.setTop (mkF m pc' Ls' st))) : OwnW p e below G (T.setTop (mkF m pc Ls (.int x :: st))) := by
  subst hp; exact K.go fun _ k => XS.istore X.here hx rfl hd rfl hl k
theorem own_istoreN (X : Stand p l e R s m args below meth c T locs cells slots) (hx : p.tables.exec = Jvm.exec) {k : Fin 4} {x : Int32} (hd : decode c.code pc = .ok (.istore_n k, 1)) (Ls' : Array Slot) (hl : storeLocals Ls k.val (.int x) = some Ls') (pc' : Nat) (hp : pc + 1 = pc')
    (K : OwnW p e below G (T.setTop (mkF m pc' Ls' st))) : OwnW p e below G (T.setTop (mkF m pc Ls (.int x :: st))) := by
  subst hp; exact K.go fun _ k => XS.istoreN X.here hx rfl hd rfl hl k
theorem own_lstore (X : Stand p l e R s m args below meth c T locs cells slots) (hx : p.tables.exec = Jvm.exec) {k : Nat} {x : Int64} (hd : decode c.code pc = .ok (.lstore k, 2)) (Ls' : Array Slot) (hl : storeLocals Ls k (.long x) = some Ls') (pc' : Nat) (hp : pc + 2 = pc')
    (K : OwnW p e below G (T.setTop (mkF m pc' Ls' st))) : OwnW p e below G (T.setTop (mkF m pc Ls (.long x :: st))) := by
  subst hp; exact K.go fun _ k => XS.lstore X.here hx rfl hd rfl hl k
theorem own_lstoreN (X : Stand p l e R s m args below meth c T locs cells slots) (hx : p.tables.exec = Jvm.exec) {k : Fin 4} {x : Int64} (hd : decode c.code pc = .ok (.lstore_n k, 1)) (Ls' : Array Slot) (hl : storeLocals Ls k.val (.long x) = some Ls') (pc' : Nat) (hp : pc + 1 = pc')
    (K : OwnW p e below G (T.setTop (mkF m pc' Ls' st))) : OwnW p e below G (T.setTop (mkF m pc Ls (.long x :: st))) := by
  subst hp; exact K.go fun _ k => XS.lstoreN X.here hx rfl hd rfl hl k
theorem own_astore (X : Stand p l e R s m args below meth c T locs cells slots) (hx : p.tables.exec = Jvm.exec) {k : Nat} {x : Value} (hd : decode c.code pc = .ok (.astore k, 2)) (hv : x.isRef = true) (Ls' : Array Slot) (hl : storeLocals Ls k x = some Ls') (pc' : Nat) (hp : pc + 2 = pc')
    (K : OwnW p e below G (T.setTop (mkF m pc' Ls' st))) : OwnW p e below G (T.setTop (mkF m pc Ls (x :: st))) := by
  subst hp; exact K.go fun _ k => XS.astore X.here hx rfl hd rfl hv hl k
theorem own_astoreN (X : Stand p l e R s m args below meth c T locs cells slots) (hx : p.tables.exec = Jvm.exec) {k : Fin 4} {x : Value} (hd : decode c.code pc = .ok (.astore_n k, 1)) (hv : x.isRef = true) (Ls' : Array Slot) (hl : storeLocals Ls k.val x = some Ls') (pc' : Nat) (hp : pc + 1 = pc')
    (K : OwnW p e below G (T.setTop (mkF m pc' Ls' st))) : OwnW p e below G (T.setTop (mkF m pc Ls (x :: st))) := by
  subst hp; exact K.go fun _ k => XS.astoreN X.here hx rfl hd rfl hv hl k
theorem own_iinc (X : Stand p l e R s m args below meth c T locs cells slots) (hx : p.tables.exec = Jvm.exec) {k : Nat} {cst : Int} {x : Int32} (hd : decode c.code pc = .ok (.iinc k cst, 3)) (hl : Ls[k]? = some (.val (.int x))) (Ls' : Array Slot) (hl' : storeLocals Ls k (.int (x + Int32.ofInt cst)) = some Ls') (pc' : Nat) (hp : pc + 3 = pc')
    (K : OwnW p e below G (T.setTop (mkF m pc' Ls' st))) : OwnW p e below G (T.setTop (mkF m pc Ls st)) := by
  subst hp; exact K.go fun _ k => XS.iinc X.here hx rfl hd hl hl' k
theorem own_iconst (X : Stand p l e R s m args below meth c T locs cells slots) (hx : p.tables.exec = Jvm.exec) {i : Int} (hd : decode c.code pc = .ok (.iconst i, 1)) (v : Int32) (hv : Int32.ofInt i = v) (pc' : Nat) (hp : pc + 1 = pc')
    (K : OwnW p e below G (T.setTop (mkF m pc' Ls (.int v :: st)))) : OwnW p e below G (T.setTop (mkF m pc Ls st)) := by
  subst hp hv; exact K.go fun _ k => XS.iconst X.here hx rfl hd k
theorem own_bipush (X : Stand p l e R s m args below meth c T locs cells slots) (hx : p.tables.exec = Jvm.exec) {i : Int} (hd : decode c.code pc = .ok (.bipush i, 2)) (v : Int32) (hv : (Int8.ofInt i).toInt32 = v) (pc' : Nat) (hp : pc + 2 = pc')
    (K : OwnW p e below G (T.setTop (mkF m pc' Ls (.int v :: st)))) : OwnW p e below G (T.setTop (mkF m pc Ls st)) := by
  subst hp hv; exact K.go fun _ k => XS.bipush X.here hx rfl hd k
theorem own_sipush (X : Stand p l e R s m args below meth c T locs cells slots) (hx : p.tables.exec = Jvm.exec) {i : Int} (hd : decode c.code pc = .ok (.sipush i, 3)) (v : Int32) (hv : (Int16.ofInt i).toInt32 = v) (pc' : Nat) (hp : pc + 3 = pc')
    (K : OwnW p e below G (T.setTop (mkF m pc' Ls (.int v :: st)))) : OwnW p e below G (T.setTop (mkF m pc Ls st)) := by
  subst hp hv; exact K.go fun _ k => XS.sipush X.here hx rfl hd k
theorem own_lconst0 (X : Stand p l e R s m args below meth c T locs cells slots) (hx : p.tables.exec = Jvm.exec) (hd : decode c.code pc = .ok (.lconst 0, 1)) (pc' : Nat) (hp : pc + 1 = pc')
    (K : OwnW p e below G (T.setTop (mkF m pc' Ls (.long (0 : Int64) :: st)))) : OwnW p e below G (T.setTop (mkF m pc Ls st)) := by
  subst hp; exact K.go fun _ k => XS.lconst X.here hx rfl hd k
theorem own_lconst1 (X : Stand p l e R s m args below meth c T locs cells slots) (hx : p.tables.exec = Jvm.exec) (hd : decode c.code pc = .ok (.lconst 1, 1)) (pc' : Nat) (hp : pc + 1 = pc')
    (K : OwnW p e below G (T.setTop (mkF m pc' Ls (.long (1 : Int64) :: st)))) : OwnW p e below G (T.setTop (mkF m pc Ls st)) := by
  subst hp; exact K.go fun _ k => XS.lconst X.here hx rfl hd k
theorem own_null (X : Stand p l e R s m args below meth c T locs cells slots) (hx : p.tables.exec = Jvm.exec) (hd : decode c.code pc = .ok (.aconst_null, 1)) (pc' : Nat) (hp : pc + 1 = pc')
    (K : OwnW p e below G (T.setTop (mkF m pc' Ls (.null :: st)))) : OwnW p e below G (T.setTop (mkF m pc Ls st)) := by
  subst hp; exact K.go fun _ k => XS.aconstNull X.here hx rfl hd k
theorem own_ldcI (X : Stand p l e R s m args below meth c T locs cells slots) (hx : p.tables.exec = Jvm.exec) (hZ : Z.Warmed39 s.vm) {own : String} {index : Nat} {v : Int32} (hown : s.vm.findClass own = some m.cls) (w : (Cond.constant own index v).before a0 Z = true) (hd : decode c.code pc = .ok (.ldc index, 2)) (pc' : Nat) (hp : pc + 2 = pc')
    (K : OwnW p e below G (T.setTop (mkF m pc' Ls (.int v :: st)))) : OwnW p e below G (T.setTop (mkF m pc Ls st)) := by
  subst hp; exact K.go (X.ldcInt hx hown (mvT hZ w) (g := mkF m pc Ls st) rfl hd)
theorem own_ldcJ (X : Stand p l e R s m args below meth c T locs cells slots) (hx : p.tables.exec = Jvm.exec) (hZ : Z.Warmed39 s.vm) {own : String} {index : Nat} {v : Int64} (hown : s.vm.findClass own = some m.cls) (w : (Cond.constantLong own index v).before a0 Z = true) (hd : decode c.code pc = .ok (.ldc2_w index, 3)) (pc' : Nat) (hp : pc + 3 = pc')
    (K : OwnW p e below G (T.setTop (mkF m pc' Ls (.long v :: st)))) : OwnW p e below G (T.setTop (mkF m pc Ls st)) := by
  subst hp; exact K.go (X.ldc2Long hx hown (mvT hZ w) (g := mkF m pc Ls st) rfl hd)
theorem own_irem (X : Stand p l e R s m args below meth c T locs cells slots) (hx : p.tables.exec = Jvm.exec) {x y : Int32} (hd : decode c.code pc = .ok (.irem, 1)) (hy : y ≠ 0) (pc' : Nat) (hp : pc + 1 = pc')
    (K : OwnW p e below G (T.setTop (mkF m pc' Ls (.int (x % y) :: st)))) : OwnW p e below G (T.setTop (mkF m pc Ls (.int y :: .int x :: st))) := by
  subst hp; exact K.go fun _ k => iremM X hx rfl hd rfl hy k
theorem own_iadd (X : Stand p l e R s m args below meth c T locs cells slots) (hx : p.tables.exec = Jvm.exec) {x y : Int32} (hd : decode c.code pc = .ok (.iadd, 1)) (pc' : Nat) (hp : pc + 1 = pc')
    (K : OwnW p e below G (T.setTop (mkF m pc' Ls (.int (x + y) :: st)))) : OwnW p e below G (T.setTop (mkF m pc Ls (.int y :: .int x :: st))) := by
  subst hp; exact K.go fun _ k => XS.iadd X.here hx rfl hd rfl k
theorem own_isub (X : Stand p l e R s m args below meth c T locs cells slots) (hx : p.tables.exec = Jvm.exec) {x y : Int32} (hd : decode c.code pc = .ok (.isub, 1)) (pc' : Nat) (hp : pc + 1 = pc')
    (K : OwnW p e below G (T.setTop (mkF m pc' Ls (.int (x - y) :: st)))) : OwnW p e below G (T.setTop (mkF m pc Ls (.int y :: .int x :: st))) := by
  subst hp; exact K.go fun _ k => XS.isub X.here hx rfl hd rfl k
theorem own_imul (X : Stand p l e R s m args below meth c T locs cells slots) (hx : p.tables.exec = Jvm.exec) {x y : Int32} (hd : decode c.code pc = .ok (.imul, 1)) (pc' : Nat) (hp : pc + 1 = pc')
    (K : OwnW p e below G (T.setTop (mkF m pc' Ls (.int (x * y) :: st)))) : OwnW p e below G (T.setTop (mkF m pc Ls (.int y :: .int x :: st))) := by
  subst hp; exact K.go fun _ k => XS.imul X.here hx rfl hd rfl k
theorem own_iand (X : Stand p l e R s m args below meth c T locs cells slots) (hx : p.tables.exec = Jvm.exec) {x y : Int32} (hd : decode c.code pc = .ok (.iand, 1)) (pc' : Nat) (hp : pc + 1 = pc')
    (K : OwnW p e below G (T.setTop (mkF m pc' Ls (.int (x &&& y) :: st)))) : OwnW p e below G (T.setTop (mkF m pc Ls (.int y :: .int x :: st))) := by
  subst hp; exact K.go fun _ k => XS.iand X.here hx rfl hd rfl k
theorem own_ior (X : Stand p l e R s m args below meth c T locs cells slots) (hx : p.tables.exec = Jvm.exec) {x y : Int32} (hd : decode c.code pc = .ok (.ior, 1)) (pc' : Nat) (hp : pc + 1 = pc')
    (K : OwnW p e below G (T.setTop (mkF m pc' Ls (.int (x ||| y) :: st)))) : OwnW p e below G (T.setTop (mkF m pc Ls (.int y :: .int x :: st))) := by
  subst hp; exact K.go fun _ k => XS.ior X.here hx rfl hd rfl k
theorem own_ixor (X : Stand p l e R s m args below meth c T locs cells slots) (hx : p.tables.exec = Jvm.exec) {x y : Int32} (hd : decode c.code pc = .ok (.ixor, 1)) (pc' : Nat) (hp : pc + 1 = pc')
    (K : OwnW p e below G (T.setTop (mkF m pc' Ls (.int (x ^^^ y) :: st)))) : OwnW p e below G (T.setTop (mkF m pc Ls (.int y :: .int x :: st))) := by
  subst hp; exact K.go fun _ k => XS.ixor X.here hx rfl hd rfl k
theorem own_ladd (X : Stand p l e R s m args below meth c T locs cells slots) (hx : p.tables.exec = Jvm.exec) {x y : Int64} (hd : decode c.code pc = .ok (.ladd, 1)) (pc' : Nat) (hp : pc + 1 = pc')
    (K : OwnW p e below G (T.setTop (mkF m pc' Ls (.long (x + y) :: st)))) : OwnW p e below G (T.setTop (mkF m pc Ls (.long y :: .long x :: st))) := by
  subst hp; exact K.go fun _ k => XS.ladd X.here hx rfl hd rfl k
theorem own_lsub (X : Stand p l e R s m args below meth c T locs cells slots) (hx : p.tables.exec = Jvm.exec) {x y : Int64} (hd : decode c.code pc = .ok (.lsub, 1)) (pc' : Nat) (hp : pc + 1 = pc')
    (K : OwnW p e below G (T.setTop (mkF m pc' Ls (.long (x - y) :: st)))) : OwnW p e below G (T.setTop (mkF m pc Ls (.long y :: .long x :: st))) := by
  subst hp; exact K.go fun _ k => XS.lsub X.here hx rfl hd rfl k
theorem own_lmul (X : Stand p l e R s m args below meth c T locs cells slots) (hx : p.tables.exec = Jvm.exec) {x y : Int64} (hd : decode c.code pc = .ok (.lmul, 1)) (pc' : Nat) (hp : pc + 1 = pc')
    (K : OwnW p e below G (T.setTop (mkF m pc' Ls (.long (x * y) :: st)))) : OwnW p e below G (T.setTop (mkF m pc Ls (.long y :: .long x :: st))) := by
  subst hp; exact K.go fun _ k => XS.lmul X.here hx rfl hd rfl k
theorem own_iushr (X : Stand p l e R s m args below meth c T locs cells slots) (hx : p.tables.exec = Jvm.exec) {x y : Int32} (hd : decode c.code pc = .ok (.iushr, 1)) (pc' : Nat) (hp : pc + 1 = pc')
    (K : OwnW p e below G (T.setTop (mkF m pc' Ls (.int ((x.toUInt32 >>> (y &&& 31).toUInt32).toInt32) :: st)))) : OwnW p e below G (T.setTop (mkF m pc Ls (.int y :: .int x :: st))) := by
  subst hp; exact K.go fun _ k => XS.iushr X.here hx rfl hd rfl k
theorem own_i2l (X : Stand p l e R s m args below meth c T locs cells slots) (hx : p.tables.exec = Jvm.exec) {x : Int32} (hd : decode c.code pc = .ok (.i2l, 1)) (pc' : Nat) (hp : pc + 1 = pc')
    (K : OwnW p e below G (T.setTop (mkF m pc' Ls (.long x.toInt64 :: st)))) : OwnW p e below G (T.setTop (mkF m pc Ls (.int x :: st))) := by
  subst hp; exact K.go fun _ k => XS.i2l X.here hx rfl hd rfl k
theorem own_l2i (X : Stand p l e R s m args below meth c T locs cells slots) (hx : p.tables.exec = Jvm.exec) {x : Int64} (hd : decode c.code pc = .ok (.l2i, 1)) (pc' : Nat) (hp : pc + 1 = pc')
    (K : OwnW p e below G (T.setTop (mkF m pc' Ls (.int x.toInt32 :: st)))) : OwnW p e below G (T.setTop (mkF m pc Ls (.long x :: st))) := by
  subst hp; exact K.go fun _ k => XS.l2i X.here hx rfl hd rfl k
theorem own_lcmp (X : Stand p l e R s m args below meth c T locs cells slots) (hx : p.tables.exec = Jvm.exec) {x y : Int64} (hd : decode c.code pc = .ok (.lcmp, 1)) (pc' : Nat) (hp : pc + 1 = pc')
    (K : OwnW p e below G (T.setTop (mkF m pc' Ls (.int (lcmpW x y) :: st)))) : OwnW p e below G (T.setTop (mkF m pc Ls (.long y :: .long x :: st))) := by
  subst hp; exact K.go fun _ k => XS.lcmp X.here hx rfl hd rfl k
theorem own_dup (X : Stand p l e R s m args below meth c T locs cells slots) (hx : p.tables.exec = Jvm.exec) {x : Value} (hd : decode c.code pc = .ok (.dup, 1)) (hc : x.category = 1) (pc' : Nat) (hp : pc + 1 = pc')
    (K : OwnW p e below G (T.setTop (mkF m pc' Ls (x :: x :: st)))) : OwnW p e below G (T.setTop (mkF m pc Ls (x :: st))) := by
  subst hp; exact K.go fun _ k => XS.dup X.here hx rfl hd rfl hc k
theorem own_dup2 (X : Stand p l e R s m args below meth c T locs cells slots) (hx : p.tables.exec = Jvm.exec) {x y : Value} (hd : decode c.code pc = .ok (.dup2, 1)) (hc : x.category = 1) (hc' : y.category = 1) (pc' : Nat) (hp : pc + 1 = pc')
    (K : OwnW p e below G (T.setTop (mkF m pc' Ls (x :: y :: x :: y :: st)))) : OwnW p e below G (T.setTop (mkF m pc Ls (x :: y :: st))) := by
  subst hp; exact K.go fun _ k => XT.dup2 X.here hx rfl hd rfl hc hc' k
theorem own_pop (X : Stand p l e R s m args below meth c T locs cells slots) (hx : p.tables.exec = Jvm.exec) {x : Value} (hd : decode c.code pc = .ok (.pop, 1)) (hc : x.category = 1) (pc' : Nat) (hp : pc + 1 = pc')
    (K : OwnW p e below G (T.setTop (mkF m pc' Ls st))) : OwnW p e below G (T.setTop (mkF m pc Ls (x :: st))) := by
  subst hp; exact K.go fun _ k => XS.pop X.here hx rfl hd rfl hc k
theorem own_goto (X : Stand p l e R s m args below meth c T locs cells slots) (hx : p.tables.exec = Jvm.exec) {o : Int} (hd : decode c.code pc = .ok (.goto o, 3)) (pc' : Nat) (hp : (pc : Int) + o = (pc' : Nat))
    (K : OwnW p e below G (T.setTop (mkF m pc' Ls st))) : OwnW p e below G (T.setTop (mkF m pc Ls st)) := by
  exact K.go fun _ k => XS.goto X.here hx rfl (pc0 := pc) (pc' := pc') rfl hd (by omega) (by omega) k
theorem own_ifY (X : Stand p l e R s m args below meth c T locs cells slots) (hx : p.tables.exec = Jvm.exec) {cd : ClassFile.Cond} {x : Int32} {o : Int} (hd : decode c.code pc = .ok (.ifCond cd o, 3)) (hc : if_icmp.holds cd x 0 = true) (pc' : Nat) (hp : (pc : Int) + o = (pc' : Nat))
    (K : OwnW p e below G (T.setTop (mkF m pc' Ls st))) : OwnW p e below G (T.setTop (mkF m pc Ls (.int x :: st))) := by
  exact K.go fun _ k => XS.ifYes X.here hx rfl (pc0 := pc) (pc' := pc') rfl hd rfl ((if0 _ _).trans hc) (by omega) (by omega) k
theorem own_ifN (X : Stand p l e R s m args below meth c T locs cells slots) (hx : p.tables.exec = Jvm.exec) {cd : ClassFile.Cond} {x : Int32} {o : Int} (hd : decode c.code pc = .ok (.ifCond cd o, 3)) (hc : if_icmp.holds cd x 0 = false) (pc' : Nat) (hp : pc + 3 = pc')
    (K : OwnW p e below G (T.setTop (mkF m pc' Ls st))) : OwnW p e below G (T.setTop (mkF m pc Ls (.int x :: st))) := by
  subst hp; exact K.go fun _ k => XS.ifNo X.here hx rfl hd rfl ((if0 _ _).trans hc) k
theorem own_icmpY (X : Stand p l e R s m args below meth c T locs cells slots) (hx : p.tables.exec = Jvm.exec) {cd : ClassFile.Cond} {x y : Int32} {o : Int} (hd : decode c.code pc = .ok (.if_icmp cd o, 3)) (hc : if_icmp.holds cd x y = true) (pc' : Nat) (hp : (pc : Int) + o = (pc' : Nat))
    (K : OwnW p e below G (T.setTop (mkF m pc' Ls st))) : OwnW p e below G (T.setTop (mkF m pc Ls (.int y :: .int x :: st))) := by
  exact K.go fun _ k => XS.icmpYes X.here hx rfl (pc0 := pc) (pc' := pc') rfl hd rfl hc (by omega) (by omega) k
theorem own_icmpN (X : Stand p l e R s m args below meth c T locs cells slots) (hx : p.tables.exec = Jvm.exec) {cd : ClassFile.Cond} {x y : Int32} {o : Int} (hd : decode c.code pc = .ok (.if_icmp cd o, 3)) (hc : if_icmp.holds cd x y = false) (pc' : Nat) (hp : pc + 3 = pc')
    (K : OwnW p e below G (T.setTop (mkF m pc' Ls st))) : OwnW p e below G (T.setTop (mkF m pc Ls (.int y :: .int x :: st))) := by
  subst hp; exact K.go fun _ k => XS.icmpNo X.here hx rfl hd rfl hc k
theorem own_acmp (X : Stand p l e R s m args below meth c T locs cells slots) (hx : p.tables.exec = Jvm.exec) {cd : ACond} {x y : Value} (h1 : x.isRef = true) (h2 : y.isRef = true) {o : Int} (hd : decode c.code pc = .ok (.if_acmp cd o, 3)) (same : Bool) (hq : decide (x = y) = same) (ho : 0 ≤ (pc : Int) + o) (pc' : Nat) (hp : pc' = if acV cd same = true then ((pc : Int) + o).toNat else pc + 3)
    (K : OwnW p e below G (T.setTop (mkF m pc' Ls st))) : OwnW p e below G (T.setTop (mkF m pc Ls (y :: x :: st))) := by
  exact K.go fun _ k => Jvm.RoadKit.acmp (g := mkF m pc Ls (y :: x :: st)) X hx rfl h1 h2 (pc0 := pc) (pc' := pc') (same := same) rfl hd rfl hq ho hp k
theorem own_ifnullY (X : Stand p l e R s m args below meth c T locs cells slots) (hx : p.tables.exec = Jvm.exec) {o : Int} (hd : decode c.code pc = .ok (.ifnull o, 3)) (pc' : Nat) (hp : (pc : Int) + o = (pc' : Nat))
    (K : OwnW p e below G (T.setTop (mkF m pc' Ls st))) : OwnW p e below G (T.setTop (mkF m pc Ls (.null :: st))) := by
  exact K.go fun _ k => XS.ifnullYes X.here hx rfl (pc0 := pc) (pc' := pc') rfl hd rfl (by omega) (by omega) k
theorem own_ifnullN (X : Stand p l e R s m args below meth c T locs cells slots) (hx : p.tables.exec = Jvm.exec) {o : Int} {b : Addr} (hd : decode c.code pc = .ok (.ifnull o, 3)) (pc' : Nat) (hp : pc + 3 = pc')
    (K : OwnW p e below G (T.setTop (mkF m pc' Ls st))) : OwnW p e below G (T.setTop (mkF m pc Ls (.ref b :: st))) := by
  subst hp; exact K.go fun _ k => XS.ifnullNo X.here hx rfl hd rfl k
theorem own_getF (X : Stand p l e R s m args below meth c T locs cells slots) (hx : p.tables.exec = Jvm.exec) (hZ : Z.Warmed39 s.vm) {own R0 O n d : String} {index : Nat} (hown : s.vm.findClass own = some m.cls) (w : (Cond.fieldLink own index R0 n d).before a0 Z = true) (via : Via Z R0 O n d) (eT : T.heap = h) {a : Addr} {v : Value} (F : Fld Z h a O n d v) (hd : decode c.code pc = .ok (.getfield index, 3)) (pc' : Nat) (hp : pc + 3 = pc')
    (K : ∀ T', Stand p l e R s m args below meth c T' locs cells slots → T'.heap = h → OwnW p e below G (T'.setTop (mkF m pc' Ls (v :: st)))) : OwnW p e below G (T.setTop (mkF m pc Ls (.ref a :: st))) := by
  subst hp
  obtain ⟨T', X', e', st'⟩ := getF X hx hZ hown (host := "") (Or.inl w) via eT F (g := mkF m pc Ls (.ref a :: st)) rfl rfl hd
  exact (K T' X' e').go st'
theorem own_getS (X : Stand p l e R s m args below meth c T locs cells slots) (hx : p.tables.exec = Jvm.exec) (hZ : Z.Warmed39 s.vm) {own R0 O n d : String} {index : Nat} (hown : s.vm.findClass own = some m.cls) (w : (Cond.fieldLink own index R0 n d).before a0 Z = true) (via : Via Z R0 O n d) (eT : T.heap = h) {v : Value} (F : Sta Z h O n d v) (hd : decode c.code pc = .ok (.getstatic index, 3)) (pc' : Nat) (hp : pc + 3 = pc')
    (K : ∀ T', Stand p l e R s m args below meth c T' locs cells slots → T'.heap = h → OwnW p e below G (T'.setTop (mkF m pc' Ls (v :: st)))) : OwnW p e below G (T.setTop (mkF m pc Ls st)) := by
  subst hp
  obtain ⟨T', X', e', st'⟩ := getS (host := "") X hx hZ hown w via eT F (g := mkF m pc Ls st) rfl hd
  exact (K T' X' e').go st'
theorem own_castY (X : Stand p l e R s m args below meth c T locs cells slots) (hx : p.tables.exec = Jvm.exec) (hZ : Z.Warmed39 s.vm) {own C : String} {index : Nat} (hown : s.vm.findClass own = some m.cls) (w : (Cond.classLink own index C).before a0 Z = true) (eT : T.heap = h) {a : Addr} (F : Ins Z h a C true) (hd : decode c.code pc = .ok (.checkcast index, 3)) (pc' : Nat) (hp : pc + 3 = pc')
    (K : ∀ T', Stand p l e R s m args below meth c T' locs cells slots → T'.heap = h → OwnW p e below G (T'.setTop (mkF m pc' Ls (.ref a :: st)))) : OwnW p e below G (T.setTop (mkF m pc Ls (.ref a :: st))) := by
  subst hp
  obtain ⟨T', X', e', st'⟩ := castY X hx hZ hown w eT F (g := mkF m pc Ls (.ref a :: st)) rfl rfl hd
  exact (K T' X' e').go st'
theorem own_instY (X : Stand p l e R s m args below meth c T locs cells slots) (hx : p.tables.exec = Jvm.exec) (hZ : Z.Warmed39 s.vm) {own C : String} {index : Nat} (hown : s.vm.findClass own = some m.cls) (w : (Cond.classLink own index C).before a0 Z = true) (eT : T.heap = h) {a : Addr} (F : Ins Z h a C true) (hd : decode c.code pc = .ok (.instanceof index, 3)) (pc' : Nat) (hp : pc + 3 = pc')
    (K : ∀ T', Stand p l e R s m args below meth c T' locs cells slots → T'.heap = h → OwnW p e below G (T'.setTop (mkF m pc' Ls (.int (1 : Int32) :: st)))) : OwnW p e below G (T.setTop (mkF m pc Ls (.ref a :: st))) := by
  subst hp
  obtain ⟨T', X', e', st'⟩ := instY X hx hZ hown w eT F (g := mkF m pc Ls (.ref a :: st)) rfl rfl hd
  exact (K T' X' e').go st'
theorem own_putF (X : Stand p l e R s m args below meth c T locs cells slots) (hx : p.tables.exec = Jvm.exec) (hZ : Z.Warmed39 s.vm) {own R0 O n d C : String} {index kk : Nat} {ty : FieldType} (hown : s.vm.findClass own = some m.cls) (w : (Cond.fieldLink own index R0 n d).before a0 Z = true) (via : Via Z R0 O n d)
    (eT : T.heap = h) {a : Addr} {v old : Value} (F : Fld Z h a O n d old) (E : Exa Z h a C) (L : (Cond.lays C O n d).before a0 Z = true ∨ ((Cond.laysFinal C O n d).before a0 Z = true ∧ own = O ∧ meth.name = "<init>")) (wi : (Cond.instantiable C kk).before a0 Z = true)
    (hty : parseFieldDescriptor d = some ty) (hn : narrow ty v = v) (hf : fits ty v = true) (hd : decode c.code pc = .ok (.putfield index, 3)) (pc' : Nat) (hp : pc + 3 = pc')
    (K : ∀ T' h', Stand p l e R s m args below meth c T' (locs ++ [⟨a, Jvm.RoadKit.slotOf Z O n d⟩]) cells slots → T'.heap = h' → Wr h h' a (Jvm.RoadKit.slotOf Z O n d) v → OwnW p e below G (T'.setTop (mkF m pc' Ls st))) : OwnW p e below G (T.setTop (mkF m pc Ls (v :: .ref a :: st))) := by
  subst hp
  obtain ⟨T', h', X', e', W', st'⟩ := putF X hx hZ hown (host := "") (Or.inl w) via eT F E L wi hty hn hf (g := mkF m pc Ls (v :: .ref a :: st)) rfl rfl hd
  exact (K T' h' X' e' W').go st'
theorem own_new (X : Stand p l e R s m args below meth c T locs cells slots) (hx : p.tables.exec = Jvm.exec) (hZ : Z.Warmed39 s.vm) {own C : String} {index n : Nat} (hown : s.vm.findClass own = some m.cls) (w : (Cond.classLink own index C).before a0 Z = true) (wi : (Cond.instantiable C n).before a0 Z = true) (wz : (Cond.initialized C).before a0 Z = true) (eT : T.heap = h)
    (hd : decode c.code pc = .ok (.new index, 3)) (hc : cells + 1 ≤ R.cells) (hl : slots + n ≤ R.slots) (pc' : Nat) (hp : pc + 3 = pc')
    (K : ∀ T' h' b, b = h.size → Stand p l e R s m args below meth c T' locs (cells + 1) (slots + n) → T'.heap = h' → Ext h h' → Exa Z h' b C → (∀ {O nm d : String} {ty : FieldType}, Laid Z a0 C O nm d → parseFieldDescriptor d = some ty → Fld Z h' b O nm d (defaultValue ty)) → OwnW p e below G (T'.setTop (mkF m pc' Ls (.ref b :: st)))) : OwnW p e below G (T.setTop (mkF m pc Ls st)) := by
  subst hp
  obtain ⟨T', h', X', e', E', A', D', -, st'⟩ := newO X hx hZ hown w wi wz eT (g := mkF m pc Ls st) rfl hd hc hl
  exact (K T' h' _ rfl X' e' E' A' D').go st'
theorem own_initO (X : Stand p l e R s m args below meth c T locs cells slots) (hx : p.tables.exec = Jvm.exec) (hZ : Z.Warmed39 s.vm) {own : String} {idx : Nat} (hown : s.vm.findClass own = some m.cls) (w1 : (Cond.methodLink own idx Lib.objectInit).before a0 Z = true) (w2 : (Cond.instanceMethod Lib.objectInit).before a0 Z = true)
    (w3 : (Cond.code Lib.objectInit ⟨#[0xb1]⟩ 1 none).before a0 Z = true) (eT : T.heap = h) (hsize : Ls.size = c.maxLocals) {a : Addr} (hd : decode c.code pc = .ok (.invokespecial idx, 3))
    (hf : 1 ≤ R.frames) (W : Nat) (hW : (st.map fun v => v.category).sum ≤ W) (hl : W + 12 ≤ R.locals) (pc' : Nat) (hp : pc + 3 = pc')
    (K : ∀ T', Stand p l e R s m args below meth c T' locs cells slots → T'.heap = h → OwnW p e below G (T'.setTop (mkF m pc' Ls st))) : OwnW p e below G (T.setTop (mkF m pc Ls (.ref a :: st))) := by
  subst hp
  obtain ⟨T', X', e', st'⟩ := initO X hx hZ hown w1 w2 w3 eT (g := mkF m pc Ls (.ref a :: st)) rfl hsize rfl hd hf (W := W) (by show 2 * 0 + _ ≤ _; omega) hl
  exact (K T' X' e').go st'
theorem own_callI {y : MethodName} {bytes : ByteArray} {maxL : Nat} {rm : Room} {Qc : Option Value → Heap → List Loc → Prop} {own : String} {index : Nat} {a : Addr} {argsL : List Value} {ps : List FieldType} {r : Option FieldType}
    (X : Stand p l e R s m args below meth c T locs cells slots) (hx : p.tables.exec = Jvm.exec) (hZ : Z.Warmed39 s.vm) (hown : s.vm.findClass own = some m.cls) (hy1 : y.name = "<init>") (wl : (Cond.methodLink own index y).before a0 Z = true) (wi : (Cond.instanceMethod y).before a0 Z = true)
    (wc : (Cond.code y bytes maxL none).before a0 Z = true) (wz : (Cond.initialized y.cls).before a0 Z = true) (hy : y.cls ≠ "java/lang/invoke/MethodHandle" ∧ y.cls ≠ "java/lang/invoke/VarHandle")
    (hM : MetFree l y (head1 [Cond.code y bytes maxL none] rm) (fun a' U => a' = (.ref a :: argsL).toArray ∧ Z.Warmed39 U.vm ∧ U.heap = h) (fun _ _ _ _ _ => True) (fun _ U o U' => ∃ v L, o = .returned v ∧ Qc v U'.heap L ∧ FrameEnd U o U' L rm.cells rm.slots))
    (eT : T.heap = h) (hd : decode c.code pc = .ok (.invokespecial index, 3)) (hpd : parseMethodDescriptor y.desc = some ⟨ps, r⟩) (hlen : argsL.length = ps.length) (hsz : Ls.size = c.maxLocals)
    {stk : List Value} (hst : stk = argsL.reverse ++ .ref a :: st) (W : Nat) (hW : (st.map fun v => v.category).sum ≤ W) (hf : rm.frames + 1 ≤ R.frames) (hl : W + (maxL + 11) + rm.locals ≤ R.locals) (hc : cells + rm.cells ≤ R.cells) (hs : slots + rm.slots ≤ R.slots) (pc' : Nat) (hp : pc + 3 = pc')
    (K : ∀ T' v L, Stand p l e R s m args below meth c T' (locs ++ L) (cells + rm.cells) (slots + rm.slots) → Qc v T'.heap L → OwnW p e below G (T'.setTop (mkF m pc' Ls (v.toList ++ st)))) : OwnW p e below G (T.setTop (mkF m pc Ls stk)) := by
  subst hp
  obtain ⟨v, _, ⟨T', L', k', n'⟩, -, X', ⟨Lc, hQ, q1, q2, q3⟩, st'⟩ := X.specialBack hx (y := y) hy1 hown (mvT hZ wl) (mvT hZ wi) (mvT hZ wc) hy (backOf (W := W) hM hZ wc wz hf hl) (g := mkF m pc Ls stk) rfl hsz (Steps.refl _) (a := a) (argsL := argsL) (rest := st) (lenOf hpd hlen) hst (by show 2 * 0 + _ ≤ _; omega) hd (fun _ _ => ⟨rfl, eT, hc, hs⟩)
  dsimp only [Pt.U, Pt.locs, Pt.cells, Pt.slots] at X' q1 q2 q3 st' hQ
  subst q1 q2 q3
  exact (K T' v Lc X' hQ).tr st'
theorem own_callIN {y : MethodName} {bytes : ByteArray} {maxL : Nat} {rm : Room} {Qc : Option Value → Heap → List Loc → Prop} {own host : String} {index : Nat} {a : Addr} {argsL : List Value} {ps : List FieldType} {r : Option FieldType}
    (X : Stand p l e R s m args below meth c T locs cells slots) (hx : p.tables.exec = Jvm.exec) (hZ : Z.Warmed39 s.vm) (hown : s.vm.findClass own = some m.cls) (hy1 : y.name = "<init>") (wl : (Cond.methodLinkNest own index y host).before a0 Z = true) (wi : (Cond.instanceMethod y).before a0 Z = true)
    (wc : (Cond.code y bytes maxL none).before a0 Z = true) (wz : (Cond.initialized y.cls).before a0 Z = true) (hy : y.cls ≠ "java/lang/invoke/MethodHandle" ∧ y.cls ≠ "java/lang/invoke/VarHandle")
    (hM : MetFree l y (head1 [Cond.code y bytes maxL none] rm) (fun a' U => a' = (.ref a :: argsL).toArray ∧ Z.Warmed39 U.vm ∧ U.heap = h) (fun _ _ _ _ _ => True) (fun _ U o U' => ∃ v L, o = .returned v ∧ Qc v U'.heap L ∧ FrameEnd U o U' L rm.cells rm.slots))
    (eT : T.heap = h) (hd : decode c.code pc = .ok (.invokespecial index, 3)) (hpd : parseMethodDescriptor y.desc = some ⟨ps, r⟩) (hlen : argsL.length = ps.length) (hsz : Ls.size = c.maxLocals)
    {stk : List Value} (hst : stk = argsL.reverse ++ .ref a :: st) (W : Nat) (hW : (st.map fun v => v.category).sum ≤ W) (hf : rm.frames + 1 ≤ R.frames) (hl : W + (maxL + 11) + rm.locals ≤ R.locals) (hc : cells + rm.cells ≤ R.cells) (hs : slots + rm.slots ≤ R.slots) (pc' : Nat) (hp : pc + 3 = pc')
    (K : ∀ T' v L, Stand p l e R s m args below meth c T' (locs ++ L) (cells + rm.cells) (slots + rm.slots) → Qc v T'.heap L → OwnW p e below G (T'.setTop (mkF m pc' Ls (v.toList ++ st)))) : OwnW p e below G (T.setTop (mkF m pc Ls stk)) := by
  subst hp
  obtain ⟨v, _, ⟨T', L', k', n'⟩, -, X', ⟨Lc, hQ, q1, q2, q3⟩, st'⟩ := X.specialBackNest hx (y := y) hy1 hown (Cond.methodLinkNest_wide hZ wl) (mvT hZ wi) (mvT hZ wc) hy (backOf (W := W) hM hZ wc wz hf hl) (g := mkF m pc Ls stk) rfl hsz (Steps.refl _) (a := a) (argsL := argsL) (rest := st) (lenOf hpd hlen) hst (by show 2 * 0 + _ ≤ _; omega) hd (fun _ _ => ⟨rfl, eT, hc, hs⟩)
  dsimp only [Pt.U, Pt.locs, Pt.cells, Pt.slots] at X' q1 q2 q3 st' hQ
  subst q1 q2 q3
  exact (K T' v Lc X' hQ).tr st'
theorem own_callV {y : MethodName} {bytes : ByteArray} {maxL : Nat} {ret : Option FieldType} {rm : Room} {Qc : Option Value → Heap → List Loc → Prop} {own C : String} {index : Nat} {a : Addr} {argsL : List Value} {ps : List FieldType} {r : Option FieldType}
    (X : Stand p l e R s m args below meth c T locs cells slots) (hx : p.tables.exec = Jvm.exec) (hZ : Z.Warmed39 s.vm) (hown : s.vm.findClass own = some m.cls) (wl : (Cond.methodLink own index y).before a0 Z = true) (wd : (Cond.declares y).before a0 Z = true) (ws : (Cond.selects C y y).before a0 Z = true) (wi : (Cond.instanceMethod y).before a0 Z = true)
    (wc : (Cond.code y bytes maxL ret).before a0 Z = true) (wz : (Cond.initialized y.cls).before a0 Z = true) (hy : y.cls ≠ "java/lang/invoke/MethodHandle" ∧ y.cls ≠ "java/lang/invoke/VarHandle") (E : Exa Z h a C)
    (hM : MetFree l y (head1 [Cond.code y bytes maxL ret] rm) (fun a' U => a' = (.ref a :: argsL).toArray ∧ Z.Warmed39 U.vm ∧ U.heap = h) (fun _ _ _ _ _ => True) (fun _ U o U' => ∃ v L, o = .returned v ∧ Qc v U'.heap L ∧ FrameEnd U o U' L rm.cells rm.slots))
    (eT : T.heap = h) (hd : decode c.code pc = .ok (.invokevirtual index, 3)) (hpd : parseMethodDescriptor y.desc = some ⟨ps, r⟩) (hlen : argsL.length = ps.length) (hsz : Ls.size = c.maxLocals)
    {stk : List Value} (hst : stk = argsL.reverse ++ .ref a :: st) (W : Nat) (hW : (st.map fun v => v.category).sum ≤ W) (hf : rm.frames + 1 ≤ R.frames) (hl : W + (maxL + 11) + rm.locals ≤ R.locals) (hc : cells + rm.cells ≤ R.cells) (hs : slots + rm.slots ≤ R.slots) (pc' : Nat) (hp : pc + 3 = pc')
    (K : ∀ T' v L, Stand p l e R s m args below meth c T' (locs ++ L) (cells + rm.cells) (slots + rm.slots) → Qc v T'.heap L → OwnW p e below G (T'.setTop (mkF m pc' Ls (v.toList ++ st)))) : OwnW p e below G (T.setTop (mkF m pc Ls stk)) := by
  subst hp
  obtain ⟨cq, kq, qa, qb, qc⟩ := isOf hZ eT E
  obtain ⟨v, _, ⟨T', L', k', n'⟩, -, X', ⟨Lc, hQ, q1, q2, q3⟩, st'⟩ := X.virtualBack hx (y := y) (z := y) hown (mvT hZ wl) (mvT hZ wd) (notFace_of_selects (args := #[]) (mvT hZ ws)) (mvT hZ ws) (mvT hZ wi) hy (backOf (W := W) hM hZ wc wz hf hl) qa qc (g := mkF m pc Ls stk) rfl hsz (Steps.refl _) (argsL := argsL) (rest := st) (lenOf hpd hlen) hst (by show 2 * 0 + _ ≤ _; omega) hd (fun _ _ => ⟨rfl, eT, hc, hs⟩)
  dsimp only [Pt.U, Pt.locs, Pt.cells, Pt.slots] at X' q1 q2 q3 st' hQ
  subst q1 q2 q3
  exact (K T' v Lc X' hQ).tr st'
theorem own_callS {y : MethodName} {bytes : ByteArray} {maxL : Nat} {ret : Option FieldType} {rm : Room} {Qc : Option Value → Heap → List Loc → Prop} {own : String} {index : Nat} {argsL : List Value} {ps : List FieldType} {r : Option FieldType}
    (X : Stand p l e R s m args below meth c T locs cells slots) (hx : p.tables.exec = Jvm.exec) (hZ : Z.Warmed39 s.vm) (hown : s.vm.findClass own = some m.cls) (wl : (Cond.methodLink own index y).before a0 Z = true) (wst : (Cond.static y).before a0 Z = true)
    (wc : (Cond.code y bytes maxL ret).before a0 Z = true) (wz : (Cond.initialized y.cls).before a0 Z = true) (hy : y.cls ≠ "java/lang/invoke/MethodHandle" ∧ y.cls ≠ "java/lang/invoke/VarHandle")
    (hM : MetFree l y (head1 [Cond.code y bytes maxL ret] rm) (fun a' U => a' = argsL.toArray ∧ Z.Warmed39 U.vm ∧ U.heap = h) (fun _ _ _ _ _ => True) (fun _ U o U' => ∃ v L, o = .returned v ∧ Qc v U'.heap L ∧ FrameEnd U o U' L rm.cells rm.slots))
    (eT : T.heap = h) (hd : decode c.code pc = .ok (.invokestatic index, 3)) (hpd : parseMethodDescriptor y.desc = some ⟨ps, r⟩) (hlen : argsL.length = ps.length) (hsz : Ls.size = c.maxLocals)
    {stk : List Value} (hst : stk = argsL.reverse ++ st) (W : Nat) (hW : (st.map fun v => v.category).sum ≤ W) (hf : rm.frames + 1 ≤ R.frames) (hl : W + (maxL + 11) + rm.locals ≤ R.locals) (hc : cells + rm.cells ≤ R.cells) (hs : slots + rm.slots ≤ R.slots) (pc' : Nat) (hp : pc + 3 = pc')
    (K : ∀ T' v L, Stand p l e R s m args below meth c T' (locs ++ L) (cells + rm.cells) (slots + rm.slots) → Qc v T'.heap L → OwnW p e below G (T'.setTop (mkF m pc' Ls (v.toList ++ st)))) : OwnW p e below G (T.setTop (mkF m pc Ls stk)) := by
  subst hp
  obtain ⟨v, _, ⟨T', L', k', n'⟩, -, X', ⟨Lc, hQ, q1, q2, q3⟩, st'⟩ := Jvm.LawKit.callS X hx (y := y) hown (mvT hZ wl) (mvT hZ wst) (mvT hZ wz) (mvT hZ wc) hy (backOf (W := W) hM hZ wc wz hf hl) (g := mkF m pc Ls stk) rfl hsz (argsL := argsL) (rest := st) (lenOf hpd hlen) hst (by show 2 * 0 + _ ≤ _; omega) hd (fun _ _ => ⟨rfl, eT, hc, hs⟩)
  dsimp only [Pt.U, Pt.locs, Pt.cells, Pt.slots] at X' q1 q2 q3 st' hQ
  subst q1 q2 q3
  exact (K T' v Lc X' hQ).go st'
theorem own_ret (X : Stand p l e R s m args below meth c T locs cells slots) (hx : p.tables.exec = Jvm.exec) (hlk : meth.locks = false) {w : Value} {t : FieldType} {i : Instr} (hret : meth.sig.returnType = some t) (hn : narrow t w = w)
    (hi : (i = .ireturn ∧ (t = .int ∨ t = .boolean ∨ t = .byte ∨ t = .char ∨ t = .short) ∧ ∃ z, w = .int z) ∨ (i = .lreturn ∧ t = .long ∧ ∃ z, w = .long z) ∨ (i = .dreturn ∧ t = .double ∧ ∃ z, w = .double z) ∨ (i = .freturn ∧ t = .float ∧ ∃ z, w = .float z) ∨ (i = .areturn ∧ t.isReference = true ∧ w.isRef = true))
    (hd : decode c.code pc = .ok (i, 1)) (hc : cells ≤ rc) (hs : slots ≤ rs) (hQ : Q (some w) T.heap locs) : OwnW p e below (OwnG s Q rc rs) (T.setTop (mkF m pc Ls (w :: st))) := by
  obtain ⟨fs, hr, hrun, hended, hW, hsame⟩ := X.leave (v := some w) (fun h => by rw [hret] at h; cases h) hlk
  exact ⟨_, _, retOut X hx hret hn hi hd hr, hrun, hended, _, _, rfl, hQ, ⟨_, rfl⟩, hW, hsame.mono hc hs⟩
theorem own_retI (X : Stand p l e R s m args below meth c T locs cells slots) (hx : p.tables.exec = Jvm.exec) (hlk : meth.locks = false) {z : Int32} (hret : meth.sig.returnType = some .int) (hd : decode c.code pc = .ok (.ireturn, 1)) (hc : cells ≤ rc) (hs : slots ≤ rs) (hQ : Q (some (.int z)) T.heap locs) : OwnW p e below (OwnG s Q rc rs) (T.setTop (mkF m pc Ls (.int z :: st))) :=
  own_ret X hx hlk hret rfl (Or.inl ⟨rfl, Or.inl rfl, z, rfl⟩) hd hc hs hQ
theorem own_retZ (X : Stand p l e R s m args below meth c T locs cells slots) (hx : p.tables.exec = Jvm.exec) (hlk : meth.locks = false) {z : Int32} (hret : meth.sig.returnType = some .boolean) (hz : z = 0 ∨ z = 1) (hd : decode c.code pc = .ok (.ireturn, 1)) (hc : cells ≤ rc) (hs : slots ≤ rs) (hQ : Q (some (.int z)) T.heap locs) : OwnW p e below (OwnG s Q rc rs) (T.setTop (mkF m pc Ls (.int z :: st))) :=
  own_ret X hx hlk hret (by rcases hz with rfl | rfl <;> rfl) (Or.inl ⟨rfl, Or.inr (Or.inl rfl), z, rfl⟩) hd hc hs hQ
theorem own_retJ (X : Stand p l e R s m args below meth c T locs cells slots) (hx : p.tables.exec = Jvm.exec) (hlk : meth.locks = false) {z : Int64} (hret : meth.sig.returnType = some .long) (hd : decode c.code pc = .ok (.lreturn, 1)) (hc : cells ≤ rc) (hs : slots ≤ rs) (hQ : Q (some (.long z)) T.heap locs) : OwnW p e below (OwnG s Q rc rs) (T.setTop (mkF m pc Ls (.long z :: st))) :=
  own_ret X hx hlk hret rfl (Or.inr (Or.inl ⟨rfl, rfl, z, rfl⟩)) hd hc hs hQ
theorem own_retA (X : Stand p l e R s m args below meth c T locs cells slots) (hx : p.tables.exec = Jvm.exec) (hlk : meth.locks = false) {w : Value} {t : FieldType} (hret : meth.sig.returnType = some t) (ht : t.isReference = true) (hw : w.isRef = true) (hn : narrow t w = w) (hd : decode c.code pc = .ok (.areturn, 1)) (hc : cells ≤ rc) (hs : slots ≤ rs) (hQ : Q (some w) T.heap locs) : OwnW p e below (OwnG s Q rc rs) (T.setTop (mkF m pc Ls (w :: st))) :=
  own_ret X hx hlk hret hn (Or.inr (Or.inr (Or.inr (Or.inr ⟨rfl, ht, hw⟩)))) hd hc hs hQ
theorem own_retV (X : Stand p l e R s m args below meth c T locs cells slots) (hx : p.tables.exec = Jvm.exec) (hlk : meth.locks = false) (hret : meth.sig.returnType = none) (hd : decode c.code pc = .ok (.return_, 1)) (hc : cells ≤ rc) (hs : slots ≤ rs) (hQ : Q none T.heap locs) : OwnW p e below (OwnG s Q rc rs) (T.setTop (mkF m pc Ls [])) := by
  obtain ⟨fs, hr, hrun, hended, hW, hsame⟩ := X.leave (v := none) (fun _ => rfl) hlk
  exact ⟨_, _, X.returnOut hx hret hd hr, hrun, hended, _, _, rfl, hQ, ⟨_, rfl⟩, hW, hsame.mono hc hs⟩
/-- a cell that is no class's statics -/
def OwnP (h : Heap) (x : Addr) : Prop := ∃ cell : Cell, h[x]? = some cell ∧ cell.vm.isStatics = false
theorem own_pE {a : Addr} {C : String} (E : Exa Z h a C) : OwnP h a := by obtain ⟨cell, k, h1, -, -, h4, -⟩ := E; exact ⟨cell, h1, h4⟩
theorem own_pV {a : Addr} {k : ClassId} {ty : FieldType} {n : Int32} {vs : List Value} {dv : Value} (F : Arv Z h a k ty n vs dv) : OwnP h a := by obtain ⟨cl, A, -⟩ := F; exact ⟨cl, A.1, A.plain⟩
theorem own_sta_keep {h' : Heap} {C n d : String} {v : Value} {ws : List Addr} (F : Sta Z h C n d v) (K : Keep h h' ws) (q : ∀ x ∈ ws, OwnP h x) : Sta Z h' C n d v := by
  obtain ⟨cf, i, k, f, st, cell, h1, h2, h3, h4, h5, h6, h7⟩ := F
  refine ⟨cf, i, k, f, st, cell, h1, h2, h3, h4, K.2.1 st cell h5 (fun z => ?_), h6, h7⟩
  obtain ⟨cell', e1, e2⟩ := q st z
  cases h5.symm.trans e1
  rw [h6] at e2; cases e2
theorem own_feq {t : Term} {C n d : String} {k : Int32} {a : Addr} (ht : t.eval args s none [] s = some (.ref a)) (hc : (Jvm.Cond.eq (Jvm.Term.field t C n d) (Jvm.Term.int k)).value args s none s [] = some true) : Fld s s.heap a C n d (.int k) := by
  refine Fld.start ?_
  have e := fld_at (args := args) (first := s) (o := none) (idx := []) (C := C) (n := n) (dd := d) ht
  rw [← e]
  obtain ⟨x, y, hx, hy, -, -⟩ := cmp_v (Or.inl hc)
  have hy' : y = .int k := Option.some.inj (hy.symm.trans rfl)
  subst hy'
  have h2 := hc
  simp only [Cond.value, hx, hy] at h2
  cases x with
  | int z => simp only [Option.some.injEq, decide_eq_true_eq] at h2; rw [hx, h2]
  | _ => simp at h2
theorem own_newP (X : Stand p l e R s m args below meth c T locs cells slots) (hx : p.tables.exec = Jvm.exec) (hZ : Z.Warmed39 s.vm) {aty : ArrayType} (w : (Cond.arrayClass (newarray.typeOf aty)).before a0 Z = true) (eT : T.heap = h) (hd : decode c.code pc = .ok (.newarray aty, 2)) {n : Int32}
    (hn : ¬ n < 0) (cap : Nat) (hcap : n.toNatClampNeg ≤ cap) (hb : cap * 8 ≤ 536870912) (hc : cells + 1 ≤ R.cells) (hl : slots + cap ≤ R.slots) (pc' : Nat) (hp : pc + 2 = pc')
    (K : ∀ T' h' b cA, b = h.size → Stand p l e R s m args below meth c T' locs (cells + 1) (slots + cap) → T'.heap = h' → Ext h h' → Arr Z h' b (newA cA (newarray.typeOf aty) n) (newarray.typeOf aty) → OwnW p e below G (T'.setTop (mkF m pc' Ls (.ref b :: st)))) : OwnW p e below G (T.setTop (mkF m pc Ls (.int n :: st))) := by
  subst hp
  obtain ⟨T', h', cA, X', e', E', A', st'⟩ := newP X hx hZ w eT (g := mkF m pc Ls (.int n :: st)) rfl hd rfl hn hcap hb hc hl
  exact (K T' h' _ cA rfl X' e' E' A').go st'
theorem own_stZ (X : Stand p l e R s m args below meth c T locs cells slots) (hx : p.tables.exec = Jvm.exec) (hZ : Z.Warmed39 s.vm) (eT : T.heap = h) {a : Addr} {cl : Cell} (A : Arr Z h a cl .boolean) {j x : Int32} (hj : ¬ (j < 0 ∨ cl.slots.size ≤ j.toNatClampNeg)) (hd : decode c.code pc = .ok (.bastore, 1)) (pc' : Nat) (hp : pc + 1 = pc')
    (K : ∀ T' h', Stand p l e R s m args below meth c T' (locs ++ [⟨a, j.toNatClampNeg⟩]) cells slots → T'.heap = h' → Wr h h' a j.toNatClampNeg (.int (nar .boolean x)) → OwnW p e below G (T'.setTop (mkF m pc' Ls st))) : OwnW p e below G (T.setTop (mkF m pc Ls (.int x :: .int j :: .ref a :: st))) := by
  subst hp
  obtain ⟨T', h', X', e', W', st'⟩ := stZ X hx hZ eT A hj (g := mkF m pc Ls (.int x :: .int j :: .ref a :: st)) rfl rfl hd
  exact (K T' h' X' e' W').go st'
theorem own_stJ (X : Stand p l e R s m args below meth c T locs cells slots) (hx : p.tables.exec = Jvm.exec) (hZ : Z.Warmed39 s.vm) (eT : T.heap = h) {a : Addr} {cl : Cell} (A : Arr Z h a cl .long) {j : Int32} {x : Int64} (hj : ¬ (j < 0 ∨ cl.slots.size ≤ j.toNatClampNeg)) (hd : decode c.code pc = .ok (.lastore, 1)) (pc' : Nat) (hp : pc + 1 = pc')
    (K : ∀ T' h', Stand p l e R s m args below meth c T' (locs ++ [⟨a, j.toNatClampNeg⟩]) cells slots → T'.heap = h' → Wr h h' a j.toNatClampNeg (.long x) → OwnW p e below G (T'.setTop (mkF m pc' Ls st))) : OwnW p e below G (T.setTop (mkF m pc Ls (.long x :: .int j :: .ref a :: st))) := by
  subst hp
  obtain ⟨T', h', X', e', W', st'⟩ := stJ X hx hZ eT A hj (g := mkF m pc Ls (.long x :: .int j :: .ref a :: st)) rfl rfl hd
  exact (K T' h' X' e' W').go st'
theorem own_stI (X : Stand p l e R s m args below meth c T locs cells slots) (hx : p.tables.exec = Jvm.exec) (hZ : Z.Warmed39 s.vm) (eT : T.heap = h) {a : Addr} {cl : Cell} (A : Arr Z h a cl .int) {j x : Int32} (hj : ¬ (j < 0 ∨ cl.slots.size ≤ j.toNatClampNeg)) (hd : decode c.code pc = .ok (.iastore, 1)) (pc' : Nat) (hp : pc + 1 = pc')
    (K : ∀ T' h', Stand p l e R s m args below meth c T' (locs ++ [⟨a, j.toNatClampNeg⟩]) cells slots → T'.heap = h' → Wr h h' a j.toNatClampNeg (.int x) → OwnW p e below G (T'.setTop (mkF m pc' Ls st))) : OwnW p e below G (T.setTop (mkF m pc Ls (.int x :: .int j :: .ref a :: st))) := by
  subst hp
  obtain ⟨T', h', X', e', W', st'⟩ := stI X hx hZ eT A hj (g := mkF m pc Ls (.int x :: .int j :: .ref a :: st)) rfl rfl hd
  exact (K T' h' X' e' W').go st'
theorem own_ldZ (X : Stand p l e R s m args below meth c T locs cells slots) (hx : p.tables.exec = Jvm.exec) (hZ : Z.Warmed39 s.vm) (eT : T.heap = h) {a : Addr} {k : ClassId} {n : Int32} {vs : List Value} {dv : Value} (F : Arv Z h a k .boolean n vs dv) {j : Int32} (hj : ¬ j < 0 ∧ j < n) (v : Value) (hv : vs.getD j.toNatClampNeg dv = v) (hd : decode c.code pc = .ok (.baload, 1)) (pc' : Nat) (hp : pc + 1 = pc')
    (K : OwnW p e below G (T.setTop (mkF m pc' Ls (v :: st)))) : OwnW p e below G (T.setTop (mkF m pc Ls (.int j :: .ref a :: st))) := by
  subst hp
  obtain ⟨cl, A, -, S, -, H, -⟩ := F
  have hin := inb_of S hj
  exact K.go (X.baloadBooleans hx (j := j) (v := v) (by rw [eT]; exact A.1) (State.isArrayOf_alike hZ.alike A.2.1) A.2.2 hin (H.at hin hv) (g := mkF m pc Ls (.int j :: .ref a :: st)) rfl rfl hd)
theorem own_ldJ (X : Stand p l e R s m args below meth c T locs cells slots) (hx : p.tables.exec = Jvm.exec) (hZ : Z.Warmed39 s.vm) (eT : T.heap = h) {a : Addr} {k : ClassId} {n : Int32} {vs : List Value} {dv : Value} (F : Arv Z h a k .long n vs dv) {j : Int32} (hj : ¬ j < 0 ∧ j < n) (v : Value) (hv : vs.getD j.toNatClampNeg dv = v) (hd : decode c.code pc = .ok (.laload, 1)) (pc' : Nat) (hp : pc + 1 = pc')
    (K : OwnW p e below G (T.setTop (mkF m pc' Ls (v :: st)))) : OwnW p e below G (T.setTop (mkF m pc Ls (.int j :: .ref a :: st))) := by
  subst hp
  obtain ⟨cl, A, -, S, -, H, -⟩ := F
  have hin := inb_of S hj
  exact K.go (X.laload hx (j := j) (v := v) (by rw [eT]; exact A.1) (State.isArrayOf_alike hZ.alike A.2.1) A.2.2 hin (H.at hin hv) (g := mkF m pc Ls (.int j :: .ref a :: st)) rfl rfl hd)
theorem own_len (X : Stand p l e R s m args below meth c T locs cells slots) (hx : p.tables.exec = Jvm.exec) (hZ : Z.Warmed39 s.vm) (eT : T.heap = h) {a : Addr} {k : ClassId} {ty : FieldType} {n : Int32} {vs : List Value} {dv : Value} (F : Arv Z h a k ty n vs dv) (hd : decode c.code pc = .ok (.arraylength, 1)) (pc' : Nat) (hp : pc + 1 = pc')
    (K : OwnW p e below G (T.setTop (mkF m pc' Ls (.int n :: st)))) : OwnW p e below G (T.setTop (mkF m pc Ls (.ref a :: st))) := by
  subst hp
  obtain ⟨cl, A, -, S, N, -, -⟩ := F
  rw [← len_of S N] at K
  exact K.go (X.arraylength hx (by rw [eT]; exact A.1) (State.isArrayOf_alike hZ.alike A.2.1) (g := mkF m pc Ls (.ref a :: st)) rfl rfl hd)
theorem own_instNull (X : Stand p l e R s m args below meth c T locs cells slots) (hx : p.tables.exec = Jvm.exec) {index : Nat} (hd : decode c.code pc = .ok (.instanceof index, 3)) (pc' : Nat) (hp : pc + 3 = pc')
    (K : OwnW p e below G (T.setTop (mkF m pc' Ls (.int (0 : Int32) :: st)))) : OwnW p e below G (T.setTop (mkF m pc Ls (.null :: st))) := by
  subst hp; exact K.go (X.instanceofNull hx (g := mkF m pc Ls (.null :: st)) rfl rfl hd)
theorem own_instNo (X : Stand p l e R s m args below meth c T locs cells slots) (hx : p.tables.exec = Jvm.exec) (hZ : Z.Warmed39 s.vm) {own C D : String} {index : Nat} (hown : s.vm.findClass own = some m.cls) (w : (Cond.classLink own index C).before a0 Z = true) (eT : T.heap = h) {a : Addr} (E : Exa Z h a D) (F : ∃ c t, Z.vm.findClass D = some c ∧ Z.vm.findClass C = some t ∧ Z.vm.assignable c t = false) (hd : decode c.code pc = .ok (.instanceof index, 3)) (pc' : Nat) (hp : pc + 3 = pc')
    (K : ∀ T', Stand p l e R s m args below meth c T' locs cells slots → T'.heap = h → OwnW p e below G (T'.setTop (mkF m pc' Ls (.int (0 : Int32) :: st)))) : OwnW p e below G (T.setTop (mkF m pc Ls (.ref a :: st))) := by
  subst hp
  obtain ⟨T', X', e', st'⟩ := instNo X hx hZ hown w eT E F (g := mkF m pc Ls (.ref a :: st)) rfl rfl hd
  exact (K T' X' e').go st'
theorem own_ldA (X : Stand p l e R s m args below meth c T locs cells slots) (hx : p.tables.exec = Jvm.exec) (hZ : Z.Warmed39 s.vm) (eT : T.heap = h) {a : Addr} {cl : Cell} {ty : FieldType} (A : Arr Z h a cl ty) (hty : ty.isReference = true) {j : Int32} (hin : ¬ (j < 0 ∨ cl.slots.size ≤ j.toNatClampNeg)) {v : Value} (hv : cl.slots[j.toNatClampNeg]? = some v) (hd : decode c.code pc = .ok (.aaload, 1)) (pc' : Nat) (hp : pc + 1 = pc')
    (K : OwnW p e below G (T.setTop (mkF m pc' Ls (v :: st)))) : OwnW p e below G (T.setTop (mkF m pc Ls (.int j :: .ref a :: st))) := by
  subst hp
  exact K.go (X.aaload hx (j := j) (v := v) (by rw [eT]; exact A.1) (State.isArrayOf_alike hZ.alike A.2.1) hty A.2.2 hin hv (g := mkF m pc Ls (.int j :: .ref a :: st)) rfl rfl hd)
theorem own_cp (X : Stand p l e R s m args below meth c T locs cells slots) (hx : p.tables.exec = Jvm.exec) (hZ : Z.Warmed39 s.vm) {own : String} {index : Nat} (hown : s.vm.findClass own = some m.cls)
    (w1 : (Cond.methodLink own index Jvm.Stand.acN).before a0 Z = true) (w2 : (Cond.native Jvm.Stand.acN).before a0 Z = true) (w3 : (Cond.static Jvm.Stand.acN).before a0 Z = true) (w4 : (Cond.initialized "java/lang/System").before a0 Z = true) (eT : T.heap = h)
    {a b : Addr} {k k' : ClassId} {ty : FieldType} {z z' sp dp nn : Int32} {vs vd : List Value} {dv dd : Value} (A : Arv Z h a k ty z vs dv) (B : Arv Z h b k' ty z' vd dd) (hty : refKind ty = false)
    (h1 : ¬ sp < 0) (h2 : ¬ dp < 0) (h3 : ¬ nn < 0) (h4 : sp.toNatClampNeg + nn.toNatClampNeg ≤ z.toNatClampNeg) (h5 : dp.toNatClampNeg + nn.toNatClampNeg ≤ z'.toNatClampNeg)
    (us : List Value) (hus : us = (List.range nn.toNatClampNeg).map fun i => vs.getD (sp.toNatClampNeg + i) dv) (hl : dp.toNatClampNeg + nn.toNatClampNeg ≤ vd.length) {n0 : Nat} (N : Fr n0 locs) (ge : n0 ≤ b)
    (hsize : Ls.size = c.maxLocals) (hd : decode c.code pc = .ok (.invokestatic index, 3)) (hf : 1 ≤ R.frames) (W : Nat) (hW : (st.map fun v => v.category).sum ≤ W) (hlo : W + (nativeFrameWords "java/lang/System" "arraycopy" 5 + 11) ≤ R.locals) (pc' : Nat) (hp : pc + 3 = pc')
    (K : ∀ T' h' L, Stand p l e R s m args below meth c T' L cells slots → T'.heap = h' → Fr n0 L → Keep h h' [b] → Arv Z h' b k' ty z' (vd.take dp.toNatClampNeg ++ us ++ vd.drop (dp.toNatClampNeg + nn.toNatClampNeg)) dd → OwnW p e below G (T'.setTop (mkF m pc' Ls st))) :
    OwnW p e below G (T.setTop (mkF m pc Ls (.int nn :: .int dp :: .ref b :: .int sp :: .ref a :: st))) := by
  subst hp
  obtain ⟨T', h', L', X', e', N', K', V', st'⟩ := cpA X hx hZ hown w1 w2 w3 w4 eT A B (Or.inl ⟨rfl, hty⟩) h1 h2 h3 h4 h5 hus hl N ge (g := mkF m pc Ls (.int nn :: .int dp :: .ref b :: .int sp :: .ref a :: st)) rfl hsize rfl hd hf (W := W) (by show 2 * 0 + _ ≤ _; omega) hlo
  exact (K T' h' L' X' e' N' K' V').go st'
theorem own_nar01 (x : Int32) : nar .boolean x = 0 ∨ nar .boolean x = 1 := and_one x
theorem own_nar {x : Int32} (h : x = 0 ∨ x = 1) : nar .boolean x = x := by rcases h with rfl | rfl <;> rfl
theorem own_newR (X : Stand p l e R s m args below meth c T locs cells slots) (hx : p.tables.exec = Jvm.exec) (hZ : Z.Warmed39 s.vm) {own C : String} {index : Nat} (hown : s.vm.findClass own = some m.cls) (w1 : (Cond.classLink own index C).before a0 Z = true) (w2 : (Cond.arrayOver (.object C)).before a0 Z = true) (eT : T.heap = h) (hd : decode c.code pc = .ok (.anewarray index, 3)) {n : Int32}
    (hn : ¬ n < 0) (cap : Nat) (hcap : n.toNatClampNeg ≤ cap) (hb : cap * 8 ≤ 536870912) (hc : cells + 1 ≤ R.cells) (hl : slots + cap ≤ R.slots) (pc' : Nat) (hp : pc + 3 = pc')
    (K : ∀ T' h' b cA, b = h.size → Stand p l e R s m args below meth c T' locs (cells + 1) (slots + cap) → T'.heap = h' → Ext h h' → Arr Z h' b (newA cA (.object C) n) (.object C) → Ovr Z cA C → OwnW p e below G (T'.setTop (mkF m pc' Ls (.ref b :: st)))) : OwnW p e below G (T.setTop (mkF m pc Ls (.int n :: st))) := by
  subst hp
  obtain ⟨T', h', cA, X', e', E', A', O', st'⟩ := newR X hx hZ hown w1 w2 eT (g := mkF m pc Ls (.int n :: st)) rfl hd rfl hn hcap hb hc hl
  exact (K T' h' _ cA rfl X' e' E' A' O').go st'
theorem own_stR (X : Stand p l e R s m args below meth c T locs cells slots) (hx : p.tables.exec = Jvm.exec) (hZ : Z.Warmed39 s.vm) (eT : T.heap = h) {a : Addr} {cl : Cell} {ty : FieldType} (A : Arr Z h a cl ty) {j : Int32} {v : Value} (hj : ¬ (j < 0 ∨ cl.slots.size ≤ j.toNatClampNeg)) (hty : ty.isReference = true) (F : Sto Z h a v) (hd : decode c.code pc = .ok (.aastore, 1)) (pc' : Nat) (hp : pc + 1 = pc')
    (K : ∀ T' h', Stand p l e R s m args below meth c T' (locs ++ [⟨a, j.toNatClampNeg⟩]) cells slots → T'.heap = h' → Wr h h' a j.toNatClampNeg v → OwnW p e below G (T'.setTop (mkF m pc' Ls st))) : OwnW p e below G (T.setTop (mkF m pc Ls (v :: .int j :: .ref a :: st))) := by
  subst hp
  obtain ⟨T', h', X', e', W', st'⟩ := stR X hx hZ eT A hj hty F (g := mkF m pc Ls (v :: .int j :: .ref a :: st)) rfl rfl hd
  exact (K T' h' X' e' W').go st'
/-- the end of a walk that loaded a String constant -/
def OwnGW (s : State) (Q : Option Value → Heap → List Loc → Prop) (rc rs : Nat) (o : Outcome) (t : State) : Prop := ∃ v L, o = .returned v ∧ Q v t.heap L ∧ ReturnedEndW s o t L rc rs
theorem own_ldcS (X : Stand p l e R s m args below meth c T locs cells slots) (hx : p.tables.exec = Jvm.exec) (hZ : Z.Warmed39 s.vm) {own text : String} {index : Nat} (hown : s.vm.findClass own = some m.cls) (w : (Cond.stringLink own index text).before a0 Z = true) (wS : ∀ a ∈ Bundle.stringAtoms, a.before a0 Z = true) (eT : T.heap = h)
    (hd : decode c.code pc = .ok (.ldc index, 2)) (n : Nat) (hn : 4 * text.toList.length ≤ n) (hbig : n ≤ 536870912) (hc : cells + 2 ≤ R.cells) (hl : slots + (n + 4) ≤ R.slots) (pc' : Nat) (hp : pc + 2 = pc')
    (K : ∀ s' a T' h' k1, Stand p l e R s' m args below meth c T' locs (cells + 2) (slots + (n + 4)) → T'.heap = h' → Ext h h' → k1 ≤ h'.size → Z.Warmed39 s'.vm → s'.vm.findClass own = some m.cls → OwnW p e below (OwnG s' (fun v hh L => Q v hh L ∧ k1 ≤ hh.size) rc rs) (T'.setTop (mkF m pc' Ls (.ref a :: st)))) : OwnW p e below (OwnGW s Q rc rs) (T.setTop (mkF m pc Ls st)) := by
  subst hp
  obtain ⟨a, T', h', k1, X', e', E', hS, hk, hZ', hown', st'⟩ := ldcS (s := s) (vm0 := s.vm) X hx hZ hown w wS eT ((State.WarmedH.refl s).since h.size) (Nat.le_refl _) (g := mkF m pc Ls st) rfl hd hn hbig hc hl
  obtain ⟨s₂, o, h1, h2, h3, v, L, rfl, ⟨hq, hsz⟩, hF⟩ := K (s.setVm T'.vm) a T' h' k1 X' e' E' hk hZ' hown'
  obtain ⟨a1, b1, c1⟩ := hS.ended (U := s₂) hF.2.1 hsz hF.2.2
  exact ⟨s₂, _, st' _ h1, h2, h3, v, L, rfl, hq, ⟨v, rfl⟩, a1, b1, c1⟩
end Own
theorem pd___V : parseMethodDescriptor "()V" = some ⟨[], none⟩ := by decide +kernel
theorem pd__Ljava_util_Collection_JJ_V : parseMethodDescriptor "(Ljava/util/Collection;JJ)V" = some ⟨[(.object "java/util/Collection"), .long, .long], none⟩ := by decide +kernel
theorem pd__JJ_Z : parseMethodDescriptor "(JJ)Z" = some ⟨[.long, .long], some .boolean⟩ := by decide +kernel
theorem pd__JJ_J : parseMethodDescriptor "(JJ)J" = some ⟨[.long, .long], some .long⟩ := by decide +kernel
theorem d3_0 : decode jdk_22_method_1_code 0 = .ok (.aload_n 0, 1) := by decide +kernel
theorem d3_1 : decode jdk_22_method_1_code 1 = .ok (.invokespecial 1, 3) := by decide +kernel
theorem d3_4 : decode jdk_22_method_1_code 4 = .ok (.return_, 1) := by decide +kernel
theorem pn_rm3 : plainName "java/util/AbstractCollection" = true := by first | (simp [plainName, overriddenIn]; done) | decide +kernel
theorem ef_rm3 (m : MethodId) (x0 : Addr) : entryFrame m #[(.ref x0)] 1 = mkF m 0 #[.val (.ref x0)] [] := by first | (simp [entryFrame, mkF, argsToLocals, Value.category]; done) | rfl
def Q3 (Z : State) (a1 : Addr) (h0 : Heap) (n0 : Nat) (v : Option Value) (h : Heap) (L : List Loc) : Prop := v = none ∧ Fr n0 L ∧ h = h0
set_option maxRecDepth 65536 in
set_option maxHeartbeats 40000000 in
theorem rm3 (l : Launch) (Z : State) (a0 : Array Value) (hw : ∀ d ∈ tables_1, d.before a0 Z = true) (ws : List Jvm.Cond) (a1 : Addr) (h0 : Heap) (n0 : Nat) (Z0 : n0 ≤ h0.size) :
    MetFree l (⟨"java/util/AbstractCollection", "<init>", "()V"⟩ : MethodName) (head1 (Jvm.Cond.code (⟨"java/util/AbstractCollection", "<init>", "()V"⟩ : MethodName) jdk_22_method_1_code 1 none :: ws) ({ frames := 1, cells := 0, slots := 0, locals := 12 } : Room)) (fun a U => a = #[(.ref a1)] ∧ Z.Warmed39 U.vm ∧ U.heap = h0) (fun _ _ _ _ _ => True) (fun _ U o U' => ∃ v L, o = .returned v ∧ Q3 Z a1 h0 n0 v U'.heap L ∧ FrameEnd U o U' L ({ frames := 1, cells := 0, slots := 0, locals := 12 } : Room).cells ({ frames := 1, cells := 0, slots := 0, locals := 12 } : Room).slots) := by
  refine MetFree.of_bodySF (plainFor_of_name pn_rm3) hisR ?_
  intro p e s m args below meth c s₁ Bd hml0 hP hK
  obtain ⟨rfl, hZ, hh⟩ := hP
  have hx := Bd.exec
  have hby := Bd.bytes
  have hlk : meth.locks = false := BodyLoose.notSynchronized Bd
  have hml : c.maxLocals = 1 := hml0
  have hown : s.vm.findClass "java/util/AbstractCollection" = some m.cls := findClass_of_methodNamed Bd.named
  have hnm := (name_of_methodNamed Bd.named Bd.method).1
  have X0 : Stand p l e ({ frames := 1, cells := 0, slots := 0, locals := 12 } : Room) s m #[(.ref a1)] below meth c s₁ [] 0 0 := Stand.of_body Bd
  have e0 : s₁.heap = h0 := by rw [← hh, Bd.state]; rfl
  have N0 := Fr.nil n0
  show OwnW p e below (OwnG s (Q3 Z a1 h0 n0) ({ frames := 1, cells := 0, slots := 0, locals := 12 } : Room).cells ({ frames := 1, cells := 0, slots := 0, locals := 12 } : Room).slots) (s₁.setTop (entryFrame m #[(.ref a1)] 1))
  rw [ef_rm3]
  refine own_aloadN X0 hx (hb hby d3_0) rfl rfl 1 rfl ?_
  refine own_initO X0 hx hZ hown (hw _ (List.mem_of_getElem? (i := 21) rfl)) (hw _ (List.mem_of_getElem? (i := 22) rfl)) (hw _ (List.mem_of_getElem? (i := 23) rfl)) e0 (by rw [hml]; rfl) (hb hby d3_1) (by decide) 0 (Nat.le_of_eq rfl) (by decide) 4 rfl ?_
  intro T1 X1 e1
  refine own_retV X1 hx hlk Bd.returns (hb hby d3_4) (by decide) (by decide) ?_
  show Q3 Z a1 h0 n0 _ T1.heap _
  rw [e1]
  exact ⟨rfl, N0, rfl⟩
theorem d2_0 : decode jdk_39_method_1_code 0 = .ok (.aload_n 0, 1) := by decide +kernel
theorem d2_1 : decode jdk_39_method_1_code 1 = .ok (.invokespecial 1, 3) := by decide +kernel
theorem d2_4 : decode jdk_39_method_1_code 4 = .ok (.aload_n 0, 1) := by decide +kernel
theorem d2_5 : decode jdk_39_method_1_code 5 = .ok (.iconst 0, 1) := by decide +kernel
theorem d2_6 : decode jdk_39_method_1_code 6 = .ok (.putfield 7, 3) := by decide +kernel
theorem d2_9 : decode jdk_39_method_1_code 9 = .ok (.return_, 1) := by decide +kernel
theorem pn_rm2 : plainName "java/util/AbstractList" = true := by first | (simp [plainName, overriddenIn]; done) | decide +kernel
theorem ef_rm2 (m : MethodId) (x0 : Addr) : entryFrame m #[(.ref x0)] 1 = mkF m 0 #[.val (.ref x0)] [] := by first | (simp [entryFrame, mkF, argsToLocals, Value.category]; done) | rfl
def Q2 (Z : State) (a1 : Addr) (u0 : Value) (u1 : Value) (h0 : Heap) (n0 : Nat) (v : Option Value) (h : Heap) (L : List Loc) : Prop := v = none ∧ Fr n0 L ∧ Keep h0 h [a1] ∧ Exa Z h a1 "java/util/ArrayList" ∧ Fld Z h a1 "java/util/ArrayList" "elementData" "[Ljava/lang/Object;" u1
set_option maxRecDepth 65536 in
set_option maxHeartbeats 40000000 in
theorem rm2 (l : Launch) (Z : State) (a0 : Array Value) (hw : ∀ d ∈ tables_1, d.before a0 Z = true) (ws : List Jvm.Cond) (a1 : Addr) (u0 : Value) (u1 : Value) (h0 : Heap) (n0 : Nat) (Z0 : n0 ≤ h0.size) (E_a1 : Exa Z h0 a1 "java/util/ArrayList") (g_a1 : n0 ≤ a1) (F_modCount_a1 : Fld Z h0 a1 "java/util/AbstractList" "modCount" "I" u0) (F_elementData_a1 : Fld Z h0 a1 "java/util/ArrayList" "elementData" "[Ljava/lang/Object;" u1) :
    MetFree l (⟨"java/util/AbstractList", "<init>", "()V"⟩ : MethodName) (head1 (Jvm.Cond.code (⟨"java/util/AbstractList", "<init>", "()V"⟩ : MethodName) jdk_39_method_1_code 1 none :: ws) ({ frames := 2, cells := 0, slots := 0, locals := 24 } : Room)) (fun a U => a = #[(.ref a1)] ∧ Z.Warmed39 U.vm ∧ U.heap = h0) (fun _ _ _ _ _ => True) (fun _ U o U' => ∃ v L, o = .returned v ∧ Q2 Z a1 u0 u1 h0 n0 v U'.heap L ∧ FrameEnd U o U' L ({ frames := 2, cells := 0, slots := 0, locals := 24 } : Room).cells ({ frames := 2, cells := 0, slots := 0, locals := 24 } : Room).slots) := by
  refine MetFree.of_bodySF (plainFor_of_name pn_rm2) hisR ?_
  intro p e s m args below meth c s₁ Bd hml0 hP hK
  obtain ⟨rfl, hZ, hh⟩ := hP
  have hx := Bd.exec
  have hby := Bd.bytes
  have hlk : meth.locks = false := BodyLoose.notSynchronized Bd
  have hml : c.maxLocals = 1 := hml0
  have hown : s.vm.findClass "java/util/AbstractList" = some m.cls := findClass_of_methodNamed Bd.named
  have hnm := (name_of_methodNamed Bd.named Bd.method).1
  have X0 : Stand p l e ({ frames := 2, cells := 0, slots := 0, locals := 24 } : Room) s m #[(.ref a1)] below meth c s₁ [] 0 0 := Stand.of_body Bd
  have e0 : s₁.heap = h0 := by rw [← hh, Bd.state]; rfl
  have N0 := Fr.nil n0
  show OwnW p e below (OwnG s (Q2 Z a1 u0 u1 h0 n0) ({ frames := 2, cells := 0, slots := 0, locals := 24 } : Room).cells ({ frames := 2, cells := 0, slots := 0, locals := 24 } : Room).slots) (s₁.setTop (entryFrame m #[(.ref a1)] 1))
  rw [ef_rm2]
  refine own_aloadN X0 hx (hb hby d2_0) rfl rfl 1 rfl ?_
  refine own_callI X0 hx hZ hown rfl (hw _ (List.mem_of_getElem? (i := 15) rfl)) (hw _ (List.mem_of_getElem? (i := 16) rfl)) (hw _ (List.mem_of_getElem? (i := 20) rfl)) (hw _ (List.mem_of_getElem? (i := 19) rfl)) (by decide) (rm3 l Z a0 hw [] a1 h0 n0 Z0) e0 (hb hby d2_1) pd___V rfl (by rw [hml]; rfl) (st := []) rfl 0 (Nat.le_of_eq rfl) (by decide) (by decide) (by decide) (by decide) 4 rfl ?_
  intro T1 v1 L1 X1 hQ1
  obtain ⟨rfl, N1q, e1⟩ := hQ1
  have N1 := Fr.app N0 N1q
  show OwnW p e below (OwnG s (Q2 Z a1 u0 u1 h0 n0) ({ frames := 2, cells := 0, slots := 0, locals := 24 } : Room).cells ({ frames := 2, cells := 0, slots := 0, locals := 24 } : Room).slots) (T1.setTop (mkF m 4 #[.val (.ref a1)] []))
  refine own_aloadN X1 hx (hb hby d2_4) rfl rfl 5 rfl ?_
  refine own_iconst X1 hx (hb hby d2_5) (0 : Int32) rfl 6 rfl ?_
  refine own_putF X1 hx hZ hown (hw _ (List.mem_of_getElem? (i := 24) rfl)) Via.refl e1 F_modCount_a1 E_a1 (Or.inl (hw _ (List.mem_of_getElem? (i := 25) rfl))) (hw _ (List.mem_of_getElem? (i := 4) rfl)) (ty := .int) (by decide) rfl rfl (hb hby d2_6) 9 rfl ?_
  intro T2 h2 X2 e2 W2
  have Fw2 := F_modCount_a1.same W2
  have N2 := Fr.snoc X2 N1 g_a1
  refine own_retV X2 hx hlk Bd.returns (hb hby d2_9) (by decide) (by decide) ?_
  have K3 : Keep h0 h2 [a1] := ((Keep.refl h0 [a1]).wr W2 (Or.inl (List.mem_of_getElem? (i := 0) rfl)))
  have Ea1_4 := (E_a1.wr W2)
  have Fa1_elementData_5 := (F_elementData_a1.other W2 (Or.inr (slot_ne (Or.inl (hw _ (List.mem_of_getElem? (i := 28) rfl))) (Or.inl (hw _ (List.mem_of_getElem? (i := 25) rfl))) (by decide) (t := (.array (.object "java/lang/Object"))) (t' := .int) (by decide) (by decide))))
  show Q2 Z a1 u0 u1 h0 n0 _ T2.heap _
  rw [e2]
  exact ⟨rfl, N2, K3, Ea1_4, Fa1_elementData_5⟩
theorem d1_0 : decode jdk_38_method_2_code 0 = .ok (.aload_n 0, 1) := by decide +kernel
theorem d1_1 : decode jdk_38_method_2_code 1 = .ok (.invokespecial 1, 3) := by decide +kernel
theorem d1_4 : decode jdk_38_method_2_code 4 = .ok (.aload_n 0, 1) := by decide +kernel
theorem d1_5 : decode jdk_38_method_2_code 5 = .ok (.getstatic 39, 3) := by decide +kernel
theorem d1_8 : decode jdk_38_method_2_code 8 = .ok (.putfield 9, 3) := by decide +kernel
theorem d1_11 : decode jdk_38_method_2_code 11 = .ok (.return_, 1) := by decide +kernel
theorem pn_rm1 : plainName "java/util/ArrayList" = true := by first | (simp [plainName, overriddenIn]; done) | decide +kernel
theorem ef_rm1 (m : MethodId) (x0 : Addr) : entryFrame m #[(.ref x0)] 1 = mkF m 0 #[.val (.ref x0)] [] := by first | (simp [entryFrame, mkF, argsToLocals, Value.category]; done) | rfl
def Q1 (Z : State) (a1 : Addr) (u0 : Value) (u1 : Value) (dc : Addr) (h0 : Heap) (n0 : Nat) (v : Option Value) (h : Heap) (L : List Loc) : Prop := v = none ∧ Fr n0 L ∧ Keep h0 h [a1] ∧ Exa Z h a1 "java/util/ArrayList"
set_option maxRecDepth 65536 in
set_option maxHeartbeats 40000000 in
theorem rm1 (l : Launch) (Z : State) (a0 : Array Value) (hw : ∀ d ∈ tables_1, d.before a0 Z = true) (ws : List Jvm.Cond) (a1 : Addr) (u0 : Value) (u1 : Value) (dc : Addr) (h0 : Heap) (n0 : Nat) (Z0 : n0 ≤ h0.size) (E_a1 : Exa Z h0 a1 "java/util/ArrayList") (g_a1 : n0 ≤ a1) (F_modCount_a1 : Fld Z h0 a1 "java/util/AbstractList" "modCount" "I" u0) (F_elementData_a1 : Fld Z h0 a1 "java/util/ArrayList" "elementData" "[Ljava/lang/Object;" u1) (S_DEFAULTCAPACITY_EMPTY_ELEMENTDATA : Sta Z h0 "java/util/ArrayList" "DEFAULTCAPACITY_EMPTY_ELEMENTDATA" "[Ljava/lang/Object;" (.ref dc)) :
    MetFree l (⟨"java/util/ArrayList", "<init>", "()V"⟩ : MethodName) (head1 (Jvm.Cond.code (⟨"java/util/ArrayList", "<init>", "()V"⟩ : MethodName) jdk_38_method_2_code 1 none :: ws) ({ frames := 3, cells := 0, slots := 0, locals := 36 } : Room)) (fun a U => a = #[(.ref a1)] ∧ Z.Warmed39 U.vm ∧ U.heap = h0) (fun _ _ _ _ _ => True) (fun _ U o U' => ∃ v L, o = .returned v ∧ Q1 Z a1 u0 u1 dc h0 n0 v U'.heap L ∧ FrameEnd U o U' L ({ frames := 3, cells := 0, slots := 0, locals := 36 } : Room).cells ({ frames := 3, cells := 0, slots := 0, locals := 36 } : Room).slots) := by
  refine MetFree.of_bodySF (plainFor_of_name pn_rm1) hisR ?_
  intro p e s m args below meth c s₁ Bd hml0 hP hK
  obtain ⟨rfl, hZ, hh⟩ := hP
  have hx := Bd.exec
  have hby := Bd.bytes
  have hlk : meth.locks = false := BodyLoose.notSynchronized Bd
  have hml : c.maxLocals = 1 := hml0
  have hown : s.vm.findClass "java/util/ArrayList" = some m.cls := findClass_of_methodNamed Bd.named
  have hnm := (name_of_methodNamed Bd.named Bd.method).1
  have X0 : Stand p l e ({ frames := 3, cells := 0, slots := 0, locals := 36 } : Room) s m #[(.ref a1)] below meth c s₁ [] 0 0 := Stand.of_body Bd
  have e0 : s₁.heap = h0 := by rw [← hh, Bd.state]; rfl
  have N0 := Fr.nil n0
  show OwnW p e below (OwnG s (Q1 Z a1 u0 u1 dc h0 n0) ({ frames := 3, cells := 0, slots := 0, locals := 36 } : Room).cells ({ frames := 3, cells := 0, slots := 0, locals := 36 } : Room).slots) (s₁.setTop (entryFrame m #[(.ref a1)] 1))
  rw [ef_rm1]
  refine own_aloadN X0 hx (hb hby d1_0) rfl rfl 1 rfl ?_
  refine own_callI X0 hx hZ hown rfl (hw _ (List.mem_of_getElem? (i := 9) rfl)) (hw _ (List.mem_of_getElem? (i := 10) rfl)) (hw _ (List.mem_of_getElem? (i := 14) rfl)) (hw _ (List.mem_of_getElem? (i := 13) rfl)) (by decide) (rm2 l Z a0 hw [] a1 u0 u1 h0 n0 Z0 E_a1 g_a1 F_modCount_a1 F_elementData_a1) e0 (hb hby d1_1) pd___V rfl (by rw [hml]; rfl) (st := []) rfl 0 (Nat.le_of_eq rfl) (by decide) (by decide) (by decide) (by decide) 4 rfl ?_
  intro T1 v1 L1 X1 hQ1
  obtain ⟨rfl, N1q, Kc1, P1_0, P1_1⟩ := hQ1
  have N1 := Fr.app N0 N1q
  show OwnW p e below (OwnG s (Q1 Z a1 u0 u1 dc h0 n0) ({ frames := 3, cells := 0, slots := 0, locals := 36 } : Room).cells ({ frames := 3, cells := 0, slots := 0, locals := 36 } : Room).slots) (T1.setTop (mkF m 4 #[.val (.ref a1)] []))
  refine own_aloadN X1 hx (hb hby d1_4) rfl rfl 5 rfl ?_
  have SjavautilArrayList_DEFAULTCAPACITY_EMPTY_ELEMENTDATA_2 := (own_sta_keep S_DEFAULTCAPACITY_EMPTY_ELEMENTDATA Kc1 (allS (own_pE E_a1) all0))
  refine own_getS X1 hx hZ hown (hw _ (List.mem_of_getElem? (i := 26) rfl)) Via.refl rfl SjavautilArrayList_DEFAULTCAPACITY_EMPTY_ELEMENTDATA_2 (hb hby d1_5) 8 rfl ?_
  intro T3 X3 e3
  refine own_putF X3 hx hZ hown (hw _ (List.mem_of_getElem? (i := 27) rfl)) Via.refl e3 P1_1 P1_0 (Or.inl (hw _ (List.mem_of_getElem? (i := 28) rfl))) (hw _ (List.mem_of_getElem? (i := 4) rfl)) (ty := (.array (.object "java/lang/Object"))) (by decide) rfl rfl (hb hby d1_8) 11 rfl ?_
  intro T4 h4 X4 e4 W4
  have Fw4 := P1_1.same W4
  have N4 := Fr.snoc X4 N1 g_a1
  refine own_retV X4 hx hlk Bd.returns (hb hby d1_11) (by decide) (by decide) ?_
  have K5 : Keep h0 h4 [a1] := (((Keep.refl h0 [a1]).trans Kc1 (allS (Or.inl (List.mem_of_getElem? (i := 0) rfl)) all0)).wr W4 (Or.inl (List.mem_of_getElem? (i := 0) rfl)))
  have Ea1_6 := (P1_0.wr W4)
  show Q1 Z a1 u0 u1 dc h0 n0 _ T4.heap _
  rw [e4]
  exact ⟨rfl, N4, K5, Ea1_6⟩
theorem d6_0 : decode jdk_30_method_1_code 0 = .ok (.aload_n 0, 1) := by decide +kernel
theorem d6_1 : decode jdk_30_method_1_code 1 = .ok (.invokespecial 1, 3) := by decide +kernel
theorem d6_4 : decode jdk_30_method_1_code 4 = .ok (.return_, 1) := by decide +kernel
theorem pn_rm6 : plainName "java/lang/Record" = true := by first | (simp [plainName, overriddenIn]; done) | decide +kernel
theorem ef_rm6 (m : MethodId) (x0 : Addr) : entryFrame m #[(.ref x0)] 1 = mkF m 0 #[.val (.ref x0)] [] := by first | (simp [entryFrame, mkF, argsToLocals, Value.category]; done) | rfl
def Q6 (Z : State) (a1 : Addr) (h0 : Heap) (n0 : Nat) (v : Option Value) (h : Heap) (L : List Loc) : Prop := v = none ∧ Fr n0 L ∧ h = h0
set_option maxRecDepth 65536 in
set_option maxHeartbeats 40000000 in
theorem rm6 (l : Launch) (Z : State) (a0 : Array Value) (hw : ∀ d ∈ tables_1, d.before a0 Z = true) (ws : List Jvm.Cond) (a1 : Addr) (h0 : Heap) (n0 : Nat) (Z0 : n0 ≤ h0.size) :
    MetFree l (⟨"java/lang/Record", "<init>", "()V"⟩ : MethodName) (head1 (Jvm.Cond.code (⟨"java/lang/Record", "<init>", "()V"⟩ : MethodName) jdk_30_method_1_code 1 none :: ws) ({ frames := 1, cells := 0, slots := 0, locals := 12 } : Room)) (fun a U => a = #[(.ref a1)] ∧ Z.Warmed39 U.vm ∧ U.heap = h0) (fun _ _ _ _ _ => True) (fun _ U o U' => ∃ v L, o = .returned v ∧ Q6 Z a1 h0 n0 v U'.heap L ∧ FrameEnd U o U' L ({ frames := 1, cells := 0, slots := 0, locals := 12 } : Room).cells ({ frames := 1, cells := 0, slots := 0, locals := 12 } : Room).slots) := by
  refine MetFree.of_bodySF (plainFor_of_name pn_rm6) hisR ?_
  intro p e s m args below meth c s₁ Bd hml0 hP hK
  obtain ⟨rfl, hZ, hh⟩ := hP
  have hx := Bd.exec
  have hby := Bd.bytes
  have hlk : meth.locks = false := BodyLoose.notSynchronized Bd
  have hml : c.maxLocals = 1 := hml0
  have hown : s.vm.findClass "java/lang/Record" = some m.cls := findClass_of_methodNamed Bd.named
  have hnm := (name_of_methodNamed Bd.named Bd.method).1
  have X0 : Stand p l e ({ frames := 1, cells := 0, slots := 0, locals := 12 } : Room) s m #[(.ref a1)] below meth c s₁ [] 0 0 := Stand.of_body Bd
  have e0 : s₁.heap = h0 := by rw [← hh, Bd.state]; rfl
  have N0 := Fr.nil n0
  show OwnW p e below (OwnG s (Q6 Z a1 h0 n0) ({ frames := 1, cells := 0, slots := 0, locals := 12 } : Room).cells ({ frames := 1, cells := 0, slots := 0, locals := 12 } : Room).slots) (s₁.setTop (entryFrame m #[(.ref a1)] 1))
  rw [ef_rm6]
  refine own_aloadN X0 hx (hb hby d6_0) rfl rfl 1 rfl ?_
  refine own_initO X0 hx hZ hown (hw _ (List.mem_of_getElem? (i := 37) rfl)) (hw _ (List.mem_of_getElem? (i := 22) rfl)) (hw _ (List.mem_of_getElem? (i := 23) rfl)) e0 (by rw [hml]; rfl) (hb hby d6_1) (by decide) 0 (Nat.le_of_eq rfl) (by decide) 4 rfl ?_
  intro T1 X1 e1
  refine own_retV X1 hx hlk Bd.returns (hb hby d6_4) (by decide) (by decide) ?_
  show Q6 Z a1 h0 n0 _ T1.heap _
  rw [e1]
  exact ⟨rfl, N0, rfl⟩
theorem d5_0 : decode prog_152_method_1_code 0 = .ok (.aload_n 0, 1) := by decide +kernel
theorem d5_1 : decode prog_152_method_1_code 1 = .ok (.invokespecial 1, 3) := by decide +kernel
theorem d5_4 : decode prog_152_method_1_code 4 = .ok (.aload_n 0, 1) := by decide +kernel
theorem d5_5 : decode prog_152_method_1_code 5 = .ok (.aload_n 1, 1) := by decide +kernel
theorem d5_6 : decode prog_152_method_1_code 6 = .ok (.putfield 7, 3) := by decide +kernel
theorem d5_9 : decode prog_152_method_1_code 9 = .ok (.aload_n 0, 1) := by decide +kernel
theorem d5_10 : decode prog_152_method_1_code 10 = .ok (.lload_n 2, 1) := by decide +kernel
theorem d5_11 : decode prog_152_method_1_code 11 = .ok (.putfield 13, 3) := by decide +kernel
theorem d5_14 : decode prog_152_method_1_code 14 = .ok (.aload_n 0, 1) := by decide +kernel
theorem d5_15 : decode prog_152_method_1_code 15 = .ok (.lload 4, 2) := by decide +kernel
theorem d5_17 : decode prog_152_method_1_code 17 = .ok (.putfield 17, 3) := by decide +kernel
theorem d5_20 : decode prog_152_method_1_code 20 = .ok (.return_, 1) := by decide +kernel
theorem pn_rm5 : plainName "com/example/holdfast/holdfast/SlurmLayout$Taken" = true := by first | (simp [plainName, overriddenIn]; done) | decide +kernel
theorem ef_rm5 (m : MethodId) (x0 : Addr) (x1 : Addr) (x2 : Int64) (x3 : Int64) : entryFrame m #[(.ref x0), (.ref x1), (.long x2), (.long x3)] 6 = mkF m 0 #[.val (.ref x0), .val (.ref x1), .val (.long x2), .second, .val (.long x3), .second] [] := by first | (simp [entryFrame, mkF, argsToLocals, Value.category]; done) | rfl
def Q5 (Z : State) (a1 : Addr) (a2 : Addr) (q3 : Int64) (q4 : Int64) (u0 : Value) (u1 : Value) (u2 : Value) (h0 : Heap) (n0 : Nat) (v : Option Value) (h : Heap) (L : List Loc) : Prop := v = none ∧ Fr n0 L ∧ Keep h0 h [a1] ∧ Exa Z h a1 "com/example/holdfast/holdfast/SlurmLayout$Taken" ∧ Fld Z h a1 "com/example/holdfast/holdfast/SlurmLayout$Taken" "start" "J" (.long q3) ∧ Fld Z h a1 "com/example/holdfast/holdfast/SlurmLayout$Taken" "end" "J" (.long q4)
set_option maxRecDepth 65536 in
set_option maxHeartbeats 40000000 in
theorem rm5 (l : Launch) (Z : State) (a0 : Array Value) (hw : ∀ d ∈ tables_1, d.before a0 Z = true) (ws : List Jvm.Cond) (a1 : Addr) (a2 : Addr) (q3 : Int64) (q4 : Int64) (u0 : Value) (u1 : Value) (u2 : Value) (h0 : Heap) (n0 : Nat) (Z0 : n0 ≤ h0.size) (E_a1 : Exa Z h0 a1 "com/example/holdfast/holdfast/SlurmLayout$Taken") (g_a1 : n0 ≤ a1) (F_nodes_a1 : Fld Z h0 a1 "com/example/holdfast/holdfast/SlurmLayout$Taken" "nodes" "Ljava/util/Collection;" u0) (F_start_a1 : Fld Z h0 a1 "com/example/holdfast/holdfast/SlurmLayout$Taken" "start" "J" u1) (F_end_a1 : Fld Z h0 a1 "com/example/holdfast/holdfast/SlurmLayout$Taken" "end" "J" u2) :
    MetFree l (⟨"com/example/holdfast/holdfast/SlurmLayout$Taken", "<init>", "(Ljava/util/Collection;JJ)V"⟩ : MethodName) (head1 (Jvm.Cond.code (⟨"com/example/holdfast/holdfast/SlurmLayout$Taken", "<init>", "(Ljava/util/Collection;JJ)V"⟩ : MethodName) prog_152_method_1_code 6 none :: ws) ({ frames := 2, cells := 0, slots := 0, locals := 24 } : Room)) (fun a U => a = #[(.ref a1), (.ref a2), (.long q3), (.long q4)] ∧ Z.Warmed39 U.vm ∧ U.heap = h0) (fun _ _ _ _ _ => True) (fun _ U o U' => ∃ v L, o = .returned v ∧ Q5 Z a1 a2 q3 q4 u0 u1 u2 h0 n0 v U'.heap L ∧ FrameEnd U o U' L ({ frames := 2, cells := 0, slots := 0, locals := 24 } : Room).cells ({ frames := 2, cells := 0, slots := 0, locals := 24 } : Room).slots) := by
  refine MetFree.of_bodySF (plainFor_of_name pn_rm5) hisR ?_
  intro p e s m args below meth c s₁ Bd hml0 hP hK
  obtain ⟨rfl, hZ, hh⟩ := hP
  have hx := Bd.exec
  have hby := Bd.bytes
  have hlk : meth.locks = false := BodyLoose.notSynchronized Bd
  have hml : c.maxLocals = 6 := hml0
  have hown : s.vm.findClass "com/example/holdfast/holdfast/SlurmLayout$Taken" = some m.cls := findClass_of_methodNamed Bd.named
  have hnm := (name_of_methodNamed Bd.named Bd.method).1
  have X0 : Stand p l e ({ frames := 2, cells := 0, slots := 0, locals := 24 } : Room) s m #[(.ref a1), (.ref a2), (.long q3), (.long q4)] below meth c s₁ [] 0 0 := Stand.of_body Bd
  have e0 : s₁.heap = h0 := by rw [← hh, Bd.state]; rfl
  have N0 := Fr.nil n0
  show OwnW p e below (OwnG s (Q5 Z a1 a2 q3 q4 u0 u1 u2 h0 n0) ({ frames := 2, cells := 0, slots := 0, locals := 24 } : Room).cells ({ frames := 2, cells := 0, slots := 0, locals := 24 } : Room).slots) (s₁.setTop (entryFrame m #[(.ref a1), (.ref a2), (.long q3), (.long q4)] 6))
  rw [ef_rm5]
  refine own_aloadN X0 hx (hb hby d5_0) rfl rfl 1 rfl ?_
  refine own_callI X0 hx hZ hown rfl (hw _ (List.mem_of_getElem? (i := 32) rfl)) (hw _ (List.mem_of_getElem? (i := 33) rfl)) (hw _ (List.mem_of_getElem? (i := 36) rfl)) (hw _ (List.mem_of_getElem? (i := 35) rfl)) (by decide) (rm6 l Z a0 hw [] a1 h0 n0 Z0) e0 (hb hby d5_1) pd___V rfl (by rw [hml]; rfl) (st := []) rfl 0 (Nat.le_of_eq rfl) (by decide) (by decide) (by decide) (by decide) 4 rfl ?_
  intro T1 v1 L1 X1 hQ1
  obtain ⟨rfl, N1q, e1⟩ := hQ1
  have N1 := Fr.app N0 N1q
  show OwnW p e below (OwnG s (Q5 Z a1 a2 q3 q4 u0 u1 u2 h0 n0) ({ frames := 2, cells := 0, slots := 0, locals := 24 } : Room).cells ({ frames := 2, cells := 0, slots := 0, locals := 24 } : Room).slots) (T1.setTop (mkF m 4 #[.val (.ref a1), .val (.ref a2), .val (.long q3), .second, .val (.long q4), .second] []))
  refine own_aloadN X1 hx (hb hby d5_4) rfl rfl 5 rfl ?_
  refine own_aloadN X1 hx (hb hby d5_5) rfl rfl 6 rfl ?_
  refine own_putF X1 hx hZ hown (hw _ (List.mem_of_getElem? (i := 38) rfl)) Via.refl e1 F_nodes_a1 E_a1 (Or.inr ⟨(hw _ (List.mem_of_getElem? (i := 39) rfl)), rfl, hnm⟩) (hw _ (List.mem_of_getElem? (i := 1) rfl)) (ty := (.object "java/util/Collection")) (by decide) rfl rfl (hb hby d5_6) 9 rfl ?_
  intro T2 h2 X2 e2 W2
  have Fw2 := F_nodes_a1.same W2
  have N2 := Fr.snoc X2 N1 g_a1
  refine own_aloadN X2 hx (hb hby d5_9) rfl rfl 10 rfl ?_
  refine own_lloadN X2 hx (hb hby d5_10) rfl 11 rfl ?_
  have Fa1_start_3 := (F_start_a1.other W2 (Or.inr (slot_ne (Or.inr (hw _ (List.mem_of_getElem? (i := 41) rfl))) (Or.inr (hw _ (List.mem_of_getElem? (i := 39) rfl))) (by decide) (t := .long) (t' := (.object "java/util/Collection")) (by decide) (by decide))))
  have Ea1_4 := (E_a1.wr W2)
  refine own_putF X2 hx hZ hown (hw _ (List.mem_of_getElem? (i := 40) rfl)) Via.refl e2 Fa1_start_3 Ea1_4 (Or.inr ⟨(hw _ (List.mem_of_getElem? (i := 41) rfl)), rfl, hnm⟩) (hw _ (List.mem_of_getElem? (i := 1) rfl)) (ty := .long) (by decide) rfl rfl (hb hby d5_11) 14 rfl ?_
  intro T5 h5 X5 e5 W5
  have Fw5 := Fa1_start_3.same W5
  have N5 := Fr.snoc X5 N2 g_a1
  refine own_aloadN X5 hx (hb hby d5_14) rfl rfl 15 rfl ?_
  refine own_lload X5 hx (hb hby d5_15) rfl 17 rfl ?_
  have Fa1_end_6 := ((F_end_a1.other W2 (Or.inr (slot_ne (Or.inr (hw _ (List.mem_of_getElem? (i := 43) rfl))) (Or.inr (hw _ (List.mem_of_getElem? (i := 39) rfl))) (by decide) (t := .long) (t' := (.object "java/util/Collection")) (by decide) (by decide)))).other W5 (Or.inr (slot_ne (Or.inr (hw _ (List.mem_of_getElem? (i := 43) rfl))) (Or.inr (hw _ (List.mem_of_getElem? (i := 41) rfl))) (by decide) (t := .long) (t' := .long) (by decide) (by decide))))
  have Ea1_7 := (Ea1_4.wr W5)
  refine own_putF X5 hx hZ hown (hw _ (List.mem_of_getElem? (i := 42) rfl)) Via.refl e5 Fa1_end_6 Ea1_7 (Or.inr ⟨(hw _ (List.mem_of_getElem? (i := 43) rfl)), rfl, hnm⟩) (hw _ (List.mem_of_getElem? (i := 1) rfl)) (ty := .long) (by decide) rfl rfl (hb hby d5_17) 20 rfl ?_
  intro T8 h8 X8 e8 W8
  have Fw8 := Fa1_end_6.same W8
  have N8 := Fr.snoc X8 N5 g_a1
  refine own_retV X8 hx hlk Bd.returns (hb hby d5_20) (by decide) (by decide) ?_
  have K9 : Keep h0 h8 [a1] := ((((Keep.refl h0 [a1]).wr W2 (Or.inl (List.mem_of_getElem? (i := 0) rfl))).wr W5 (Or.inl (List.mem_of_getElem? (i := 0) rfl))).wr W8 (Or.inl (List.mem_of_getElem? (i := 0) rfl)))
  have Ea1_10 := (Ea1_7.wr W8)
  have Fa1_start_11 := (Fw5.other W8 (Or.inr (slot_ne (Or.inr (hw _ (List.mem_of_getElem? (i := 41) rfl))) (Or.inr (hw _ (List.mem_of_getElem? (i := 43) rfl))) (by decide) (t := .long) (t' := .long) (by decide) (by decide))))
  show Q5 Z a1 a2 q3 q4 u0 u1 u2 h0 n0 _ T8.heap _
  rw [e8]
  exact ⟨rfl, N8, K9, Ea1_10, Fa1_start_11, Fw8⟩
theorem d7_0 : decode prog_152_method_2_code 0 = .ok (.aload_n 0, 1) := by decide +kernel
theorem d7_1 : decode prog_152_method_2_code 1 = .ok (.getfield 13, 3) := by decide +kernel
theorem d7_4 : decode prog_152_method_2_code 4 = .ok (.lload_n 3, 1) := by decide +kernel
theorem d7_5 : decode prog_152_method_2_code 5 = .ok (.lcmp, 1) := by decide +kernel
theorem d7_6 : decode prog_152_method_2_code 6 = .ok (.ifCond .ge 16, 3) := by decide +kernel
theorem d7_9 : decode prog_152_method_2_code 9 = .ok (.lload_n 1, 1) := by decide +kernel
theorem d7_10 : decode prog_152_method_2_code 10 = .ok (.aload_n 0, 1) := by decide +kernel
theorem d7_11 : decode prog_152_method_2_code 11 = .ok (.getfield 17, 3) := by decide +kernel
theorem d7_14 : decode prog_152_method_2_code 14 = .ok (.lcmp, 1) := by decide +kernel
theorem d7_15 : decode prog_152_method_2_code 15 = .ok (.ifCond .ge 7, 3) := by decide +kernel
theorem d7_18 : decode prog_152_method_2_code 18 = .ok (.iconst 1, 1) := by decide +kernel
theorem d7_19 : decode prog_152_method_2_code 19 = .ok (.goto 4, 3) := by decide +kernel
theorem d7_22 : decode prog_152_method_2_code 22 = .ok (.iconst 0, 1) := by decide +kernel
theorem d7_23 : decode prog_152_method_2_code 23 = .ok (.ireturn, 1) := by decide +kernel
theorem pn_rm7 : plainName "com/example/holdfast/holdfast/SlurmLayout$Taken" = true := by first | (simp [plainName, overriddenIn]; done) | decide +kernel
theorem ef_rm7 (m : MethodId) (x0 : Addr) (x1 : Int64) (x2 : Int64) : entryFrame m #[(.ref x0), (.long x1), (.long x2)] 5 = mkF m 0 #[.val (.ref x0), .val (.long x1), .second, .val (.long x2), .second] [] := by first | (simp [entryFrame, mkF, argsToLocals, Value.category]; done) | rfl
def own_during (q2 : Int64) (q3 : Int64) (w4 : Int64) (w5 : Int64) : Int32 := (if w4 < q3 then (if q2 < w5 then (1 : Int32) else (0 : Int32)) else (0 : Int32))
def Q7 (Z : State) (a1 : Addr) (q2 : Int64) (q3 : Int64) (w4 : Int64) (w5 : Int64) (h0 : Heap) (n0 : Nat) (v : Option Value) (h : Heap) (L : List Loc) : Prop := v = some (.int (own_during q2 q3 w4 w5)) ∧ Fr n0 L ∧ h = h0
set_option maxRecDepth 65536 in
set_option maxHeartbeats 40000000 in
theorem rm7 (l : Launch) (Z : State) (a0 : Array Value) (hw : ∀ d ∈ tables_1, d.before a0 Z = true) (ws : List Jvm.Cond) (a1 : Addr) (q2 : Int64) (q3 : Int64) (w4 : Int64) (w5 : Int64) (h0 : Heap) (n0 : Nat) (Z0 : n0 ≤ h0.size) (F_start_a1 : Fld Z h0 a1 "com/example/holdfast/holdfast/SlurmLayout$Taken" "start" "J" (.long w4)) (F_end_a1 : Fld Z h0 a1 "com/example/holdfast/holdfast/SlurmLayout$Taken" "end" "J" (.long w5)) :
    MetFree l (⟨"com/example/holdfast/holdfast/SlurmLayout$Taken", "during", "(JJ)Z"⟩ : MethodName) (head1 (Jvm.Cond.code (⟨"com/example/holdfast/holdfast/SlurmLayout$Taken", "during", "(JJ)Z"⟩ : MethodName) prog_152_method_2_code 5 (some .boolean) :: ws) ({ frames := 0, cells := 0, slots := 0, locals := 0 } : Room)) (fun a U => a = #[(.ref a1), (.long q2), (.long q3)] ∧ Z.Warmed39 U.vm ∧ U.heap = h0) (fun _ _ _ _ _ => True) (fun _ U o U' => ∃ v L, o = .returned v ∧ Q7 Z a1 q2 q3 w4 w5 h0 n0 v U'.heap L ∧ FrameEnd U o U' L ({ frames := 0, cells := 0, slots := 0, locals := 0 } : Room).cells ({ frames := 0, cells := 0, slots := 0, locals := 0 } : Room).slots) := by
  refine MetFree.of_bodySF (plainFor_of_name pn_rm7) hisR ?_
  intro p e s m args below meth c s₁ Bd hml0 hP hK
  obtain ⟨rfl, hZ, hh⟩ := hP
  have hx := Bd.exec
  have hby := Bd.bytes
  have hlk : meth.locks = false := BodyLoose.notSynchronized Bd
  have hml : c.maxLocals = 5 := hml0
  have hown : s.vm.findClass "com/example/holdfast/holdfast/SlurmLayout$Taken" = some m.cls := findClass_of_methodNamed Bd.named
  have hnm := (name_of_methodNamed Bd.named Bd.method).1
  have X0 : Stand p l e ({ frames := 0, cells := 0, slots := 0, locals := 0 } : Room) s m #[(.ref a1), (.long q2), (.long q3)] below meth c s₁ [] 0 0 := Stand.of_body Bd
  have e0 : s₁.heap = h0 := by rw [← hh, Bd.state]; rfl
  have N0 := Fr.nil n0
  show OwnW p e below (OwnG s (Q7 Z a1 q2 q3 w4 w5 h0 n0) ({ frames := 0, cells := 0, slots := 0, locals := 0 } : Room).cells ({ frames := 0, cells := 0, slots := 0, locals := 0 } : Room).slots) (s₁.setTop (entryFrame m #[(.ref a1), (.long q2), (.long q3)] 5))
  rw [ef_rm7]
  refine own_aloadN X0 hx (hb hby d7_0) rfl rfl 1 rfl ?_
  refine own_getF X0 hx hZ hown (hw _ (List.mem_of_getElem? (i := 40) rfl)) Via.refl e0 F_start_a1 (hb hby d7_1) 4 rfl ?_
  intro T1 X1 e1
  refine own_lloadN X1 hx (hb hby d7_4) rfl 5 rfl ?_
  refine own_lcmp X1 hx (hb hby d7_5) 6 rfl ?_
  by_cases hc6 : w4 < q3
  · -- hc6
    refine own_ifN X1 hx (hb hby d7_6) (tlt ((lw_lt _ _).mpr hc6)).2.1 9 (by decide) ?_
    refine own_lloadN X1 hx (hb hby d7_9) rfl 10 rfl ?_
    refine own_aloadN X1 hx (hb hby d7_10) rfl rfl 11 rfl ?_
    refine own_getF X1 hx hZ hown (hw _ (List.mem_of_getElem? (i := 42) rfl)) Via.refl e1 F_end_a1 (hb hby d7_11) 14 rfl ?_
    intro T2 X2 e2
    refine own_lcmp X2 hx (hb hby d7_14) 15 rfl ?_
    by_cases hc15 : q2 < w5
    · -- hc15
      refine own_ifN X2 hx (hb hby d7_15) (tlt ((lw_lt _ _).mpr hc15)).2.1 18 (by decide) ?_
      refine own_iconst X2 hx (hb hby d7_18) (1 : Int32) rfl 19 rfl ?_
      refine own_goto X2 hx (hb hby d7_19) 23 (by decide) ?_
      refine own_retZ X2 hx hlk Bd.returns (by decide) (hb hby d7_23) (by decide) (by decide) ?_
      show Q7 Z a1 q2 q3 w4 w5 h0 n0 _ T2.heap _
      rw [e2]
      exact ⟨by rw [own_during, if_pos hc6, if_pos hc15], N0, rfl⟩
    · -- not hc15
      refine own_ifY X2 hx (hb hby d7_15) (flt (mt (lw_lt _ _).mp hc15)).2.1 22 (by decide) ?_
      refine own_iconst X2 hx (hb hby d7_22) (0 : Int32) rfl 23 rfl ?_
      refine own_retZ X2 hx hlk Bd.returns (by decide) (hb hby d7_23) (by decide) (by decide) ?_
      show Q7 Z a1 q2 q3 w4 w5 h0 n0 _ T2.heap _
      rw [e2]
      exact ⟨by rw [own_during, if_pos hc6, if_neg hc15], N0, rfl⟩
  · -- not hc6
    refine own_ifY X1 hx (hb hby d7_6) (flt (mt (lw_lt _ _).mp hc6)).2.1 22 (by decide) ?_
    refine own_iconst X1 hx (hb hby d7_22) (0 : Int32) rfl 23 rfl ?_
    refine own_retZ X1 hx hlk Bd.returns (by decide) (hb hby d7_23) (by decide) (by decide) ?_
    show Q7 Z a1 q2 q3 w4 w5 h0 n0 _ T1.heap _
    rw [e1]
    exact ⟨by rw [own_during, if_neg hc6], N0, rfl⟩
theorem d8_0 : decode jdk_29_method_66_code 0 = .ok (.lload_n 0, 1) := by decide +kernel
theorem d8_1 : decode jdk_29_method_66_code 1 = .ok (.lload_n 2, 1) := by decide +kernel
theorem d8_2 : decode jdk_29_method_66_code 2 = .ok (.lcmp, 1) := by decide +kernel
theorem d8_3 : decode jdk_29_method_66_code 3 = .ok (.ifCond .lt 7, 3) := by decide +kernel
theorem d8_6 : decode jdk_29_method_66_code 6 = .ok (.lload_n 0, 1) := by decide +kernel
theorem d8_7 : decode jdk_29_method_66_code 7 = .ok (.goto 4, 3) := by decide +kernel
theorem d8_10 : decode jdk_29_method_66_code 10 = .ok (.lload_n 2, 1) := by decide +kernel
theorem d8_11 : decode jdk_29_method_66_code 11 = .ok (.lreturn, 1) := by decide +kernel
theorem ef_rm8 (m : MethodId) (x0 : Int64) (x1 : Int64) : entryFrame m #[(.long x0), (.long x1)] 4 = mkF m 0 #[.val (.long x0), .second, .val (.long x1), .second] [] := by first | (simp [entryFrame, mkF, argsToLocals, Value.category]; done) | rfl
def own_max (q1 : Int64) (q2 : Int64) : Int64 := (if q1 < q2 then q2 else q1)
def Q8 (Z : State) (q1 : Int64) (q2 : Int64) (h0 : Heap) (n0 : Nat) (v : Option Value) (h : Heap) (L : List Loc) : Prop := v = some (.long (own_max q1 q2)) ∧ Fr n0 L ∧ h = h0
set_option maxRecDepth 65536 in
set_option maxHeartbeats 40000000 in
theorem rm8 (l : Launch) (Z : State) (a0 : Array Value) (hw : ∀ d ∈ tables_1, d.before a0 Z = true) (ws : List Jvm.Cond) (q1 : Int64) (q2 : Int64) (h0 : Heap) (n0 : Nat) (Z0 : n0 ≤ h0.size) :
    MetFree l (⟨"java/lang/Math", "max", "(JJ)J"⟩ : MethodName) (head1 (Jvm.Cond.code (⟨"java/lang/Math", "max", "(JJ)J"⟩ : MethodName) jdk_29_method_66_code 4 (some .long) :: ws) ({ frames := 0, cells := 0, slots := 0, locals := 0 } : Room)) (fun a U => a = #[(.long q1), (.long q2)] ∧ Z.Warmed39 U.vm ∧ U.heap = h0) (fun _ _ _ _ _ => True) (fun _ U o U' => ∃ v L, o = .returned v ∧ Q8 Z q1 q2 h0 n0 v U'.heap L ∧ FrameEnd U o U' L ({ frames := 0, cells := 0, slots := 0, locals := 0 } : Room).cells ({ frames := 0, cells := 0, slots := 0, locals := 0 } : Room).slots) := by
  refine MetFree.of_bodySF (Jvm.Free.JP.mathPlain rfl (by decide +kernel)) hisR ?_
  intro p e s m args below meth c s₁ Bd hml0 hP hK
  obtain ⟨rfl, hZ, hh⟩ := hP
  have hx := Bd.exec
  have hby := Bd.bytes
  have hlk : meth.locks = false := BodyLoose.notSynchronized Bd
  have hml : c.maxLocals = 4 := hml0
  have hown : s.vm.findClass "java/lang/Math" = some m.cls := findClass_of_methodNamed Bd.named
  have hnm := (name_of_methodNamed Bd.named Bd.method).1
  have X0 : Stand p l e ({ frames := 0, cells := 0, slots := 0, locals := 0 } : Room) s m #[(.long q1), (.long q2)] below meth c s₁ [] 0 0 := Stand.of_body Bd
  have e0 : s₁.heap = h0 := by rw [← hh, Bd.state]; rfl
  have N0 := Fr.nil n0
  show OwnW p e below (OwnG s (Q8 Z q1 q2 h0 n0) ({ frames := 0, cells := 0, slots := 0, locals := 0 } : Room).cells ({ frames := 0, cells := 0, slots := 0, locals := 0 } : Room).slots) (s₁.setTop (entryFrame m #[(.long q1), (.long q2)] 4))
  rw [ef_rm8]
  refine own_lloadN X0 hx (hb hby d8_0) rfl 1 rfl ?_
  refine own_lloadN X0 hx (hb hby d8_1) rfl 2 rfl ?_
  refine own_lcmp X0 hx (hb hby d8_2) 3 rfl ?_
  by_cases hc3 : q1 < q2
  · -- hc3
    refine own_ifY X0 hx (hb hby d8_3) (tlt ((lw_lt _ _).mpr hc3)).1 10 (by decide) ?_
    refine own_lloadN X0 hx (hb hby d8_10) rfl 11 rfl ?_
    refine own_retJ X0 hx hlk Bd.returns (hb hby d8_11) (by decide) (by decide) ?_
    show Q8 Z q1 q2 h0 n0 _ s₁.heap _
    rw [e0]
    exact ⟨by rw [own_max, if_pos hc3], N0, rfl⟩
  · -- not hc3
    refine own_ifN X0 hx (hb hby d8_3) (flt (mt (lw_lt _ _).mp hc3)).1 6 (by decide) ?_
    refine own_lloadN X0 hx (hb hby d8_6) rfl 7 rfl ?_
    refine own_goto X0 hx (hb hby d8_7) 11 (by decide) ?_
    refine own_retJ X0 hx hlk Bd.returns (hb hby d8_11) (by decide) (by decide) ?_
    show Q8 Z q1 q2 h0 n0 _ s₁.heap _
    rw [e0]
    exact ⟨by rw [own_max, if_neg hc3], N0, rfl⟩
theorem d9_0 : decode jdk_29_method_70_code 0 = .ok (.lload_n 0, 1) := by decide +kernel
theorem d9_1 : decode jdk_29_method_70_code 1 = .ok (.lload_n 2, 1) := by decide +kernel
theorem d9_2 : decode jdk_29_method_70_code 2 = .ok (.lcmp, 1) := by decide +kernel
theorem d9_3 : decode jdk_29_method_70_code 3 = .ok (.ifCond .gt 7, 3) := by decide +kernel
theorem d9_6 : decode jdk_29_method_70_code 6 = .ok (.lload_n 0, 1) := by decide +kernel
theorem d9_7 : decode jdk_29_method_70_code 7 = .ok (.goto 4, 3) := by decide +kernel
theorem d9_10 : decode jdk_29_method_70_code 10 = .ok (.lload_n 2, 1) := by decide +kernel
theorem d9_11 : decode jdk_29_method_70_code 11 = .ok (.lreturn, 1) := by decide +kernel
theorem ef_rm9 (m : MethodId) (x0 : Int64) (x1 : Int64) : entryFrame m #[(.long x0), (.long x1)] 4 = mkF m 0 #[.val (.long x0), .second, .val (.long x1), .second] [] := by first | (simp [entryFrame, mkF, argsToLocals, Value.category]; done) | rfl
def own_min (q1 : Int64) (q2 : Int64) : Int64 := (if q2 < q1 then q2 else q1)
def Q9 (Z : State) (q1 : Int64) (q2 : Int64) (h0 : Heap) (n0 : Nat) (v : Option Value) (h : Heap) (L : List Loc) : Prop := v = some (.long (own_min q1 q2)) ∧ Fr n0 L ∧ h = h0
set_option maxRecDepth 65536 in
set_option maxHeartbeats 40000000 in
theorem rm9 (l : Launch) (Z : State) (a0 : Array Value) (hw : ∀ d ∈ tables_1, d.before a0 Z = true) (ws : List Jvm.Cond) (q1 : Int64) (q2 : Int64) (h0 : Heap) (n0 : Nat) (Z0 : n0 ≤ h0.size) :
    MetFree l (⟨"java/lang/Math", "min", "(JJ)J"⟩ : MethodName) (head1 (Jvm.Cond.code (⟨"java/lang/Math", "min", "(JJ)J"⟩ : MethodName) jdk_29_method_70_code 4 (some .long) :: ws) ({ frames := 0, cells := 0, slots := 0, locals := 0 } : Room)) (fun a U => a = #[(.long q1), (.long q2)] ∧ Z.Warmed39 U.vm ∧ U.heap = h0) (fun _ _ _ _ _ => True) (fun _ U o U' => ∃ v L, o = .returned v ∧ Q9 Z q1 q2 h0 n0 v U'.heap L ∧ FrameEnd U o U' L ({ frames := 0, cells := 0, slots := 0, locals := 0 } : Room).cells ({ frames := 0, cells := 0, slots := 0, locals := 0 } : Room).slots) := by
  refine MetFree.of_bodySF (Jvm.Free.JP.mathPlain rfl (by decide +kernel)) hisR ?_
  intro p e s m args below meth c s₁ Bd hml0 hP hK
  obtain ⟨rfl, hZ, hh⟩ := hP
  have hx := Bd.exec
  have hby := Bd.bytes
  have hlk : meth.locks = false := BodyLoose.notSynchronized Bd
  have hml : c.maxLocals = 4 := hml0
  have hown : s.vm.findClass "java/lang/Math" = some m.cls := findClass_of_methodNamed Bd.named
  have hnm := (name_of_methodNamed Bd.named Bd.method).1
  have X0 : Stand p l e ({ frames := 0, cells := 0, slots := 0, locals := 0 } : Room) s m #[(.long q1), (.long q2)] below meth c s₁ [] 0 0 := Stand.of_body Bd
  have e0 : s₁.heap = h0 := by rw [← hh, Bd.state]; rfl
  have N0 := Fr.nil n0
  show OwnW p e below (OwnG s (Q9 Z q1 q2 h0 n0) ({ frames := 0, cells := 0, slots := 0, locals := 0 } : Room).cells ({ frames := 0, cells := 0, slots := 0, locals := 0 } : Room).slots) (s₁.setTop (entryFrame m #[(.long q1), (.long q2)] 4))
  rw [ef_rm9]
  refine own_lloadN X0 hx (hb hby d9_0) rfl 1 rfl ?_
  refine own_lloadN X0 hx (hb hby d9_1) rfl 2 rfl ?_
  refine own_lcmp X0 hx (hb hby d9_2) 3 rfl ?_
  by_cases hc3 : q2 < q1
  · -- hc3
    refine own_ifY X0 hx (hb hby d9_3) (tlt ((lw_gt _ _).mpr hc3)).2.2.1 10 (by decide) ?_
    refine own_lloadN X0 hx (hb hby d9_10) rfl 11 rfl ?_
    refine own_retJ X0 hx hlk Bd.returns (hb hby d9_11) (by decide) (by decide) ?_
    show Q9 Z q1 q2 h0 n0 _ s₁.heap _
    rw [e0]
    exact ⟨by rw [own_min, if_pos hc3], N0, rfl⟩
  · -- not hc3
    refine own_ifN X0 hx (hb hby d9_3) (flt (mt (lw_gt _ _).mp hc3)).2.2.1 6 (by decide) ?_
    refine own_lloadN X0 hx (hb hby d9_6) rfl 7 rfl ?_
    refine own_goto X0 hx (hb hby d9_7) 11 (by decide) ?_
    refine own_retJ X0 hx hlk Bd.returns (hb hby d9_11) (by decide) (by decide) ?_
    show Q9 Z q1 q2 h0 n0 _ s₁.heap _
    rw [e0]
    exact ⟨by rw [own_min, if_neg hc3], N0, rfl⟩
theorem own_law1 (a b c d : Int64) : own_during c d a b = own_during a b c d := by
  simp only [own_during]
  by_cases h1 : a < d <;> by_cases h2 : c < b <;> simp [h1, h2]
theorem own_law2 {a b c d : Int64} {v : Int32} (h1 : a < b) (h2 : c < d) (hv : v = (if (own_max a c) < (own_min b d) then (1 : Int32) else (0 : Int32))) : own_during c d a b = v := by
  rw [hv]
  simp only [own_during, own_max, own_min]
  simp only [Int64.lt_iff_toInt_lt] at *
  by_cases g1 : a.toInt < c.toInt <;> by_cases g2 : d.toInt < b.toInt <;> by_cases g3 : a.toInt < d.toInt <;> by_cases g4 : c.toInt < b.toInt <;> simp only [g1, g2, g3, g4, if_true, if_false] <;> first | rfl | omega | (rw [if_pos (by omega)]) | (rw [if_neg (by omega)])
theorem pn_rm0 : plainName "com/example/holdfast/holdfast/TakenDuringPinLaw" = true := by first | (simp [plainName, overriddenIn]; done) | decide +kernel
theorem ef_rm0 (m : MethodId) (x0 : Int64) (x1 : Int64) (x2 : Int64) (x3 : Int64) : entryFrame m #[(.long x0), (.long x1), (.long x2), (.long x3)] maxLocals = mkF m 0 #[.val (.long x0), .second, .val (.long x1), .second, .val (.long x2), .second, .val (.long x3), .second, .unset, .unset, .unset, .unset, .unset, .unset, .unset, .unset] [] := by first | (simp [entryFrame, mkF, argsToLocals, Value.category, maxLocals]; done) | rfl
def Q0 (Z : State) (j0 : Int64) (j1 : Int64) (j2 : Int64) (j3 : Int64) (dc : Addr) (h0 : Heap) (n0 : Nat) (v : Option Value) (h : Heap) (L : List Loc) : Prop := v = some (.int (1 : Int32)) ∧ Fr n0 L
set_option maxRecDepth 65536 in
set_option maxHeartbeats 40000000 in
theorem rm0 (l : Launch) (Z : State) (a0 : Array Value) (hw : ∀ d ∈ tables_1, d.before a0 Z = true) (ws : List Jvm.Cond) (j0 : Int64) (j1 : Int64) (j2 : Int64) (j3 : Int64) (dc : Addr) (h0 : Heap) (n0 : Nat) (Z0 : n0 ≤ h0.size) (S_DEFAULTCAPACITY_EMPTY_ELEMENTDATA : Sta Z h0 "java/util/ArrayList" "DEFAULTCAPACITY_EMPTY_ELEMENTDATA" "[Ljava/lang/Object;" (.ref dc)) :
    MetFree l x (head1 (Jvm.Cond.code x code maxLocals ret :: ws) room_1) (fun a U => a = #[(.long j0), (.long j1), (.long j2), (.long j3)] ∧ Z.Warmed39 U.vm ∧ U.heap = h0) (fun _ _ _ _ _ => True) (fun _ U o U' => ∃ v L, o = .returned v ∧ Q0 Z j0 j1 j2 j3 dc h0 n0 v U'.heap L ∧ FrameEnd U o U' L room_1.cells room_1.slots) := by
  refine MetFree.of_bodySF (plainFor_of_name pn_rm0) hisR ?_
  intro p e s m args below meth c s₁ Bd hml0 hP hK
  obtain ⟨rfl, hZ, hh⟩ := hP
  have hx := Bd.exec
  have hby := Bd.bytes
  have hlk : meth.locks = false := BodyLoose.notSynchronized Bd
  have hml : c.maxLocals = 16 := hml0
  have hown : s.vm.findClass "com/example/holdfast/holdfast/TakenDuringPinLaw" = some m.cls := findClass_of_methodNamed Bd.named
  have hnm := (name_of_methodNamed Bd.named Bd.method).1
  have X0 : Stand p l e room_1 s m #[(.long j0), (.long j1), (.long j2), (.long j3)] below meth c s₁ [] 0 0 := Stand.of_body Bd
  have e0 : s₁.heap = h0 := by rw [← hh, Bd.state]; rfl
  have N0 := Fr.nil n0
  show OwnW p e below (OwnG s (Q0 Z j0 j1 j2 j3 dc h0 n0) room_1.cells room_1.slots) (s₁.setTop (entryFrame m #[(.long j0), (.long j1), (.long j2), (.long j3)] maxLocals))
  rw [ef_rm0]
  refine own_new X0 hx hZ hown (hw _ (List.mem_of_getElem? (i := 0) rfl)) (hw _ (List.mem_of_getElem? (i := 1) rfl)) (hw _ (List.mem_of_getElem? (i := 2) rfl)) e0 (hb hby at_0) (by decide) (by decide) 3 rfl ?_
  intro T1 h1 b1 qe1 X1 e1 E1 A1 D1
  have g_b1 : n0 ≤ b1 := Nat.le_trans Z0 (Nat.le_of_eq qe1.symm)
  have F1_nodes : Fld Z h1 b1 "com/example/holdfast/holdfast/SlurmLayout$Taken" "nodes" "Ljava/util/Collection;" .null := D1 (Or.inr (hw _ (List.mem_of_getElem? (i := 39) rfl))) (ty := (.object "java/util/Collection")) (by decide)
  have F1_start : Fld Z h1 b1 "com/example/holdfast/holdfast/SlurmLayout$Taken" "start" "J" (.long (0 : Int64)) := D1 (Or.inr (hw _ (List.mem_of_getElem? (i := 41) rfl))) (ty := .long) (by decide)
  have F1_end : Fld Z h1 b1 "com/example/holdfast/holdfast/SlurmLayout$Taken" "end" "J" (.long (0 : Int64)) := D1 (Or.inr (hw _ (List.mem_of_getElem? (i := 43) rfl))) (ty := .long) (by decide)
  refine own_dup X1 hx (hb hby at_3) rfl 4 rfl ?_
  refine own_new X1 hx hZ hown (hw _ (List.mem_of_getElem? (i := 3) rfl)) (hw _ (List.mem_of_getElem? (i := 4) rfl)) (hw _ (List.mem_of_getElem? (i := 5) rfl)) e1 (hb hby at_4) (by decide) (by decide) 7 rfl ?_
  intro T2 h2 b2 qe2 X2 e2 E2 A2 D2
  have ne_b1_b2 : b1 ≠ b2 := Nat.ne_of_lt (Nat.lt_of_lt_of_le A1.lt (Nat.le_of_eq qe2.symm))
  have Zs3 : n0 ≤ h1.size := (Nat.le_trans Z0 E1.1)
  have g_b2 : n0 ≤ b2 := Nat.le_trans Zs3 (Nat.le_of_eq qe2.symm)
  have F2_modCount : Fld Z h2 b2 "java/util/AbstractList" "modCount" "I" (.int (0 : Int32)) := D2 (Or.inl (hw _ (List.mem_of_getElem? (i := 25) rfl))) (ty := .int) (by decide)
  have F2_elementData : Fld Z h2 b2 "java/util/ArrayList" "elementData" "[Ljava/lang/Object;" .null := D2 (Or.inl (hw _ (List.mem_of_getElem? (i := 28) rfl))) (ty := (.array (.object "java/lang/Object"))) (by decide)
  refine own_dup X2 hx (hb hby at_7) rfl 8 rfl ?_
  have SjavautilArrayList_DEFAULTCAPACITY_EMPTY_ELEMENTDATA_4 := ((S_DEFAULTCAPACITY_EMPTY_ELEMENTDATA.ext E1).ext E2)
  have Zs5 : n0 ≤ h2.size := (Nat.le_trans Zs3 E2.1)
  refine own_callI X2 hx hZ hown rfl (hw _ (List.mem_of_getElem? (i := 6) rfl)) (hw _ (List.mem_of_getElem? (i := 7) rfl)) (hw _ (List.mem_of_getElem? (i := 8) rfl)) (hw _ (List.mem_of_getElem? (i := 5) rfl)) (by decide) (rm1 l Z a0 hw [] b2 (.int (0 : Int32)) .null dc h2 n0 Zs5 A2 g_b2 F2_modCount F2_elementData SjavautilArrayList_DEFAULTCAPACITY_EMPTY_ELEMENTDATA_4) e2 (hb hby at_8) pd___V rfl (by rw [hml]; rfl) (st := [(.ref b2), (.ref b1), (.ref b1)]) rfl 3 (Nat.le_of_eq rfl) (by decide) (by decide) (by decide) (by decide) 11 rfl ?_
  intro T6 v6 L6 X6 hQ6
  obtain ⟨rfl, N6q, Kc6, P6_0⟩ := hQ6
  have N6 := Fr.app N0 N6q
  show OwnW p e below (OwnG s (Q0 Z j0 j1 j2 j3 dc h0 n0) room_1.cells room_1.slots) (T6.setTop (mkF m 11 #[.val (.long j0), .second, .val (.long j1), .second, .val (.long j2), .second, .val (.long j3), .second, .unset, .unset, .unset, .unset, .unset, .unset, .unset, .unset] [(.ref b2), (.ref b1), (.ref b1)]))
  refine own_lloadN X6 hx (hb hby at_11) rfl 12 rfl ?_
  refine own_lloadN X6 hx (hb hby at_12) rfl 13 rfl ?_
  have Eb1_7 := ((A1.ext E2).keep Kc6)
  have Fb1_nodes_8 := ((F1_nodes.ext E2).keep Kc6 (ninS ne_b1_b2 nin0))
  have Fb1_start_9 := ((F1_start.ext E2).keep Kc6 (ninS ne_b1_b2 nin0))
  have Fb1_end_10 := ((F1_end.ext E2).keep Kc6 (ninS ne_b1_b2 nin0))
  have Zs11 : n0 ≤ T6.heap.size := (Nat.le_trans Zs5 Kc6.1)
  refine own_callI X6 hx hZ hown rfl (hw _ (List.mem_of_getElem? (i := 29) rfl)) (hw _ (List.mem_of_getElem? (i := 30) rfl)) (hw _ (List.mem_of_getElem? (i := 31) rfl)) (hw _ (List.mem_of_getElem? (i := 2) rfl)) (by decide) (rm5 l Z a0 hw [] b1 b2 j0 j1 .null (.long (0 : Int64)) (.long (0 : Int64)) T6.heap n0 Zs11 Eb1_7 g_b1 Fb1_nodes_8 Fb1_start_9 Fb1_end_10) rfl (hb hby at_13) pd__Ljava_util_Collection_JJ_V rfl (by rw [hml]; rfl) (st := [(.ref b1)]) rfl 1 (Nat.le_of_eq rfl) (by decide) (by decide) (by decide) (by decide) 16 rfl ?_
  intro T12 v12 L12 X12 hQ12
  obtain ⟨rfl, N12q, Kc12, P12_0, P12_1, P12_2⟩ := hQ12
  have N12 := Fr.app N6 N12q
  show OwnW p e below (OwnG s (Q0 Z j0 j1 j2 j3 dc h0 n0) room_1.cells room_1.slots) (T12.setTop (mkF m 16 #[.val (.long j0), .second, .val (.long j1), .second, .val (.long j2), .second, .val (.long j3), .second, .unset, .unset, .unset, .unset, .unset, .unset, .unset, .unset] [(.ref b1)]))
  refine own_astore X12 hx (hb hby at_16) rfl #[.val (.long j0), .second, .val (.long j1), .second, .val (.long j2), .second, .val (.long j3), .second, .val (.ref b1), .unset, .unset, .unset, .unset, .unset, .unset, .unset] rfl 18 rfl ?_
  refine own_new X12 hx hZ hown (hw _ (List.mem_of_getElem? (i := 0) rfl)) (hw _ (List.mem_of_getElem? (i := 1) rfl)) (hw _ (List.mem_of_getElem? (i := 2) rfl)) rfl (hb hby at_18) (by decide) (by decide) 21 rfl ?_
  intro T13 h13 b13 qe13 X13 e13 E13 A13 D13
  have ne_b1_b13 : b1 ≠ b13 := Nat.ne_of_lt (Nat.lt_of_lt_of_le P12_0.lt (Nat.le_of_eq qe13.symm))
  have Eb2_14 := (P6_0.keep Kc12)
  have ne_b2_b13 : b2 ≠ b13 := Nat.ne_of_lt (Nat.lt_of_lt_of_le Eb2_14.lt (Nat.le_of_eq qe13.symm))
  have Zs15 : n0 ≤ T12.heap.size := (Nat.le_trans Zs11 Kc12.1)
  have g_b13 : n0 ≤ b13 := Nat.le_trans Zs15 (Nat.le_of_eq qe13.symm)
  have F13_nodes : Fld Z h13 b13 "com/example/holdfast/holdfast/SlurmLayout$Taken" "nodes" "Ljava/util/Collection;" .null := D13 (Or.inr (hw _ (List.mem_of_getElem? (i := 39) rfl))) (ty := (.object "java/util/Collection")) (by decide)
  have F13_start : Fld Z h13 b13 "com/example/holdfast/holdfast/SlurmLayout$Taken" "start" "J" (.long (0 : Int64)) := D13 (Or.inr (hw _ (List.mem_of_getElem? (i := 41) rfl))) (ty := .long) (by decide)
  have F13_end : Fld Z h13 b13 "com/example/holdfast/holdfast/SlurmLayout$Taken" "end" "J" (.long (0 : Int64)) := D13 (Or.inr (hw _ (List.mem_of_getElem? (i := 43) rfl))) (ty := .long) (by decide)
  refine own_dup X13 hx (hb hby at_21) rfl 22 rfl ?_
  refine own_new X13 hx hZ hown (hw _ (List.mem_of_getElem? (i := 3) rfl)) (hw _ (List.mem_of_getElem? (i := 4) rfl)) (hw _ (List.mem_of_getElem? (i := 5) rfl)) e13 (hb hby at_22) (by decide) (by decide) 25 rfl ?_
  intro T16 h16 b16 qe16 X16 e16 E16 A16 D16
  have Eb1_17 := (P12_0.ext E13)
  have ne_b1_b16 : b1 ≠ b16 := Nat.ne_of_lt (Nat.lt_of_lt_of_le Eb1_17.lt (Nat.le_of_eq qe16.symm))
  have Eb2_18 := (Eb2_14.ext E13)
  have ne_b2_b16 : b2 ≠ b16 := Nat.ne_of_lt (Nat.lt_of_lt_of_le Eb2_18.lt (Nat.le_of_eq qe16.symm))
  have ne_b13_b16 : b13 ≠ b16 := Nat.ne_of_lt (Nat.lt_of_lt_of_le A13.lt (Nat.le_of_eq qe16.symm))
  have Zs19 : n0 ≤ h13.size := (Nat.le_trans Zs15 E13.1)
  have g_b16 : n0 ≤ b16 := Nat.le_trans Zs19 (Nat.le_of_eq qe16.symm)
  have F16_modCount : Fld Z h16 b16 "java/util/AbstractList" "modCount" "I" (.int (0 : Int32)) := D16 (Or.inl (hw _ (List.mem_of_getElem? (i := 25) rfl))) (ty := .int) (by decide)
  have F16_elementData : Fld Z h16 b16 "java/util/ArrayList" "elementData" "[Ljava/lang/Object;" .null := D16 (Or.inl (hw _ (List.mem_of_getElem? (i := 28) rfl))) (ty := (.array (.object "java/lang/Object"))) (by decide)
  refine own_dup X16 hx (hb hby at_25) rfl 26 rfl ?_
  have SjavautilArrayList_DEFAULTCAPACITY_EMPTY_ELEMENTDATA_20 := (((own_sta_keep (own_sta_keep SjavautilArrayList_DEFAULTCAPACITY_EMPTY_ELEMENTDATA_4 Kc6 (allS (own_pE A2) all0)) Kc12 (allS (own_pE Eb1_7) all0)).ext E13).ext E16)
  have Zs21 : n0 ≤ h16.size := (Nat.le_trans Zs19 E16.1)
  refine own_callI X16 hx hZ hown rfl (hw _ (List.mem_of_getElem? (i := 6) rfl)) (hw _ (List.mem_of_getElem? (i := 7) rfl)) (hw _ (List.mem_of_getElem? (i := 8) rfl)) (hw _ (List.mem_of_getElem? (i := 5) rfl)) (by decide) (rm1 l Z a0 hw [] b16 (.int (0 : Int32)) .null dc h16 n0 Zs21 A16 g_b16 F16_modCount F16_elementData SjavautilArrayList_DEFAULTCAPACITY_EMPTY_ELEMENTDATA_20) e16 (hb hby at_26) pd___V rfl (by rw [hml]; rfl) (st := [(.ref b16), (.ref b13), (.ref b13)]) rfl 3 (Nat.le_of_eq rfl) (by decide) (by decide) (by decide) (by decide) 29 rfl ?_
  intro T22 v22 L22 X22 hQ22
  obtain ⟨rfl, N22q, Kc22, P22_0⟩ := hQ22
  have N22 := Fr.app N12 N22q
  show OwnW p e below (OwnG s (Q0 Z j0 j1 j2 j3 dc h0 n0) room_1.cells room_1.slots) (T22.setTop (mkF m 29 #[.val (.long j0), .second, .val (.long j1), .second, .val (.long j2), .second, .val (.long j3), .second, .val (.ref b1), .unset, .unset, .unset, .unset, .unset, .unset, .unset] [(.ref b16), (.ref b13), (.ref b13)]))
  refine own_lload X22 hx (hb hby at_29) rfl 31 rfl ?_
  refine own_lload X22 hx (hb hby at_31) rfl 33 rfl ?_
  have Eb13_23 := ((A13.ext E16).keep Kc22)
  have Fb13_nodes_24 := ((F13_nodes.ext E16).keep Kc22 (ninS ne_b13_b16 nin0))
  have Fb13_start_25 := ((F13_start.ext E16).keep Kc22 (ninS ne_b13_b16 nin0))
  have Fb13_end_26 := ((F13_end.ext E16).keep Kc22 (ninS ne_b13_b16 nin0))
  have Zs27 : n0 ≤ T22.heap.size := (Nat.le_trans Zs21 Kc22.1)
  refine own_callI X22 hx hZ hown rfl (hw _ (List.mem_of_getElem? (i := 29) rfl)) (hw _ (List.mem_of_getElem? (i := 30) rfl)) (hw _ (List.mem_of_getElem? (i := 31) rfl)) (hw _ (List.mem_of_getElem? (i := 2) rfl)) (by decide) (rm5 l Z a0 hw [] b13 b16 j2 j3 .null (.long (0 : Int64)) (.long (0 : Int64)) T22.heap n0 Zs27 Eb13_23 g_b13 Fb13_nodes_24 Fb13_start_25 Fb13_end_26) rfl (hb hby at_33) pd__Ljava_util_Collection_JJ_V rfl (by rw [hml]; rfl) (st := [(.ref b13)]) rfl 1 (Nat.le_of_eq rfl) (by decide) (by decide) (by decide) (by decide) 36 rfl ?_
  intro T28 v28 L28 X28 hQ28
  obtain ⟨rfl, N28q, Kc28, P28_0, P28_1, P28_2⟩ := hQ28
  have N28 := Fr.app N22 N28q
  show OwnW p e below (OwnG s (Q0 Z j0 j1 j2 j3 dc h0 n0) room_1.cells room_1.slots) (T28.setTop (mkF m 36 #[.val (.long j0), .second, .val (.long j1), .second, .val (.long j2), .second, .val (.long j3), .second, .val (.ref b1), .unset, .unset, .unset, .unset, .unset, .unset, .unset] [(.ref b13)]))
  refine own_astore X28 hx (hb hby at_36) rfl #[.val (.long j0), .second, .val (.long j1), .second, .val (.long j2), .second, .val (.long j3), .second, .val (.ref b1), .val (.ref b13), .unset, .unset, .unset, .unset, .unset, .unset] rfl 38 rfl ?_
  refine own_aload X28 hx (hb hby at_38) rfl rfl 40 rfl ?_
  refine own_lload X28 hx (hb hby at_40) rfl 42 rfl ?_
  refine own_lload X28 hx (hb hby at_42) rfl 44 rfl ?_
  have Fb1_start_29 := ((((P12_1.ext E13).ext E16).keep Kc22 (ninS ne_b1_b16 nin0)).keep Kc28 (ninS ne_b1_b13 nin0))
  have Fb1_end_30 := ((((P12_2.ext E13).ext E16).keep Kc22 (ninS ne_b1_b16 nin0)).keep Kc28 (ninS ne_b1_b13 nin0))
  have Zs31 : n0 ≤ T28.heap.size := (Nat.le_trans Zs27 Kc28.1)
  have Eb1_33 := (((Eb1_17.ext E16).keep Kc22).keep Kc28)
  refine own_callV X28 hx hZ hown (hw _ (List.mem_of_getElem? (i := 44) rfl)) (hw _ (List.mem_of_getElem? (i := 45) rfl)) (hw _ (List.mem_of_getElem? (i := 47) rfl)) (hw _ (List.mem_of_getElem? (i := 46) rfl)) (hw _ (List.mem_of_getElem? (i := 48) rfl)) (hw _ (List.mem_of_getElem? (i := 2) rfl)) (by decide) Eb1_33 (rm7 l Z a0 hw [] b1 j2 j3 j0 j1 T28.heap n0 Zs31 Fb1_start_29 Fb1_end_30) rfl (hb hby at_44) pd__JJ_Z rfl (by rw [hml]; rfl) (st := []) rfl 0 (Nat.le_of_eq rfl) (by decide) (by decide) (by decide) (by decide) 47 rfl ?_
  intro T32 v32 L32 X32 hQ32
  obtain ⟨rfl, N32q, e32⟩ := hQ32
  have N32 := Fr.app N28 N32q
  show OwnW p e below (OwnG s (Q0 Z j0 j1 j2 j3 dc h0 n0) room_1.cells room_1.slots) (T32.setTop (mkF m 47 #[.val (.long j0), .second, .val (.long j1), .second, .val (.long j2), .second, .val (.long j3), .second, .val (.ref b1), .val (.ref b13), .unset, .unset, .unset, .unset, .unset, .unset] [(.int (own_during j2 j3 j0 j1))]))
  refine own_istore X32 hx (hb hby at_47) #[.val (.long j0), .second, .val (.long j1), .second, .val (.long j2), .second, .val (.long j3), .second, .val (.ref b1), .val (.ref b13), .val (.int (own_during j2 j3 j0 j1)), .unset, .unset, .unset, .unset, .unset] rfl 49 rfl ?_
  refine own_aload X32 hx (hb hby at_49) rfl rfl 51 rfl ?_
  refine own_lloadN X32 hx (hb hby at_51) rfl 52 rfl ?_
  refine own_lloadN X32 hx (hb hby at_52) rfl 53 rfl ?_
  refine own_callV X32 hx hZ hown (hw _ (List.mem_of_getElem? (i := 44) rfl)) (hw _ (List.mem_of_getElem? (i := 45) rfl)) (hw _ (List.mem_of_getElem? (i := 47) rfl)) (hw _ (List.mem_of_getElem? (i := 46) rfl)) (hw _ (List.mem_of_getElem? (i := 48) rfl)) (hw _ (List.mem_of_getElem? (i := 2) rfl)) (by decide) P28_0 (rm7 l Z a0 hw [] b13 j0 j1 j2 j3 T28.heap n0 Zs31 P28_1 P28_2) e32 (hb hby at_53) pd__JJ_Z rfl (by rw [hml]; rfl) (st := []) rfl 0 (Nat.le_of_eq rfl) (by decide) (by decide) (by decide) (by decide) 56 rfl ?_
  intro T34 v34 L34 X34 hQ34
  obtain ⟨rfl, N34q, e34⟩ := hQ34
  have N34 := Fr.app N32 N34q
  show OwnW p e below (OwnG s (Q0 Z j0 j1 j2 j3 dc h0 n0) room_1.cells room_1.slots) (T34.setTop (mkF m 56 #[.val (.long j0), .second, .val (.long j1), .second, .val (.long j2), .second, .val (.long j3), .second, .val (.ref b1), .val (.ref b13), .val (.int (own_during j2 j3 j0 j1)), .unset, .unset, .unset, .unset, .unset] [(.int (own_during j0 j1 j2 j3))]))
  refine own_istore X34 hx (hb hby at_56) #[.val (.long j0), .second, .val (.long j1), .second, .val (.long j2), .second, .val (.long j3), .second, .val (.ref b1), .val (.ref b13), .val (.int (own_during j2 j3 j0 j1)), .val (.int (own_during j0 j1 j2 j3)), .unset, .unset, .unset, .unset] rfl 58 rfl ?_
  refine own_iload X34 hx (hb hby at_58) rfl 60 rfl ?_
  refine own_iload X34 hx (hb hby at_60) rfl 62 rfl ?_
  have hc62 : (own_during j2 j3 j0 j1) = (own_during j0 j1 j2 j3) := own_law1 _ _ _ _
  refine own_icmpY X34 hx (hb hby at_62) (teq hc62).1 67 (by decide) ?_
  refine own_lloadN X34 hx (hb hby at_67) rfl 68 rfl ?_
  refine own_lloadN X34 hx (hb hby at_68) rfl 69 rfl ?_
  refine own_lcmp X34 hx (hb hby at_69) 70 rfl ?_
  by_cases hc70 : j0 < j1
  · -- hc70
    refine own_ifN X34 hx (hb hby at_70) (tlt ((lw_lt _ _).mpr hc70)).2.1 73 (by decide) ?_
    refine own_lload X34 hx (hb hby at_73) rfl 75 rfl ?_
    refine own_lload X34 hx (hb hby at_75) rfl 77 rfl ?_
    refine own_lcmp X34 hx (hb hby at_77) 78 rfl ?_
    by_cases hc78 : j2 < j3
    · -- hc78
      refine own_ifN X34 hx (hb hby at_78) (tlt ((lw_lt _ _).mpr hc78)).2.1 81 (by decide) ?_
      refine own_lloadN X34 hx (hb hby at_81) rfl 82 rfl ?_
      refine own_lload X34 hx (hb hby at_82) rfl 84 rfl ?_
      refine own_callS X34 hx hZ hown (hw _ (List.mem_of_getElem? (i := 49) rfl)) (hw _ (List.mem_of_getElem? (i := 50) rfl)) (hw _ (List.mem_of_getElem? (i := 52) rfl)) (hw _ (List.mem_of_getElem? (i := 51) rfl)) (by decide) (rm8 l Z a0 hw [] j0 j2 T28.heap n0 Zs31) e34 (hb hby at_84) pd__JJ_J rfl (by rw [hml]; rfl) (st := []) rfl 0 (Nat.le_of_eq rfl) (by decide) (by decide) (by decide) (by decide) 87 rfl ?_
      intro T35 v35 L35 X35 hQ35
      obtain ⟨rfl, N35q, e35⟩ := hQ35
      have N35 := Fr.app N34 N35q
      show OwnW p e below (OwnG s (Q0 Z j0 j1 j2 j3 dc h0 n0) room_1.cells room_1.slots) (T35.setTop (mkF m 87 #[.val (.long j0), .second, .val (.long j1), .second, .val (.long j2), .second, .val (.long j3), .second, .val (.ref b1), .val (.ref b13), .val (.int (own_during j2 j3 j0 j1)), .val (.int (own_during j0 j1 j2 j3)), .unset, .unset, .unset, .unset] [(.long (own_max j0 j2))]))
      refine own_lstore X35 hx (hb hby at_87) #[.val (.long j0), .second, .val (.long j1), .second, .val (.long j2), .second, .val (.long j3), .second, .val (.ref b1), .val (.ref b13), .val (.int (own_during j2 j3 j0 j1)), .val (.int (own_during j0 j1 j2 j3)), .val (.long (own_max j0 j2)), .second, .unset, .unset] rfl 89 rfl ?_
      refine own_lloadN X35 hx (hb hby at_89) rfl 90 rfl ?_
      refine own_lload X35 hx (hb hby at_90) rfl 92 rfl ?_
      refine own_callS X35 hx hZ hown (hw _ (List.mem_of_getElem? (i := 53) rfl)) (hw _ (List.mem_of_getElem? (i := 54) rfl)) (hw _ (List.mem_of_getElem? (i := 55) rfl)) (hw _ (List.mem_of_getElem? (i := 51) rfl)) (by decide) (rm9 l Z a0 hw [] j1 j3 T28.heap n0 Zs31) e35 (hb hby at_92) pd__JJ_J rfl (by rw [hml]; rfl) (st := []) rfl 0 (Nat.le_of_eq rfl) (by decide) (by decide) (by decide) (by decide) 95 rfl ?_
      intro T36 v36 L36 X36 hQ36
      obtain ⟨rfl, N36q, e36⟩ := hQ36
      have N36 := Fr.app N35 N36q
      show OwnW p e below (OwnG s (Q0 Z j0 j1 j2 j3 dc h0 n0) room_1.cells room_1.slots) (T36.setTop (mkF m 95 #[.val (.long j0), .second, .val (.long j1), .second, .val (.long j2), .second, .val (.long j3), .second, .val (.ref b1), .val (.ref b13), .val (.int (own_during j2 j3 j0 j1)), .val (.int (own_during j0 j1 j2 j3)), .val (.long (own_max j0 j2)), .second, .unset, .unset] [(.long (own_min j1 j3))]))
      refine own_lstore X36 hx (hb hby at_95) #[.val (.long j0), .second, .val (.long j1), .second, .val (.long j2), .second, .val (.long j3), .second, .val (.ref b1), .val (.ref b13), .val (.int (own_during j2 j3 j0 j1)), .val (.int (own_during j0 j1 j2 j3)), .val (.long (own_max j0 j2)), .second, .val (.long (own_min j1 j3)), .second] rfl 97 rfl ?_
      refine own_iload X36 hx (hb hby at_97) rfl 99 rfl ?_
      refine own_lload X36 hx (hb hby at_99) rfl 101 rfl ?_
      refine own_lload X36 hx (hb hby at_101) rfl 103 rfl ?_
      refine own_lcmp X36 hx (hb hby at_103) 104 rfl ?_
      suffices J112 : ∀ v112 : Int32, v112 = (if (own_max j0 j2) < (own_min j1 j3) then (1 : Int32) else (0 : Int32)) → OwnW p e below (OwnG s (Q0 Z j0 j1 j2 j3 dc h0 n0) room_1.cells room_1.slots) (T36.setTop (mkF m 112 #[.val (.long j0), .second, .val (.long j1), .second, .val (.long j2), .second, .val (.long j3), .second, .val (.ref b1), .val (.ref b13), .val (.int (own_during j2 j3 j0 j1)), .val (.int (own_during j0 j1 j2 j3)), .val (.long (own_max j0 j2)), .second, .val (.long (own_min j1 j3)), .second] [(.int v112), (.int (own_during j2 j3 j0 j1))])) by
        by_cases hc104 : (own_max j0 j2) < (own_min j1 j3)
        · -- hc104
          refine own_ifN X36 hx (hb hby at_104) (tlt ((lw_lt _ _).mpr hc104)).2.1 107 (by decide) ?_
          refine own_iconst X36 hx (hb hby at_107) (1 : Int32) rfl 108 rfl ?_
          refine own_goto X36 hx (hb hby at_108) 112 (by decide) ?_
          exact J112 _ (by rw [if_pos hc104])
        · -- not hc104
          refine own_ifY X36 hx (hb hby at_104) (flt (mt (lw_lt _ _).mp hc104)).2.1 111 (by decide) ?_
          refine own_iconst X36 hx (hb hby at_111) (0 : Int32) rfl 112 rfl ?_
          exact J112 _ (by rw [if_neg hc104])
      intro v112 hv112
      have hc112 : (own_during j2 j3 j0 j1) = v112 := own_law2 hc70 hc78 hv112
      refine own_icmpN X36 hx (hb hby at_112) (teq hc112).2 115 (by decide) ?_
      refine own_iconst X36 hx (hb hby at_115) (1 : Int32) rfl 116 rfl ?_
      refine own_goto X36 hx (hb hby at_116) 120 (by decide) ?_
      refine own_retZ X36 hx hlk Bd.returns (by decide) (hb hby at_120) (by decide) (by decide) ?_
      show Q0 Z j0 j1 j2 j3 dc h0 n0 _ T36.heap _
      rw [e36]
      exact ⟨rfl, N36⟩
    · -- not hc78
      refine own_ifY X34 hx (hb hby at_78) (flt (mt (lw_lt _ _).mp hc78)).2.1 121 (by decide) ?_
      refine own_iconst X34 hx (hb hby at_121) (1 : Int32) rfl 122 rfl ?_
      refine own_retZ X34 hx hlk Bd.returns (by decide) (hb hby at_122) (by decide) (by decide) ?_
      show Q0 Z j0 j1 j2 j3 dc h0 n0 _ T34.heap _
      rw [e34]
      exact ⟨rfl, N34⟩
  · -- not hc70
    refine own_ifY X34 hx (hb hby at_70) (flt (mt (lw_lt _ _).mp hc70)).2.1 121 (by decide) ?_
    refine own_iconst X34 hx (hb hby at_121) (1 : Int32) rfl 122 rfl ?_
    refine own_retZ X34 hx hlk Bd.returns (by decide) (hb hby at_122) (by decide) (by decide) ?_
    show Q0 Z j0 j1 j2 j3 dc h0 n0 _ T34.heap _
    rw [e34]
    exact ⟨rfl, N34⟩
set_option maxRecDepth 65536 in
set_option maxHeartbeats 40000000 in
theorem comes_1 {Post : Tables → Env → Array Value → State → Outcome → State → Prop} (hpost : ∀ tb e args s v u, (limb_1_1.after args s (.returned v) u = true ∧ limb_1_2.after args s (.returned v) u = true) → FrameEnd s (.returned v) u (Jvm.fieldLocs frame_1_writes args s ++ Jvm.arrayLocs frame_1_arrays args s ++ Jvm.staticLocs frame_1_statics s) 16 128 → Post tb e args s (.returned v) u) :
    ArmFor flags0 classFile x code maxLocals ret World_1 tables_1 room_1 Calls_1 rest_1 Pre_1 Post := by
  intro l hfl _ _ p e ha hc hk s m args below hf hA hF happ hP
  obtain ⟨hcalls, hrest, hpre⟩ := hP
  obtain ⟨-, -, -, hnamed, -, -, -, hat⟩ := (Spec.applies_iff hf).mp happ
  obtain ⟨hg, hn⟩ := and_e (Cond.before_iff.mp (show (Jvm.Cond.and given_1 narrow_1).before args s = true from hpre))
  obtain ⟨gc, gr⟩ := and_e hg
  obtain ⟨ga0, gr0⟩ := and_e gr
  obtain ⟨ga1, gr1⟩ := and_e gr0
  obtain ⟨ga2, gr2⟩ := and_e gr1
  have ga3 := gr2
  obtain ⟨w0, w1, w2, w3, rfl⟩ : ∃ w0 w1 w2 w3 : Value, args = #[w0, w1, w2, w3] := by
    have hs : args.size = 4 := by simpa [Cond.value, given_1] using gc
    obtain ⟨L⟩ := args
    match L, hs with
    | [w0, w1, w2, w3], _ => exact ⟨w0, w1, w2, w3, rfl⟩
  have hw := fun d (hd : d ∈ tables_1) => atoms_spec (ws := Jvm.Cond.code x code maxLocals ret :: tables_1) hat d (List.mem_cons_of_mem _ hd)
  have hfit : Fit s := fun {y c} hc i hi => by
    obtain ⟨ha, rfl⟩ := Array.getElem?_eq_some_iff.mp hc
    have q := List.all_eq_true.mp ((Array.all_eq_true_iff_forall_mem.mp hF) _ (Array.getElem_mem ha)) i (List.mem_range.mpr hi)
    simpa [Array.getElem?_eq_getElem hi] using q
  obtain ⟨hsets, hown0⟩ := atoms_of _ (rest_1_c_eq ▸ (show rest_1_c.before _ s = true from hrest))
  obtain ⟨i0, ei0⟩ := isL_v ga0
  obtain rfl : w0 = (.long i0) := Option.some.inj ei0
  obtain ⟨i1, ei1⟩ := isL_v ga1
  obtain rfl : w1 = (.long i1) := Option.some.inj ei1
  obtain ⟨i2, ei2⟩ := isL_v ga2
  obtain rfl : w2 = (.long i2) := Option.some.inj ei2
  obtain ⟨i3, ei3⟩ := isL_v ga3
  obtain rfl : w3 = (.long i3) := Option.some.inj ei3
  obtain ⟨dc, edc⟩ := arr_v (Cond.before_iff.mp (hsets _ (List.mem_of_getElem? (i := 6) rfl)))
  have Sdc := Sta.start edc (Or.inr ⟨hw _ (List.mem_of_getElem? (i := 5) rfl), hsets _ (List.mem_of_getElem? (i := 2) rfl)⟩)
  obtain ⟨n, o, h1, h2, h3, _, L, rfl, ⟨rfl, N⟩, hq⟩ := rm0 l s _ hw tables_1 i0 i1 i2 i3 dc s.heap s.heap.size (Nat.le_refl _) Sdc p e ha hc hk s m _ below hf ((Spec.applies_iff_loose hf).mp happ).1 ⟨rfl, State.Warmed39.refl s, rfl⟩ trivial
  refine ⟨n, _, h1, h2, h3, hpost _ _ _ _ _ _ ⟨Cond.after_iff.mpr rfl, Cond.after_iff.mpr (eq_i res_at (Term.int_eval (1)) rfl)⟩ ⟨hq.1, hq.2.1, (hq.2.2.sift fun y hy => Or.inr (N y hy)).mono (by decide) (by decide)⟩⟩
theorem main_1_1 : Claimed_1_1 := comes_1 fun _ _ _ _ _ _ h hF => ⟨h.1, hF⟩
theorem main_1_2 : Claimed_1_2 := comes_1 fun _ _ _ _ _ _ h hF => ⟨h.2, hF⟩
end Jvm.Pilot.@@N@@
namespace Jvm.Pilot.@@N@@
open Jvm Jvm.ClassFile Sem Op Lib Jvm.Free Jvm.Stand Jvm.Pilot.@@N@@.Jvm.D
/-! MADE BY PROGRAM (witnessworld.py) out of the Statement's table words and the real class files: 20 classes; the members and pool entries that the words name. The judged class is class 1, her method 1. -/
namespace start1
open Jvm.ClassFile
def u (s : String) : CpInfo := .utf8 (stringToUtf16 s)
/-- a pool by its gaps: so many unusable entries, then the entry; so many at the end -/
def gap : Nat → List CpInfo → List CpInfo
  | 0, r => r
  | n + 1, r => .unusable :: gap n r
def poolList (es : List (Nat × CpInfo)) (last : Nat) : List CpInfo := es.foldr (fun e r => gap e.1 (e.2 :: r)) (gap last [])
def pool (es : List (Nat × CpInfo)) (last : Nat) : Array CpInfo := ⟨poolList es last⟩
def fileOf (pool : Array CpInfo) (this : Nat) (attrs : Array Attribute := #[]) (ms : Array MethodInfo := #[]) (fl : Nat := 33) (sup : Nat := 0) (ifs : Array Nat := #[]) (fds : Array FieldInfo := #[]) : ClassFile where
  minorVersion := 0
  majorVersion := 65
  constantPool := pool
  accessFlags := fl
  thisClass := this
  superClass := sup
  interfaces := ifs
  fields := fds
  methods := ms
  attributes := attrs
def plain (name : String) (sup : Option ClassId) : Class where
  name := name
  kind := .ordinary
  loader := none
  accessFlags := 33
  super := sup
  interfaces := #[]
  cf := none
  fields := #[]
  methods := #[]
  instanceTypes := #[]
  staticTypes := #[]
  resolved := #[]
  callSites := []
  init := .initialized
  statics := none
  mirror := none

def pool0 : Array CpInfo := pool [(5, u "<init>"), (0, u "()V"), (1, .class_ 10), (1, u "java/lang/Object")] 113

def k0c0 : Code := { maxStack := 0, maxLocals := 1, code := object_method_1_code, exceptionTable := #[], attributes := #[] }
def k0m0 : Method := { name := "<init>", desc := "()V", sig := { parameters := [], returnType := none }, accessFlags := 1, code := some k0c0 }
/-- java/lang/Object -/
def k0 : Class := { plain "java/lang/Object" none with
  accessFlags := 33
  interfaces := #[]
  cf := some (fileOf pool0 8 #[] #[{ accessFlags := 1, nameIndex := 5, descriptorIndex := 6, attributes := #[] }] 33 0 #[] #[])
  fields := #[]
  methods := #[k0m0]
  instanceTypes := #[]
  staticTypes := #[]
  resolved := Array.replicate 124 none
  statics := none }

def pool1 : Array CpInfo := pool [(2, .class_ 4), (0, .nameAndType 5 6), (0, u "java/lang/Object"), (0, u "<init>"), (0, u "()V"), (0, .class_ 8), (0, u "com/example/holdfast/holdfast/SlurmLayout$Taken"), (0, .class_ 10), (0, u "java/util/ArrayList"), (0, .methodref 9 3), (0, .methodref 7 13), (0, .nameAndType 5 14), (0, u "(Ljava/util/Collection;JJ)V"), (0, .methodref 7 16), (0, .nameAndType 17 18), (0, u "during"), (0, u "(JJ)Z"), (0, .methodref 20 21), (0, .class_ 22), (0, .nameAndType 23 24), (0, u "java/lang/Math"), (0, u "max"), (0, u "(JJ)J"), (0, .methodref 20 26), (0, .nameAndType 27 24), (0, u "min"), (0, .class_ 29), (0, u "com/example/holdfast/holdfast/TakenDuringPinLaw"), (2, u "law"), (0, u "(JJJJ)Z")] 7

def k1m0 : Method := { name := "<init>", desc := "()V", sig := { parameters := [], returnType := none }, accessFlags := 2, code := none }
def k1c1 : Code := { maxStack := 7, maxLocals := 16, code := code, exceptionTable := #[], attributes := #[] }
def k1m1 : Method := { name := "law", desc := "(JJJJ)Z", sig := { parameters := [.long, .long, .long, .long], returnType := some .boolean }, accessFlags := 9, code := some k1c1 }
/-- com/example/holdfast/holdfast/TakenDuringPinLaw -/
def k1 : Class := { plain "com/example/holdfast/holdfast/TakenDuringPinLaw" (some 0) with
  accessFlags := 49
  interfaces := #[]
  cf := some (fileOf pool1 28 #[] #[{ accessFlags := 2, nameIndex := 5, descriptorIndex := 6, attributes := #[] }, { accessFlags := 9, nameIndex := 32, descriptorIndex := 33, attributes := #[] }] 49 2 #[] #[])
  fields := #[]
  methods := #[k1m0, k1m1]
  instanceTypes := #[]
  staticTypes := #[]
  resolved := Array.replicate 41 none
  statics := none }

def pool2 : Array CpInfo := pool [(1, .methodref 2 3), (0, .class_ 4), (0, .nameAndType 5 6), (0, u "java/lang/Object"), (0, u "<init>"), (0, u "()V"), (0, .class_ 8), (0, u "java/lang/Record")] 13

def k2c0 : Code := { maxStack := 1, maxLocals := 1, code := jdk_30_method_1_code, exceptionTable := #[], attributes := #[] }
def k2m0 : Method := { name := "<init>", desc := "()V", sig := { parameters := [], returnType := none }, accessFlags := 4, code := some k2c0 }
/-- java/lang/Record -/
def k2 : Class := { plain "java/lang/Record" (some 0) with
  accessFlags := 1057
  interfaces := #[]
  cf := some (fileOf pool2 7 #[] #[{ accessFlags := 4, nameIndex := 5, descriptorIndex := 6, attributes := #[] }] 1057 2 #[] #[])
  fields := #[]
  methods := #[k2m0]
  instanceTypes := #[]
  staticTypes := #[]
  resolved := Array.replicate 22 none
  statics := none }

def pool3 : Array CpInfo := pool [(1, .methodref 2 3), (0, .class_ 4), (0, .nameAndType 5 6), (0, u "java/lang/Record"), (0, u "<init>"), (0, u "()V"), (0, .fieldref 8 9), (0, .class_ 10), (0, .nameAndType 11 12), (0, u "com/example/holdfast/holdfast/SlurmLayout$Taken"), (0, u "nodes"), (0, u "Ljava/util/Collection;"), (0, .fieldref 8 14), (0, .nameAndType 15 16), (0, u "start"), (0, u "J"), (0, .fieldref 8 18), (0, .nameAndType 19 16), (0, u "end"), (14, u "(Ljava/util/Collection;JJ)V"), (4, u "during"), (0, u "(JJ)Z"), (10, .class_ 52), (0, u "com/example/holdfast/holdfast/SlurmLayout")] 21

def k3c0 : Code := { maxStack := 3, maxLocals := 6, code := prog_152_method_1_code, exceptionTable := #[], attributes := #[] }
def k3m0 : Method := { name := "<init>", desc := "(Ljava/util/Collection;JJ)V", sig := { parameters := [(.object "java/util/Collection"), .long, .long], returnType := none }, accessFlags := 0, code := some k3c0 }
def k3c1 : Code := { maxStack := 4, maxLocals := 5, code := prog_152_method_2_code, exceptionTable := #[], attributes := #[] }
def k3m1 : Method := { name := "during", desc := "(JJ)Z", sig := { parameters := [.long, .long], returnType := some .boolean }, accessFlags := 0, code := some k3c1 }
/-- com/example/holdfast/holdfast/SlurmLayout$Taken -/
def k3 : Class := { plain "com/example/holdfast/holdfast/SlurmLayout$Taken" (some 2) with
  accessFlags := 48
  interfaces := #[]
  cf := some (fileOf pool3 8 #[.nestHost 51] #[{ accessFlags := 0, nameIndex := 5, descriptorIndex := 34, attributes := #[] }, { accessFlags := 0, nameIndex := 39, descriptorIndex := 40, attributes := #[] }] 48 2 #[] #[{ accessFlags := 18, nameIndex := 11, descriptorIndex := 12, attributes := #[] }, { accessFlags := 18, nameIndex := 15, descriptorIndex := 16, attributes := #[] }, { accessFlags := 18, nameIndex := 19, descriptorIndex := 16, attributes := #[] }])
  fields := #[{ name := "nodes", type := (.object "java/util/Collection"), accessFlags := 18, slot := 0, constantValue := 0 }, { name := "start", type := .long, accessFlags := 18, slot := 1, constantValue := 0 }, { name := "end", type := .long, accessFlags := 18, slot := 2, constantValue := 0 }]
  methods := #[k3m0, k3m1]
  instanceTypes := #[(.object "java/util/Collection"), .long, .long]
  staticTypes := #[]
  resolved := Array.replicate 74 none
  statics := none }

def pool4 : Array CpInfo := pool [(8, .class_ 10), (1, u "java/lang/Iterable"), (24, .class_ 36), (0, u "java/lang/Object")] 25

/-- java/lang/Iterable -/
def k4 : Class := { plain "java/lang/Iterable" (some 0) with
  accessFlags := 1537
  interfaces := #[]
  cf := some (fileOf pool4 8 #[] #[] 1537 35 #[] #[])
  fields := #[]
  methods := #[]
  instanceTypes := #[]
  staticTypes := #[]
  resolved := Array.replicate 62 none
  statics := none }

def pool5 : Array CpInfo := pool [(10, .class_ 12), (1, u "java/util/Collection"), (47, .class_ 61), (0, u "java/lang/Object"), (0, .class_ 63), (0, u "java/lang/Iterable")] 51

/-- java/util/Collection -/
def k5 : Class := { plain "java/util/Collection" (some 0) with
  accessFlags := 1537
  interfaces := #[4]
  cf := some (fileOf pool5 10 #[] #[] 1537 60 #[62] #[])
  fields := #[]
  methods := #[]
  instanceTypes := #[]
  staticTypes := #[]
  resolved := Array.replicate 115 none
  statics := none }

def pool6 : Array CpInfo := pool [(1, .methodref 2 3), (0, .class_ 4), (0, .nameAndType 5 6), (0, u "java/lang/Object"), (0, u "<init>"), (0, u "()V"), (1, .class_ 10), (1, u "java/util/AbstractCollection"), (66, .class_ 78), (0, u "java/util/Collection")] 81

def k6c0 : Code := { maxStack := 1, maxLocals := 1, code := jdk_22_method_1_code, exceptionTable := #[], attributes := #[] }
def k6m0 : Method := { name := "<init>", desc := "()V", sig := { parameters := [], returnType := none }, accessFlags := 4, code := some k6c0 }
/-- java/util/AbstractCollection -/
def k6 : Class := { plain "java/util/AbstractCollection" (some 0) with
  accessFlags := 1057
  interfaces := #[5]
  cf := some (fileOf pool6 8 #[] #[{ accessFlags := 4, nameIndex := 5, descriptorIndex := 6, attributes := #[] }] 1057 2 #[77] #[])
  fields := #[]
  methods := #[k6m0]
  instanceTypes := #[]
  staticTypes := #[]
  resolved := Array.replicate 160 none
  statics := none }

def pool7 : Array CpInfo := pool [(8, .class_ 10), (1, u "java/util/SequencedCollection"), (15, .class_ 27), (0, u "java/lang/Object"), (0, .class_ 29), (0, u "java/util/Collection")] 27

/-- java/util/SequencedCollection -/
def k7 : Class := { plain "java/util/SequencedCollection" (some 0) with
  accessFlags := 1537
  interfaces := #[5]
  cf := some (fileOf pool7 8 #[] #[] 1537 26 #[28] #[])
  fields := #[]
  methods := #[]
  instanceTypes := #[]
  staticTypes := #[]
  resolved := Array.replicate 57 none
  statics := none }

def pool8 : Array CpInfo := pool [(8, .class_ 10), (1, u "java/util/List"), (92, .class_ 104), (0, u "java/lang/Object"), (15, .class_ 121), (0, u "java/util/SequencedCollection")] 129

/-- java/util/List -/
def k8 : Class := { plain "java/util/List" (some 0) with
  accessFlags := 1537
  interfaces := #[7]
  cf := some (fileOf pool8 8 #[] #[] 1537 103 #[120] #[])
  fields := #[]
  methods := #[]
  instanceTypes := #[]
  staticTypes := #[]
  resolved := Array.replicate 251 none
  statics := none }

def pool9 : Array CpInfo := pool [(1, .methodref 2 3), (0, .class_ 4), (0, .nameAndType 5 6), (0, u "java/util/AbstractCollection"), (0, u "<init>"), (0, u "()V"), (0, .fieldref 8 9), (0, .class_ 10), (0, .nameAndType 11 12), (0, u "java/util/AbstractList"), (0, u "modCount"), (0, u "I"), (64, .class_ 78), (0, u "java/util/AbstractList$Itr"), (3, .class_ 83), (0, u "java/util/AbstractList$ListItr"), (9, .class_ 94), (0, u "java/util/AbstractList$RandomAccessSubList"), (3, .class_ 99), (0, u "java/util/AbstractList$SubList"), (33, .class_ 134), (0, u "java/util/List"), (73, .class_ 209), (0, u "java/util/AbstractList$SubList$1"), (0, .class_ 211), (0, u "java/util/AbstractList$RandomAccessSpliterator")] 6

def k9c0 : Code := { maxStack := 2, maxLocals := 1, code := jdk_39_method_1_code, exceptionTable := #[], attributes := #[] }
def k9m0 : Method := { name := "<init>", desc := "()V", sig := { parameters := [], returnType := none }, accessFlags := 4, code := some k9c0 }
/-- java/util/AbstractList -/
def k9 : Class := { plain "java/util/AbstractList" (some 6) with
  accessFlags := 1057
  interfaces := #[8]
  cf := some (fileOf pool9 8 #[.nestMembers #[93, 98, 208, 210, 82, 77]] #[{ accessFlags := 4, nameIndex := 5, descriptorIndex := 6, attributes := #[] }] 1057 2 #[133] #[{ accessFlags := 132, nameIndex := 11, descriptorIndex := 12, attributes := #[] }])
  fields := #[{ name := "modCount", type := .int, accessFlags := 132, slot := 0, constantValue := 0 }]
  methods := #[k9m0]
  instanceTypes := #[.int]
  staticTypes := #[]
  resolved := Array.replicate 218 none
  statics := none }

def pool10 : Array CpInfo := pool [(1, .class_ 2), (0, u "java/util/RandomAccess"), (0, .class_ 4), (0, u "java/lang/Object")] 2

/-- java/util/RandomAccess -/
def k10 : Class := { plain "java/util/RandomAccess" (some 0) with
  accessFlags := 1537
  interfaces := #[]
  cf := some (fileOf pool10 1 #[] #[] 1537 3 #[] #[])
  fields := #[]
  methods := #[]
  instanceTypes := #[]
  staticTypes := #[]
  resolved := Array.replicate 7 none
  statics := none }

def pool11 : Array CpInfo := pool [(1, .class_ 2), (0, u "java/lang/Cloneable"), (0, .class_ 4), (0, u "java/lang/Object")] 2

/-- java/lang/Cloneable -/
def k11 : Class := { plain "java/lang/Cloneable" (some 0) with
  accessFlags := 1537
  interfaces := #[]
  cf := some (fileOf pool11 1 #[] #[] 1537 3 #[] #[])
  fields := #[]
  methods := #[]
  instanceTypes := #[]
  staticTypes := #[]
  resolved := Array.replicate 7 none
  statics := none }

def pool12 : Array CpInfo := pool [(1, .class_ 2), (0, u "java/io/Serializable"), (0, .class_ 4), (0, u "java/lang/Object")] 2

/-- java/io/Serializable -/
def k12 : Class := { plain "java/io/Serializable" (some 0) with
  accessFlags := 1537
  interfaces := #[]
  cf := some (fileOf pool12 1 #[] #[] 1537 3 #[] #[])
  fields := #[]
  methods := #[]
  instanceTypes := #[]
  staticTypes := #[]
  resolved := Array.replicate 7 none
  statics := none }

def pool13 : Array CpInfo := pool [(1, .methodref 2 3), (0, .class_ 4), (0, .nameAndType 5 6), (0, u "java/util/AbstractList"), (0, u "<init>"), (0, u "()V"), (2, .fieldref 10 11), (0, .class_ 12), (0, .nameAndType 13 14), (0, u "java/util/ArrayList"), (0, u "elementData"), (0, u "[Ljava/lang/Object;"), (2, u "EMPTY_ELEMENTDATA"), (21, .fieldref 10 40), (0, .nameAndType 41 14), (0, u "DEFAULTCAPACITY_EMPTY_ELEMENTDATA"), (8, u "size"), (0, u "I"), (96, .class_ 149), (0, u "java/util/List"), (112, .class_ 263), (0, u "java/util/ArrayList$ListItr"), (3, .class_ 268), (0, u "java/util/ArrayList$Itr"), (7, .class_ 277), (0, u "java/util/ArrayList$SubList"), (12, .class_ 291), (0, u "java/util/ArrayList$ArrayListSpliterator"), (37, .class_ 330), (0, u "java/util/RandomAccess"), (0, .class_ 332), (0, u "java/lang/Cloneable"), (0, .class_ 334), (0, u "java/io/Serializable"), (0, u "serialVersionUID"), (0, u "J"), (3, u "DEFAULT_CAPACITY"), (159, .class_ 501), (0, u "java/util/ArrayList$SubList$2"), (0, .class_ 503), (0, u "java/util/ArrayList$SubList$1")] 5

def k13c0 : Code := { maxStack := 2, maxLocals := 1, code := jdk_38_method_2_code, exceptionTable := #[], attributes := #[] }
def k13m0 : Method := { name := "<init>", desc := "()V", sig := { parameters := [], returnType := none }, accessFlags := 1, code := some k13c0 }
/-- java/util/ArrayList -/
def k13 : Class := { plain "java/util/ArrayList" (some 9) with
  accessFlags := 33
  interfaces := #[8, 10, 11, 12]
  cf := some (fileOf pool13 10 #[.nestMembers #[290, 276, 500, 502, 262, 267]] #[{ accessFlags := 1, nameIndex := 5, descriptorIndex := 6, attributes := #[] }] 33 2 #[148, 329, 331, 333] #[{ accessFlags := 26, nameIndex := 335, descriptorIndex := 336, attributes := #[] }, { accessFlags := 26, nameIndex := 340, descriptorIndex := 51, attributes := #[] }, { accessFlags := 26, nameIndex := 17, descriptorIndex := 14, attributes := #[] }, { accessFlags := 26, nameIndex := 41, descriptorIndex := 14, attributes := #[] }, { accessFlags := 128, nameIndex := 13, descriptorIndex := 14, attributes := #[] }, { accessFlags := 2, nameIndex := 50, descriptorIndex := 51, attributes := #[] }])
  fields := #[{ name := "serialVersionUID", type := .long, accessFlags := 26, slot := 0, constantValue := 0 }, { name := "DEFAULT_CAPACITY", type := .int, accessFlags := 26, slot := 1, constantValue := 0 }, { name := "EMPTY_ELEMENTDATA", type := (.array (.object "java/lang/Object")), accessFlags := 26, slot := 2, constantValue := 0 }, { name := "DEFAULTCAPACITY_EMPTY_ELEMENTDATA", type := (.array (.object "java/lang/Object")), accessFlags := 26, slot := 3, constantValue := 0 }, { name := "elementData", type := (.array (.object "java/lang/Object")), accessFlags := 128, slot := 1, constantValue := 0 }, { name := "size", type := .int, accessFlags := 2, slot := 2, constantValue := 0 }]
  methods := #[k13m0]
  instanceTypes := #[.int, (.array (.object "java/lang/Object")), .int]
  staticTypes := #[.long, .int, (.array (.object "java/lang/Object")), (.array (.object "java/lang/Object"))]
  resolved := Array.replicate 509 none
  statics := some 0 }

def pool14 : Array CpInfo := pool [(1, .class_ 2), (0, u "java/lang/Math"), (1, .class_ 6), (1, u "java/lang/Object"), (0, u "<init>"), (0, u "()V"), (89, .class_ 100), (1, u "java/lang/Math$RandomNumberGeneratorHolder"), (20, u "(JJ)J"), (50, u "negativeZeroFloatBits"), (0, u "J"), (2, u "negativeZeroDoubleBits"), (21, u "max"), (2, u "min"), (43, u "$assertionsDisabled"), (0, u "Z"), (91, u "twoToTheDoubleScaleDown"), (0, u "D"), (4, u "twoToTheDoubleScaleUp"), (9, u "E"), (3, u "PI"), (2, u "TAU"), (2, u "DEGREES_TO_RADIANS"), (0, u "RADIANS_TO_DEGREES")] 94

def k14m0 : Method := { name := "<init>", desc := "()V", sig := { parameters := [], returnType := none }, accessFlags := 2, code := none }
def k14c1 : Code := { maxStack := 4, maxLocals := 4, code := jdk_29_method_66_code, exceptionTable := #[], attributes := #[] }
def k14m1 : Method := { name := "max", desc := "(JJ)J", sig := { parameters := [.long, .long], returnType := some .long }, accessFlags := 9, code := some k14c1 }
def k14c2 : Code := { maxStack := 4, maxLocals := 4, code := jdk_29_method_70_code, exceptionTable := #[], attributes := #[] }
def k14m2 : Method := { name := "min", desc := "(JJ)J", sig := { parameters := [.long, .long], returnType := some .long }, accessFlags := 9, code := some k14c2 }
/-- java/lang/Math -/
def k14 : Class := { plain "java/lang/Math" (some 0) with
  accessFlags := 49
  interfaces := #[]
  cf := some (fileOf pool14 1 #[.nestMembers #[98]] #[{ accessFlags := 2, nameIndex := 7, descriptorIndex := 8, attributes := #[] }, { accessFlags := 9, nameIndex := 198, descriptorIndex := 121, attributes := #[] }, { accessFlags := 9, nameIndex := 201, descriptorIndex := 121, attributes := #[] }] 49 4 #[] #[{ accessFlags := 25, nameIndex := 354, descriptorIndex := 339, attributes := #[] }, { accessFlags := 25, nameIndex := 358, descriptorIndex := 339, attributes := #[] }, { accessFlags := 25, nameIndex := 361, descriptorIndex := 339, attributes := #[] }, { accessFlags := 26, nameIndex := 364, descriptorIndex := 339, attributes := #[] }, { accessFlags := 26, nameIndex := 365, descriptorIndex := 339, attributes := #[] }, { accessFlags := 26, nameIndex := 172, descriptorIndex := 173, attributes := #[] }, { accessFlags := 26, nameIndex := 176, descriptorIndex := 173, attributes := #[] }, { accessFlags := 8, nameIndex := 344, descriptorIndex := 339, attributes := #[] }, { accessFlags := 8, nameIndex := 338, descriptorIndex := 339, attributes := #[] }, { accessFlags := 4120, nameIndex := 245, descriptorIndex := 246, attributes := #[] }])
  fields := #[{ name := "E", type := .double, accessFlags := 25, slot := 0, constantValue := 0 }, { name := "PI", type := .double, accessFlags := 25, slot := 1, constantValue := 0 }, { name := "TAU", type := .double, accessFlags := 25, slot := 2, constantValue := 0 }, { name := "DEGREES_TO_RADIANS", type := .double, accessFlags := 26, slot := 3, constantValue := 0 }, { name := "RADIANS_TO_DEGREES", type := .double, accessFlags := 26, slot := 4, constantValue := 0 }, { name := "negativeZeroFloatBits", type := .long, accessFlags := 26, slot := 5, constantValue := 0 }, { name := "negativeZeroDoubleBits", type := .long, accessFlags := 26, slot := 6, constantValue := 0 }, { name := "twoToTheDoubleScaleUp", type := .double, accessFlags := 8, slot := 7, constantValue := 0 }, { name := "twoToTheDoubleScaleDown", type := .double, accessFlags := 8, slot := 8, constantValue := 0 }, { name := "$assertionsDisabled", type := .boolean, accessFlags := 4120, slot := 9, constantValue := 0 }]
  methods := #[k14m0, k14m1, k14m2]
  instanceTypes := #[]
  staticTypes := #[.double, .double, .double, .double, .double, .long, .long, .double, .double, .boolean]
  resolved := Array.replicate 460 none
  statics := none }

/-- the primitive byte -/
def k15 : Class := { plain "byte" none with kind := .primitive 'B', accessFlags := 0x411 }
/-- [B -/
def k16 : Class := { plain "[B" (some 0) with kind := .array 15 .byte, interfaces := #[11, 12], accessFlags := 1041 }

/-- the primitive int -/
def k17 : Class := { plain "int" none with kind := .primitive 'I', accessFlags := 0x411 }
/-- [I -/
def k18 : Class := { plain "[I" (some 0) with kind := .array 17 .int, interfaces := #[11, 12], accessFlags := 1041 }

/-- [Ljava/lang/Object; -/
def k19 : Class := { plain "[Ljava/lang/Object;" (some 0) with kind := .array 0 (.object "java/lang/Object"), interfaces := #[11, 12], accessFlags := 1041 }

def heap : Heap := #[{ cls := 13, slots := #[.long 0, .int 0, .ref 1, .ref 2], vm := .statics 13 },
  { cls := 19, slots := #[], vm := .none },
  { cls := 19, slots := #[], vm := .none }]
def classes : Array Class := #[k0, k1, k2, k3, k4, k5, k6, k7, k8, k9, k10, k11, k12, k13, k14, k15, k16, k17, k18, k19]
def interned : List (Array UInt16 × Addr) := []
def slotsUsed : Nat := 4
def theMethod : MethodId := ⟨1, 1⟩
def args0 : Array Value := #[.long 5, .long 9, .long 7, .long 12]
def aboutOver (below : List Frame) : State where
  vm := { classes := classes, interned := interned.toArray }
  heap := heap
  slotsUsed := slotsUsed
  threads := #[{ frames := .invoking theMethod args0 :: below }]
def below0 : List Frame := [.native { method := ⟨0, 0⟩, args := #[] }]
def about1 : State := aboutOver below0
def p0 : Program := .bare "" "" ""
def e0 : Env := launch0.env 0 0 0
theorem w_frames : about1.frames = Frame.invoking theMethod args0 :: below0 := rfl
set_option maxRecDepth 65536 in
theorem w_args : argsFit about1.vm theMethod args0 = true := by decide +kernel
set_option maxRecDepth 65536 in
theorem w_heap : heapFits about1 = true := by decide +kernel
set_option maxRecDepth 65536 in
theorem w_runnable : about1.curStatus? = some .runnable := by decide +kernel
set_option maxRecDepth 65536 in
theorem w_alone : about1.alone = true := by decide +kernel
set_option maxRecDepth 65536 in
theorem w_named : about1.methodNamed? x = some theMethod := by decide +kernel
set_option maxRecDepth 65536 in
theorem w_hears : about1.hears theMethod below0 = true := by decide +kernel
set_option maxRecDepth 65536 in
theorem w_ripe : about1.ripe theMethod args0 below0 = true := by decide +kernel
theorem w_running : about1.status = .running := rfl
set_option maxRecDepth 65536 in
theorem w_room : about1.hasRoom e0.platform room_1 = true :=
  launch0.hasRoom_least _ room_1 (by decide +kernel) (by decide +kernel) (by decide +kernel) (by decide +kernel) (by decide +kernel) (by decide +kernel)
theorem allAtoms_all (ts : List Jvm.Cond) (a : Array Jvm.Value) (st : Jvm.State) : (allAtoms ts).before a st = ts.all (fun c => c.before a st) := by
  induction ts with
  | nil => rfl
  | cons c t ih =>
    show (Jvm.Cond.and c (allAtoms t)).before a st = _
    rw [Jvm.Cond.before_and, ih, List.all_cons]
def words1 : List Jvm.Cond := Jvm.Cond.code x code maxLocals ret :: tables_1
/-- a 'code' word, met by the world's own term for the bytes: nothing is compared byte by byte -/
theorem code_word {y : MethodName} {bytes : ByteArray} {mx : Nat} {rt : Option FieldType} {a : Array Value} {s : State} {m : MethodId} {meth : Method} {c : Code} (h1 : s.methodNamed? y = some m) (h2 : s.vm.method? m = some meth) (h3 : meth.code = some c) (h4 : c.code = bytes)
    (h5 : (c.maxLocals == mx && c.exceptionTable.isEmpty && decide (c.maxStack ≤ mostOperands) && decide (meth.sig.returnType = rt) && !meth.locks && decide (parseMethodDescriptor y.desc = some meth.sig)) = true) : (Jvm.Cond.code y bytes mx rt).before a s = true := by
  simp only [Bool.and_eq_true, beq_iff_eq, Bool.not_eq_true', decide_eq_true_eq] at h5
  obtain ⟨⟨⟨⟨⟨g1, g2⟩, g3⟩, g4⟩, g5⟩, g6⟩ := h5
  simp [Cond.before, Cond.holds, Cond.value, h1, h2, h3, h4, g1, g2, g3, g4, g5, g6]
def isCode : Jvm.Cond → Bool
  | .code _ _ _ _ => true
  | _ => false
theorem all_split {L : List Jvm.Cond} {P : Jvm.Cond → Bool} (h1 : L.all (fun c => isCode c || P c) = true) (h2 : ∀ c ∈ L.filter isCode, P c = true) : L.all P = true := by
  refine List.all_eq_true.mpr fun c hc => ?_
  have h := List.all_eq_true.mp h1 c hc
  rcases Bool.eq_false_or_eq_true (isCode c) with hi | hi
  · exact h2 c (List.mem_filter.mpr ⟨hc, hi⟩)
  · simpa [hi] using h
set_option maxRecDepth 65536 in
theorem w_c0 : (Jvm.Cond.code x code maxLocals ret).before args0 about1 = true := code_word (m := ⟨1, 1⟩) (meth := k1m1) (c := k1c1) (by decide +kernel) rfl rfl rfl (by decide +kernel)
set_option maxRecDepth 65536 in
theorem w_c1 : (Jvm.Cond.code ({ cls := "java/util/ArrayList", name := "<init>", desc := "()V" } : Jvm.MethodName) jdk_38_method_2_code (1 : Nat) (Option.none : Option Jvm.ClassFile.FieldType)).before args0 about1 = true := code_word (m := ⟨13, 0⟩) (meth := k13m0) (c := k13c0) (by decide +kernel) rfl rfl rfl (by decide +kernel)
set_option maxRecDepth 65536 in
theorem w_c2 : (Jvm.Cond.code ({ cls := "java/util/AbstractList", name := "<init>", desc := "()V" } : Jvm.MethodName) jdk_39_method_1_code (1 : Nat) (Option.none : Option Jvm.ClassFile.FieldType)).before args0 about1 = true := code_word (m := ⟨9, 0⟩) (meth := k9m0) (c := k9c0) (by decide +kernel) rfl rfl rfl (by decide +kernel)
set_option maxRecDepth 65536 in
theorem w_c3 : (Jvm.Cond.code ({ cls := "java/util/AbstractCollection", name := "<init>", desc := "()V" } : Jvm.MethodName) jdk_22_method_1_code (1 : Nat) (Option.none : Option Jvm.ClassFile.FieldType)).before args0 about1 = true := code_word (m := ⟨6, 0⟩) (meth := k6m0) (c := k6c0) (by decide +kernel) rfl rfl rfl (by decide +kernel)
set_option maxRecDepth 65536 in
theorem w_c4 : (Jvm.Cond.code ({ cls := "java/lang/Object", name := "<init>", desc := "()V" } : Jvm.MethodName) object_method_1_code (1 : Nat) (Option.none : Option Jvm.ClassFile.FieldType)).before args0 about1 = true := code_word (m := ⟨0, 0⟩) (meth := k0m0) (c := k0c0) (by decide +kernel) rfl rfl rfl (by decide +kernel)
set_option maxRecDepth 65536 in
theorem w_c5 : (Jvm.Cond.code ({ cls := "com/example/holdfast/holdfast/SlurmLayout$Taken", name := "<init>", desc := "(Ljava/util/Collection;JJ)V" } : Jvm.MethodName) prog_152_method_1_code (6 : Nat) (Option.none : Option Jvm.ClassFile.FieldType)).before args0 about1 = true := code_word (m := ⟨3, 0⟩) (meth := k3m0) (c := k3c0) (by decide +kernel) rfl rfl rfl (by decide +kernel)
set_option maxRecDepth 65536 in
theorem w_c6 : (Jvm.Cond.code ({ cls := "java/lang/Record", name := "<init>", desc := "()V" } : Jvm.MethodName) jdk_30_method_1_code (1 : Nat) (Option.none : Option Jvm.ClassFile.FieldType)).before args0 about1 = true := code_word (m := ⟨2, 0⟩) (meth := k2m0) (c := k2c0) (by decide +kernel) rfl rfl rfl (by decide +kernel)
set_option maxRecDepth 65536 in
theorem w_c7 : (Jvm.Cond.code ({ cls := "com/example/holdfast/holdfast/SlurmLayout$Taken", name := "during", desc := "(JJ)Z" } : Jvm.MethodName) prog_152_method_2_code (5 : Nat) (Option.some Jvm.ClassFile.FieldType.boolean)).before args0 about1 = true := code_word (m := ⟨3, 1⟩) (meth := k3m1) (c := k3c1) (by decide +kernel) rfl rfl rfl (by decide +kernel)
set_option maxRecDepth 65536 in
theorem w_c8 : (Jvm.Cond.code ({ cls := "java/lang/Math", name := "max", desc := "(JJ)J" } : Jvm.MethodName) jdk_29_method_66_code (4 : Nat) (Option.some Jvm.ClassFile.FieldType.long)).before args0 about1 = true := code_word (m := ⟨14, 1⟩) (meth := k14m1) (c := k14c1) (by decide +kernel) rfl rfl rfl (by decide +kernel)
set_option maxRecDepth 65536 in
theorem w_c9 : (Jvm.Cond.code ({ cls := "java/lang/Math", name := "min", desc := "(JJ)J" } : Jvm.MethodName) jdk_29_method_70_code (4 : Nat) (Option.some Jvm.ClassFile.FieldType.long)).before args0 about1 = true := code_word (m := ⟨14, 2⟩) (meth := k14m2) (c := k14c2) (by decide +kernel) rfl rfl rfl (by decide +kernel)
def codes1 : List Jvm.Cond := [Jvm.Cond.code x code maxLocals ret, Jvm.Cond.code ({ cls := "java/util/ArrayList", name := "<init>", desc := "()V" } : Jvm.MethodName) jdk_38_method_2_code (1 : Nat) (Option.none : Option Jvm.ClassFile.FieldType), Jvm.Cond.code ({ cls := "java/util/AbstractList", name := "<init>", desc := "()V" } : Jvm.MethodName) jdk_39_method_1_code (1 : Nat) (Option.none : Option Jvm.ClassFile.FieldType), Jvm.Cond.code ({ cls := "java/util/AbstractCollection", name := "<init>", desc := "()V" } : Jvm.MethodName) jdk_22_method_1_code (1 : Nat) (Option.none : Option Jvm.ClassFile.FieldType), Jvm.Cond.code ({ cls := "java/lang/Object", name := "<init>", desc := "()V" } : Jvm.MethodName) object_method_1_code (1 : Nat) (Option.none : Option Jvm.ClassFile.FieldType), Jvm.Cond.code ({ cls := "com/example/holdfast/holdfast/SlurmLayout$Taken", name := "<init>", desc := "(Ljava/util/Collection;JJ)V" } : Jvm.MethodName) prog_152_method_1_code (6 : Nat) (Option.none : Option Jvm.ClassFile.FieldType), Jvm.Cond.code ({ cls := "java/lang/Record", name := "<init>", desc := "()V" } : Jvm.MethodName) jdk_30_method_1_code (1 : Nat) (Option.none : Option Jvm.ClassFile.FieldType), Jvm.Cond.code ({ cls := "com/example/holdfast/holdfast/SlurmLayout$Taken", name := "during", desc := "(JJ)Z" } : Jvm.MethodName) prog_152_method_2_code (5 : Nat) (Option.some Jvm.ClassFile.FieldType.boolean), Jvm.Cond.code ({ cls := "java/lang/Math", name := "max", desc := "(JJ)J" } : Jvm.MethodName) jdk_29_method_66_code (4 : Nat) (Option.some Jvm.ClassFile.FieldType.long), Jvm.Cond.code ({ cls := "java/lang/Math", name := "min", desc := "(JJ)J" } : Jvm.MethodName) jdk_29_method_70_code (4 : Nat) (Option.some Jvm.ClassFile.FieldType.long)]
set_option maxRecDepth 65536 in
theorem codes_eq : words1.filter isCode = codes1 := rfl
theorem w_codes : ∀ c ∈ words1.filter isCode, c.before args0 about1 = true := by
  rw [codes_eq]
  intro c hc
  simp only [codes1, List.mem_cons, List.not_mem_nil, or_false] at hc
  rcases hc with rfl | rfl | rfl | rfl | rfl | rfl | rfl | rfl | rfl | rfl
  · exact w_c0
  · exact w_c1
  · exact w_c2
  · exact w_c3
  · exact w_c4
  · exact w_c5
  · exact w_c6
  · exact w_c7
  · exact w_c8
  · exact w_c9
set_option maxRecDepth 65536 in
theorem w_t1 : (words1.take 24).all (fun c => isCode c || c.before args0 about1) = true := by decide +kernel
set_option maxRecDepth 65536 in
theorem w_t2 : ((words1.drop 24).take 24).all (fun c => isCode c || c.before args0 about1) = true := by decide +kernel
set_option maxRecDepth 65536 in
theorem w_t3 : ((words1.drop 24).drop 24).all (fun c => isCode c || c.before args0 about1) = true := by decide +kernel
theorem w_tables : (allAtoms (Jvm.Cond.code x code maxLocals ret :: tables_1)).before args0 about1 = true := by
  rw [allAtoms_all]
  show words1.all (fun c => c.before args0 about1) = true
  refine all_split ?_ w_codes
  rw [← List.take_append_drop 24 words1, List.all_append, w_t1, ← List.take_append_drop 24 (words1.drop 24), List.all_append, w_t2, w_t3]
  rfl
set_option maxRecDepth 65536 in
theorem w_rest : rest_1_c.before args0 about1 = true := by decide +kernel
set_option maxRecDepth 65536 in
theorem w_case : (Jvm.Cond.and given_1 narrow_1).before args0 about1 = true := by decide +kernel
theorem w_applies : (headSpec (Jvm.Cond.code x code maxLocals ret :: tables_1) room_1).applies x e0.platform about1 = true :=
  (Spec.applies_iff w_frames).mpr ⟨w_running, w_runnable, w_alone, w_named, w_hears, w_ripe, w_room, w_tables⟩
theorem atStart : AtStart classFile x code maxLocals ret World_1 tables_1 room_1 Calls_1 rest_1 Pre_1 launch0 p0 e0 about1 theMethod args0 below0 :=
  ⟨lists_1, trivial, launch0.admits_env _ _ _, launch0.least_env, fairChoices_fair.cas, fairChoices_fair.clock, w_frames, w_args, w_heap, w_applies, trivial, w_rest, w_case⟩
end start1
theorem witness_1 : WitnessClaimed_1 := ⟨start1.p0, start1.e0, start1.about1, start1.theMethod, start1.args0, start1.below0, start1.atStart⟩
end Jvm.Pilot.@@N@@
