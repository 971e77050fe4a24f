import JvmDerived
import JvmDerived.Pilot.@@N@@Statement
import JvmDerived.Pilot.@@N@@Code
set_option linter.unusedVariables false
set_option linter.unusedSimpArgs false
namespace Jvm.Pilot.@@N@@
open Jvm Jvm.ClassFile Sem Op Lib Jvm.Free Jvm.Stand Jvm.LawKit Jvm.RoadKit Bundle Jvm.Pilot.@@N@@.Jvm.D
section OwnWalk
/-- what a walk still owes from where it stands -/
def Go (p : Program) (e : Env) (below : List Frame) (Q : Outcome → State → Prop) (T : State) (g : JFrame) : Prop :=
  ∃ s₂ o, Steps p.tables e below (T.setTop g) s₂ ∧ s₂.status = .running ∧ Ended s₂ below o ∧ Q o s₂
/-- what a body owes at its end -/
def Qend (s : State) (Qf : Option Value → Heap → List Loc → Prop) (kc ks : Nat) (o : Outcome) (U : State) : Prop :=
  ∃ v L, o = .returned v ∧ Qf v U.heap L ∧ FrameEnd s o U L kc ks
variable {p : Program} {l : Launch} {e : Env} {R : Room} {s : State} {m : MethodId} {args : Array Value} {below : List Frame} {meth : Method} {c : Code} {T : State} {locs : List Loc} {cells slots : Nat} {Q : Outcome → State → Prop} {pc : Nat} {Ls : Array Slot} {rest : List Value}
theorem Go.step {T' : State} {g g' : JFrame} (k : ∀ t, Steps p.tables e below (T'.setTop g') t → Steps p.tables e below (T.setTop g) t) (h : Go p e below Q T' g') : Go p e below Q T g := by
  obtain ⟨t, o, h1, h2⟩ := h
  exact ⟨t, o, k t h1, h2⟩
theorem Go.cast {g g' : JFrame} (q : g = g') (h : Go p e below Q T g') : Go p e below Q T g := q ▸ h
theorem g_iadd (X : Stand p l e R s m args below meth c T locs cells slots) (hx : p.tables.exec = Jvm.exec) {x y : Int32} (pc' : Nat) (hd : decode c.code pc = .ok (.iadd, 1))  (hp : pc + 1 = pc')
    (k : Go p e below Q T (mkF m pc' Ls (.int (x + y) :: rest))) : Go p e below Q T (mkF m pc Ls (.int y :: .int x :: rest)) := by
  subst hp; exact Go.step (fun t k => XS.iadd X.here hx rfl hd rfl k) k
theorem g_isub (X : Stand p l e R s m args below meth c T locs cells slots) (hx : p.tables.exec = Jvm.exec) {x y : Int32} (pc' : Nat) (hd : decode c.code pc = .ok (.isub, 1))  (hp : pc + 1 = pc')
    (k : Go p e below Q T (mkF m pc' Ls (.int (x - y) :: rest))) : Go p e below Q T (mkF m pc Ls (.int y :: .int x :: rest)) := by
  subst hp; exact Go.step (fun t k => XS.isub X.here hx rfl hd rfl k) k
theorem g_imul (X : Stand p l e R s m args below meth c T locs cells slots) (hx : p.tables.exec = Jvm.exec) {x y : Int32} (pc' : Nat) (hd : decode c.code pc = .ok (.imul, 1))  (hp : pc + 1 = pc')
    (k : Go p e below Q T (mkF m pc' Ls (.int (x * y) :: rest))) : Go p e below Q T (mkF m pc Ls (.int y :: .int x :: rest)) := by
  subst hp; exact Go.step (fun t k => XS.imul X.here hx rfl hd rfl k) k
theorem g_iand (X : Stand p l e R s m args below meth c T locs cells slots) (hx : p.tables.exec = Jvm.exec) {x y : Int32} (pc' : Nat) (hd : decode c.code pc = .ok (.iand, 1))  (hp : pc + 1 = pc')
    (k : Go p e below Q T (mkF m pc' Ls (.int (x &&& y) :: rest))) : Go p e below Q T (mkF m pc Ls (.int y :: .int x :: rest)) := by
  subst hp; exact Go.step (fun t k => XS.iand X.here hx rfl hd rfl k) k
theorem g_ior (X : Stand p l e R s m args below meth c T locs cells slots) (hx : p.tables.exec = Jvm.exec) {x y : Int32} (pc' : Nat) (hd : decode c.code pc = .ok (.ior, 1))  (hp : pc + 1 = pc')
    (k : Go p e below Q T (mkF m pc' Ls (.int (x ||| y) :: rest))) : Go p e below Q T (mkF m pc Ls (.int y :: .int x :: rest)) := by
  subst hp; exact Go.step (fun t k => XS.ior X.here hx rfl hd rfl k) k
theorem g_ixor (X : Stand p l e R s m args below meth c T locs cells slots) (hx : p.tables.exec = Jvm.exec) {x y : Int32} (pc' : Nat) (hd : decode c.code pc = .ok (.ixor, 1))  (hp : pc + 1 = pc')
    (k : Go p e below Q T (mkF m pc' Ls (.int (x ^^^ y) :: rest))) : Go p e below Q T (mkF m pc Ls (.int y :: .int x :: rest)) := by
  subst hp; exact Go.step (fun t k => XS.ixor X.here hx rfl hd rfl k) k
theorem g_ishl (X : Stand p l e R s m args below meth c T locs cells slots) (hx : p.tables.exec = Jvm.exec) {x y : Int32} (pc' : Nat) (hd : decode c.code pc = .ok (.ishl, 1))  (hp : pc + 1 = pc')
    (k : Go p e below Q T (mkF m pc' Ls (.int (x <<< (y &&& 31)) :: rest))) : Go p e below Q T (mkF m pc Ls (.int y :: .int x :: rest)) := by
  subst hp; exact Go.step (fun t k => XS.ishl X.here hx rfl hd rfl k) k
theorem g_ishr (X : Stand p l e R s m args below meth c T locs cells slots) (hx : p.tables.exec = Jvm.exec) {x y : Int32} (pc' : Nat) (hd : decode c.code pc = .ok (.ishr, 1))  (hp : pc + 1 = pc')
    (k : Go p e below Q T (mkF m pc' Ls (.int (x >>> (y &&& 31)) :: rest))) : Go p e below Q T (mkF m pc Ls (.int y :: .int x :: rest)) := by
  subst hp; exact Go.step (fun t k => XS.ishr X.here hx rfl hd rfl k) k
theorem g_iushr (X : Stand p l e R s m args below meth c T locs cells slots) (hx : p.tables.exec = Jvm.exec) {x y : Int32} (pc' : Nat) (hd : decode c.code pc = .ok (.iushr, 1))  (hp : pc + 1 = pc')
    (k : Go p e below Q T (mkF m pc' Ls (.int ((x.toUInt32 >>> (y &&& 31).toUInt32).toInt32) :: rest))) : Go p e below Q T (mkF m pc Ls (.int y :: .int x :: rest)) := by
  subst hp; exact Go.step (fun t k => XS.iushr X.here hx rfl hd rfl k) k
theorem g_irem (X : Stand p l e R s m args below meth c T locs cells slots) (hx : p.tables.exec = Jvm.exec) {x y : Int32} (pc' : Nat) (hd : decode c.code pc = .ok (.irem, 1)) (hy : y ≠ 0) (hp : pc + 1 = pc')
    (k : Go p e below Q T (mkF m pc' Ls (.int (x % y) :: rest))) : Go p e below Q T (mkF m pc Ls (.int y :: .int x :: rest)) := by
  subst hp; exact Go.step (fun t k => iremM X hx rfl hd rfl hy k) k
theorem g_idiv (X : Stand p l e R s m args below meth c T locs cells slots) (hx : p.tables.exec = Jvm.exec) {x y : Int32} (pc' : Nat) (hd : decode c.code pc = .ok (.idiv, 1)) (hy : y ≠ 0) (hp : pc + 1 = pc')
    (k : Go p e below Q T (mkF m pc' Ls (.int (x / y) :: rest))) : Go p e below Q T (mkF m pc Ls (.int y :: .int x :: rest)) := by
  subst hp; exact Go.step (fun t k => XS.idiv X.here hx rfl hd rfl hy k) k
theorem g_ladd (X : Stand p l e R s m args below meth c T locs cells slots) (hx : p.tables.exec = Jvm.exec) {x y : Int64} (pc' : Nat) (hd : decode c.code pc = .ok (.ladd, 1))  (hp : pc + 1 = pc')
    (k : Go p e below Q T (mkF m pc' Ls (.long (x + y) :: rest))) : Go p e below Q T (mkF m pc Ls (.long y :: .long x :: rest)) := by
  subst hp; exact Go.step (fun t k => XS.ladd X.here hx rfl hd rfl k) k
theorem g_lsub (X : Stand p l e R s m args below meth c T locs cells slots) (hx : p.tables.exec = Jvm.exec) {x y : Int64} (pc' : Nat) (hd : decode c.code pc = .ok (.lsub, 1))  (hp : pc + 1 = pc')
    (k : Go p e below Q T (mkF m pc' Ls (.long (x - y) :: rest))) : Go p e below Q T (mkF m pc Ls (.long y :: .long x :: rest)) := by
  subst hp; exact Go.step (fun t k => XS.lsub X.here hx rfl hd rfl k) k
theorem g_lmul (X : Stand p l e R s m args below meth c T locs cells slots) (hx : p.tables.exec = Jvm.exec) {x y : Int64} (pc' : Nat) (hd : decode c.code pc = .ok (.lmul, 1))  (hp : pc + 1 = pc')
    (k : Go p e below Q T (mkF m pc' Ls (.long (x * y) :: rest))) : Go p e below Q T (mkF m pc Ls (.long y :: .long x :: rest)) := by
  subst hp; exact Go.step (fun t k => XS.lmul X.here hx rfl hd rfl k) k
theorem g_land (X : Stand p l e R s m args below meth c T locs cells slots) (hx : p.tables.exec = Jvm.exec) {x y : Int64} (pc' : Nat) (hd : decode c.code pc = .ok (.land, 1))  (hp : pc + 1 = pc')
    (k : Go p e below Q T (mkF m pc' Ls (.long (x &&& y) :: rest))) : Go p e below Q T (mkF m pc Ls (.long y :: .long x :: rest)) := by
  subst hp; exact Go.step (fun t k => XS.land X.here hx rfl hd rfl k) k
theorem g_lor (X : Stand p l e R s m args below meth c T locs cells slots) (hx : p.tables.exec = Jvm.exec) {x y : Int64} (pc' : Nat) (hd : decode c.code pc = .ok (.lor, 1))  (hp : pc + 1 = pc')
    (k : Go p e below Q T (mkF m pc' Ls (.long (x ||| y) :: rest))) : Go p e below Q T (mkF m pc Ls (.long y :: .long x :: rest)) := by
  subst hp; exact Go.step (fun t k => XS.lor X.here hx rfl hd rfl k) k
theorem g_lxor (X : Stand p l e R s m args below meth c T locs cells slots) (hx : p.tables.exec = Jvm.exec) {x y : Int64} (pc' : Nat) (hd : decode c.code pc = .ok (.lxor, 1))  (hp : pc + 1 = pc')
    (k : Go p e below Q T (mkF m pc' Ls (.long (x ^^^ y) :: rest))) : Go p e below Q T (mkF m pc Ls (.long y :: .long x :: rest)) := by
  subst hp; exact Go.step (fun t k => XS.lxor X.here hx rfl hd rfl k) k
theorem g_ldiv (X : Stand p l e R s m args below meth c T locs cells slots) (hx : p.tables.exec = Jvm.exec) {x y : Int64} (pc' : Nat) (hd : decode c.code pc = .ok (.ldiv, 1)) (hy : y ≠ 0) (hp : pc + 1 = pc')
    (k : Go p e below Q T (mkF m pc' Ls (.long (x / y) :: rest))) : Go p e below Q T (mkF m pc Ls (.long y :: .long x :: rest)) := by
  subst hp; exact Go.step (fun t k => XS.ldiv X.here hx rfl hd rfl hy k) k
theorem g_lshl (X : Stand p l e R s m args below meth c T locs cells slots) (hx : p.tables.exec = Jvm.exec) {x : Int64} {y : Int32} (pc' : Nat) (hd : decode c.code pc = .ok (.lshl, 1))  (hp : pc + 1 = pc')
    (k : Go p e below Q T (mkF m pc' Ls (.long (x <<< (y &&& 0x3f).toInt64) :: rest))) : Go p e below Q T (mkF m pc Ls (.int y :: .long x :: rest)) := by
  subst hp; exact Go.step (fun t k => XS.lshl X.here hx rfl hd rfl k) k
theorem g_lshr (X : Stand p l e R s m args below meth c T locs cells slots) (hx : p.tables.exec = Jvm.exec) {x : Int64} {y : Int32} (pc' : Nat) (hd : decode c.code pc = .ok (.lshr, 1))  (hp : pc + 1 = pc')
    (k : Go p e below Q T (mkF m pc' Ls (.long (x >>> (y &&& 0x3f).toInt64) :: rest))) : Go p e below Q T (mkF m pc Ls (.int y :: .long x :: rest)) := by
  subst hp; exact Go.step (fun t k => XS.lshr X.here hx rfl hd rfl k) k
theorem g_lushr (X : Stand p l e R s m args below meth c T locs cells slots) (hx : p.tables.exec = Jvm.exec) {x : Int64} {y : Int32} (pc' : Nat) (hd : decode c.code pc = .ok (.lushr, 1))  (hp : pc + 1 = pc')
    (k : Go p e below Q T (mkF m pc' Ls (.long ((x.toUInt64 >>> (y &&& 0x3f).toInt64.toUInt64).toInt64) :: rest))) : Go p e below Q T (mkF m pc Ls (.int y :: .long x :: rest)) := by
  subst hp; exact Go.step (fun t k => XS.lushr X.here hx rfl hd rfl k) k
theorem g_i2b (X : Stand p l e R s m args below meth c T locs cells slots) (hx : p.tables.exec = Jvm.exec) {x : Int32} (pc' : Nat) (hd : decode c.code pc = .ok (.i2b, 1))  (hp : pc + 1 = pc')
    (k : Go p e below Q T (mkF m pc' Ls (.int (x.toInt8.toInt32) :: rest))) : Go p e below Q T (mkF m pc Ls (.int x :: rest)) := by
  subst hp; exact Go.step (fun t k => XS.i2b X.here hx rfl hd rfl k) k
theorem g_i2c (X : Stand p l e R s m args below meth c T locs cells slots) (hx : p.tables.exec = Jvm.exec) {x : Int32} (pc' : Nat) (hd : decode c.code pc = .ok (.i2c, 1))  (hp : pc + 1 = pc')
    (k : Go p e below Q T (mkF m pc' Ls (.int (x.toUInt32.toUInt16.toUInt32.toInt32) :: rest))) : Go p e below Q T (mkF m pc Ls (.int x :: rest)) := by
  subst hp; exact Go.step (fun t k => XS.i2c X.here hx rfl hd rfl k) k
theorem g_i2s (X : Stand p l e R s m args below meth c T locs cells slots) (hx : p.tables.exec = Jvm.exec) {x : Int32} (pc' : Nat) (hd : decode c.code pc = .ok (.i2s, 1))  (hp : pc + 1 = pc')
    (k : Go p e below Q T (mkF m pc' Ls (.int (x.toInt16.toInt32) :: rest))) : Go p e below Q T (mkF m pc Ls (.int x :: rest)) := by
  subst hp; exact Go.step (fun t k => XS.i2s X.here hx rfl hd rfl k) k
theorem g_i2l (X : Stand p l e R s m args below meth c T locs cells slots) (hx : p.tables.exec = Jvm.exec) {x : Int32} (pc' : Nat) (hd : decode c.code pc = .ok (.i2l, 1))  (hp : pc + 1 = pc')
    (k : Go p e below Q T (mkF m pc' Ls (.long (x.toInt64) :: rest))) : Go p e below Q T (mkF m pc Ls (.int x :: rest)) := by
  subst hp; exact Go.step (fun t k => XS.i2l X.here hx rfl hd rfl k) k
theorem g_l2i (X : Stand p l e R s m args below meth c T locs cells slots) (hx : p.tables.exec = Jvm.exec) {x : Int64} (pc' : Nat) (hd : decode c.code pc = .ok (.l2i, 1))  (hp : pc + 1 = pc')
    (k : Go p e below Q T (mkF m pc' Ls (.int (x.toInt32) :: rest))) : Go p e below Q T (mkF m pc Ls (.long x :: rest)) := by
  subst hp; exact Go.step (fun t k => XS.l2i X.here hx rfl hd rfl k) k
theorem g_ineg (X : Stand p l e R s m args below meth c T locs cells slots) (hx : p.tables.exec = Jvm.exec) {x : Int32} (pc' : Nat) (hd : decode c.code pc = .ok (.ineg, 1))  (hp : pc + 1 = pc')
    (k : Go p e below Q T (mkF m pc' Ls (.int (-x) :: rest))) : Go p e below Q T (mkF m pc Ls (.int x :: rest)) := by
  subst hp; exact Go.step (fun t k => XS.ineg X.here hx rfl hd rfl k) k
theorem g_lneg (X : Stand p l e R s m args below meth c T locs cells slots) (hx : p.tables.exec = Jvm.exec) {x : Int64} (pc' : Nat) (hd : decode c.code pc = .ok (.lneg, 1))  (hp : pc + 1 = pc')
    (k : Go p e below Q T (mkF m pc' Ls (.long (-x) :: rest))) : Go p e below Q T (mkF m pc Ls (.long x :: rest)) := by
  subst hp; exact Go.step (fun t k => XS.lneg X.here hx rfl hd rfl k) k
theorem g_lcmp (X : Stand p l e R s m args below meth c T locs cells slots) (hx : p.tables.exec = Jvm.exec) {x y : Int64} (pc' : Nat) (hd : decode c.code pc = .ok (.lcmp, 1))  (hp : pc + 1 = pc')
    (k : Go p e below Q T (mkF m pc' Ls (.int (Jvm.Free.XT.cmpL x y) :: rest))) : Go p e below Q T (mkF m pc Ls (.long y :: .long x :: rest)) := by
  subst hp; exact Go.step (fun t k => Jvm.Free.XT.lcmp X.here hx rfl hd rfl k) k
theorem g_iloadN (X : Stand p l e R s m args below meth c T locs cells slots) (hx : p.tables.exec = Jvm.exec) {k' : Fin 4} {v : Int32} (pc' : Nat) (hd : decode c.code pc = .ok (.iload_n k', 1)) (hl : Ls[k'.val]? = some (.val (.int v))) (hp : pc + 1 = pc')
    (k : Go p e below Q T (mkF m pc' Ls (.int v :: rest))) : Go p e below Q T (mkF m pc Ls (rest)) := by
  subst hp; exact Go.step (fun t k => XS.iloadN X.here hx rfl hd hl k) k
theorem g_iload (X : Stand p l e R s m args below meth c T locs cells slots) (hx : p.tables.exec = Jvm.exec) {k' : Nat} {v : Int32} (pc' : Nat) (hd : decode c.code pc = .ok (.iload k', 2)) (hl : Ls[k']? = some (.val (.int v))) (hp : pc + 2 = pc')
    (k : Go p e below Q T (mkF m pc' Ls (.int v :: rest))) : Go p e below Q T (mkF m pc Ls (rest)) := by
  subst hp; exact Go.step (fun t k => XS.iload X.here hx rfl hd hl k) k
theorem g_lloadN (X : Stand p l e R s m args below meth c T locs cells slots) (hx : p.tables.exec = Jvm.exec) {k' : Fin 4} {v : Int64} (pc' : Nat) (hd : decode c.code pc = .ok (.lload_n k', 1)) (hl : Ls[k'.val]? = some (.val (.long v))) (hp : pc + 1 = pc')
    (k : Go p e below Q T (mkF m pc' Ls (.long v :: rest))) : Go p e below Q T (mkF m pc Ls (rest)) := by
  subst hp; exact Go.step (fun t k => XS.lloadN X.here hx rfl hd hl k) k
theorem g_lload (X : Stand p l e R s m args below meth c T locs cells slots) (hx : p.tables.exec = Jvm.exec) {k' : Nat} {v : Int64} (pc' : Nat) (hd : decode c.code pc = .ok (.lload k', 2)) (hl : Ls[k']? = some (.val (.long v))) (hp : pc + 2 = pc')
    (k : Go p e below Q T (mkF m pc' Ls (.long v :: rest))) : Go p e below Q T (mkF m pc Ls (rest)) := by
  subst hp; exact Go.step (fun t k => XS.lload X.here hx rfl hd hl k) k
theorem g_aloadN (X : Stand p l e R s m args below meth c T locs cells slots) (hx : p.tables.exec = Jvm.exec) {k' : Fin 4} {v : Value} (pc' : Nat) (hd : decode c.code pc = .ok (.aload_n k', 1)) (hl : Ls[k'.val]? = some (.val v)) (hv : v.isRef = true) (hp : pc + 1 = pc')
    (k : Go p e below Q T (mkF m pc' Ls (v :: rest))) : Go p e below Q T (mkF m pc Ls (rest)) := by
  subst hp; exact Go.step (fun t k => XS.aloadN X.here hx rfl hd hl hv k) k
theorem g_aload (X : Stand p l e R s m args below meth c T locs cells slots) (hx : p.tables.exec = Jvm.exec) {k' : Nat} {v : Value} (pc' : Nat) (hd : decode c.code pc = .ok (.aload k', 2)) (hl : Ls[k']? = some (.val v)) (hv : v.isRef = true) (hp : pc + 2 = pc')
    (k : Go p e below Q T (mkF m pc' Ls (v :: rest))) : Go p e below Q T (mkF m pc Ls (rest)) := by
  subst hp; exact Go.step (fun t k => XS.aload X.here hx rfl hd hl hv k) k
theorem g_istoreN (X : Stand p l e R s m args below meth c T locs cells slots) (hx : p.tables.exec = Jvm.exec) {k' : Fin 4} {x : Int32} (pc' : Nat) (hd : decode c.code pc = .ok (.istore_n k', 1)) (Ls' : Array Slot) (hl : storeLocals Ls k'.val (.int x) = some Ls') (hp : pc + 1 = pc')
    (k : Go p e below Q T (mkF m pc' Ls' (rest))) : Go p e below Q T (mkF m pc Ls (.int x :: rest)) := by
  subst hp; exact Go.step (fun t k => XS.istoreN X.here hx rfl hd rfl hl k) k
theorem g_istore (X : Stand p l e R s m args below meth c T locs cells slots) (hx : p.tables.exec = Jvm.exec) {k' : Nat} {x : Int32} (pc' : Nat) (hd : decode c.code pc = .ok (.istore k', 2)) (Ls' : Array Slot) (hl : storeLocals Ls k' (.int x) = some Ls') (hp : pc + 2 = pc')
    (k : Go p e below Q T (mkF m pc' Ls' (rest))) : Go p e below Q T (mkF m pc Ls (.int x :: rest)) := by
  subst hp; exact Go.step (fun t k => XS.istore X.here hx rfl hd rfl hl k) k
theorem g_lstoreN (X : Stand p l e R s m args below meth c T locs cells slots) (hx : p.tables.exec = Jvm.exec) {k' : Fin 4} {x : Int64} (pc' : Nat) (hd : decode c.code pc = .ok (.lstore_n k', 1)) (Ls' : Array Slot) (hl : storeLocals Ls k'.val (.long x) = some Ls') (hp : pc + 1 = pc')
    (k : Go p e below Q T (mkF m pc' Ls' (rest))) : Go p e below Q T (mkF m pc Ls (.long x :: rest)) := by
  subst hp; exact Go.step (fun t k => XS.lstoreN X.here hx rfl hd rfl hl k) k
theorem g_lstore (X : Stand p l e R s m args below meth c T locs cells slots) (hx : p.tables.exec = Jvm.exec) {k' : Nat} {x : Int64} (pc' : Nat) (hd : decode c.code pc = .ok (.lstore k', 2)) (Ls' : Array Slot) (hl : storeLocals Ls k' (.long x) = some Ls') (hp : pc + 2 = pc')
    (k : Go p e below Q T (mkF m pc' Ls' (rest))) : Go p e below Q T (mkF m pc Ls (.long x :: rest)) := by
  subst hp; exact Go.step (fun t k => XS.lstore X.here hx rfl hd rfl hl k) k
theorem g_astoreN (X : Stand p l e R s m args below meth c T locs cells slots) (hx : p.tables.exec = Jvm.exec) {k' : Fin 4} {x : Value} (pc' : Nat) (hd : decode c.code pc = .ok (.astore_n k', 1)) (hv : x.isRef = true) (Ls' : Array Slot) (hl : storeLocals Ls k'.val x = some Ls') (hp : pc + 1 = pc')
    (k : Go p e below Q T (mkF m pc' Ls' (rest))) : Go p e below Q T (mkF m pc Ls (x :: rest)) := by
  subst hp; exact Go.step (fun t k => XS.astoreN X.here hx rfl hd rfl hv hl k) k
theorem g_astore (X : Stand p l e R s m args below meth c T locs cells slots) (hx : p.tables.exec = Jvm.exec) {k' : Nat} {x : Value} (pc' : Nat) (hd : decode c.code pc = .ok (.astore k', 2)) (hv : x.isRef = true) (Ls' : Array Slot) (hl : storeLocals Ls k' x = some Ls') (hp : pc + 2 = pc')
    (k : Go p e below Q T (mkF m pc' Ls' (rest))) : Go p e below Q T (mkF m pc Ls (x :: rest)) := by
  subst hp; exact Go.step (fun t k => XS.astore X.here hx rfl hd rfl hv hl k) k
theorem g_iinc (X : Stand p l e R s m args below meth c T locs cells slots) (hx : p.tables.exec = Jvm.exec) {k' : Nat} {cst : Int} {x : Int32} (pc' : Nat) (hd : decode c.code pc = .ok (.iinc k' cst, 3)) (v : Int32) (hv : Int32.ofInt cst = v) (hl : Ls[k']? = some (.val (.int x))) (Ls' : Array Slot) (hl' : storeLocals Ls k' (.int (x + v)) = some Ls') (hp : pc + 3 = pc')
    (k : Go p e below Q T (mkF m pc' Ls' (rest))) : Go p e below Q T (mkF m pc Ls (rest)) := by
  subst hp; exact Go.step (fun t k => XS.iinc X.here hx rfl hd hl (by rw [hv]; exact hl') k) k
theorem g_iincC (X : Stand p l e R s m args below meth c T locs cells slots) (hx : p.tables.exec = Jvm.exec) {k' : Nat} {cst : Int} {x : Int32} (pc' : Nat) (hd : decode c.code pc = .ok (.iinc k' cst, 3)) (v w : Int32) (hv : Int32.ofInt cst = v) (hw : x + v = w) (hl : Ls[k']? = some (.val (.int x))) (Ls' : Array Slot) (hl' : storeLocals Ls k' (.int w) = some Ls') (hp : pc + 3 = pc')
    (k : Go p e below Q T (mkF m pc' Ls' (rest))) : Go p e below Q T (mkF m pc Ls (rest)) := by
  subst hp; exact Go.step (fun t k => XS.iinc X.here hx rfl hd hl (by rw [hv, hw]; exact hl') k) k
theorem g_iconst (X : Stand p l e R s m args below meth c T locs cells slots) (hx : p.tables.exec = Jvm.exec) {i : Int} (pc' : Nat) (hd : decode c.code pc = .ok (.iconst i, 1)) (v : Int32) (hv : Int32.ofInt i = v) (hp : pc + 1 = pc')
    (k : Go p e below Q T (mkF m pc' Ls (.int v :: rest))) : Go p e below Q T (mkF m pc Ls (rest)) := by
  subst hp; exact Go.step (fun t k => XS.iconst X.here hx rfl hd (by rw [hv]; exact k)) k
theorem g_bipush (X : Stand p l e R s m args below meth c T locs cells slots) (hx : p.tables.exec = Jvm.exec) {i : Int} (pc' : Nat) (hd : decode c.code pc = .ok (.bipush i, 2)) (v : Int32) (hv : (Int8.ofInt i).toInt32 = v) (hp : pc + 2 = pc')
    (k : Go p e below Q T (mkF m pc' Ls (.int v :: rest))) : Go p e below Q T (mkF m pc Ls (rest)) := by
  subst hp; exact Go.step (fun t k => XS.bipush X.here hx rfl hd (by rw [hv]; exact k)) k
theorem g_sipush (X : Stand p l e R s m args below meth c T locs cells slots) (hx : p.tables.exec = Jvm.exec) {i : Int} (pc' : Nat) (hd : decode c.code pc = .ok (.sipush i, 3)) (v : Int32) (hv : (Int16.ofInt i).toInt32 = v) (hp : pc + 3 = pc')
    (k : Go p e below Q T (mkF m pc' Ls (.int v :: rest))) : Go p e below Q T (mkF m pc Ls (rest)) := by
  subst hp; exact Go.step (fun t k => XS.sipush X.here hx rfl hd (by rw [hv]; exact k)) k
theorem g_lconst (X : Stand p l e R s m args below meth c T locs cells slots) (hx : p.tables.exec = Jvm.exec) {i : Fin 2} (pc' : Nat) (hd : decode c.code pc = .ok (.lconst i, 1)) (v : Int64) (hv : Int64.ofNat i = v) (hp : pc + 1 = pc')
    (k : Go p e below Q T (mkF m pc' Ls (.long v :: rest))) : Go p e below Q T (mkF m pc Ls (rest)) := by
  subst hp; exact Go.step (fun t k => XS.lconst X.here hx rfl hd (by rw [hv]; exact k)) k
theorem g_null (X : Stand p l e R s m args below meth c T locs cells slots) (hx : p.tables.exec = Jvm.exec)  (pc' : Nat) (hd : decode c.code pc = .ok (.aconst_null, 1))  (hp : pc + 1 = pc')
    (k : Go p e below Q T (mkF m pc' Ls (.null :: rest))) : Go p e below Q T (mkF m pc Ls (rest)) := by
  subst hp; exact Go.step (fun t k => XS.aconstNull X.here hx rfl hd k) k
theorem g_dup (X : Stand p l e R s m args below meth c T locs cells slots) (hx : p.tables.exec = Jvm.exec) {x : Value} (pc' : Nat) (hd : decode c.code pc = .ok (.dup, 1)) (hc : x.category = 1) (hp : pc + 1 = pc')
    (k : Go p e below Q T (mkF m pc' Ls (x :: x :: rest))) : Go p e below Q T (mkF m pc Ls (x :: rest)) := by
  subst hp; exact Go.step (fun t k => XS.dup X.here hx rfl hd rfl hc k) k
theorem g_pop (X : Stand p l e R s m args below meth c T locs cells slots) (hx : p.tables.exec = Jvm.exec) {x : Value} (pc' : Nat) (hd : decode c.code pc = .ok (.pop, 1)) (hc : x.category = 1) (hp : pc + 1 = pc')
    (k : Go p e below Q T (mkF m pc' Ls (rest))) : Go p e below Q T (mkF m pc Ls (x :: rest)) := by
  subst hp; exact Go.step (fun t k => XS.pop X.here hx rfl hd rfl hc k) k
theorem g_dup2 (X : Stand p l e R s m args below meth c T locs cells slots) (hx : p.tables.exec = Jvm.exec) {x y : Value} (pc' : Nat) (hd : decode c.code pc = .ok (.dup2, 1)) (hc : x.category = 1) (hc' : y.category = 1) (hp : pc + 1 = pc')
    (k : Go p e below Q T (mkF m pc' Ls (x :: y :: x :: y :: rest))) : Go p e below Q T (mkF m pc Ls (x :: y :: rest)) := by
  subst hp; exact Go.step (fun t k => Jvm.Free.XT.dup2 X.here hx rfl hd rfl hc hc' k) k
theorem g_dupX1 (X : Stand p l e R s m args below meth c T locs cells slots) (hx : p.tables.exec = Jvm.exec) {x y : Value} (pc' : Nat) (hd : decode c.code pc = .ok (.dup_x1, 1)) (hc : x.category = 1) (hc' : y.category = 1) (hp : pc + 1 = pc')
    (k : Go p e below Q T (mkF m pc' Ls (x :: y :: x :: rest))) : Go p e below Q T (mkF m pc Ls (x :: y :: rest)) := by
  subst hp; exact Go.step (fun t k => XS.dupX1 X.here hx rfl hd rfl hc hc' k) k
theorem g_ldcI (X : Stand p l e R s m args below meth c T locs cells slots) (hx : p.tables.exec = Jvm.exec) {Z : State} {a0 : Array Value} (hZ : Z.Warmed39 s.vm) {own : String} {index : Nat} (v : Int32) (hown : s.vm.findClass own = some m.cls) (w : (Jvm.Cond.constant own index v).before a0 Z = true) (pc' : Nat) (hd : decode c.code pc = .ok (.ldc index, 2))  (hp : pc + 2 = pc')
    (k : Go p e below Q T (mkF m pc' Ls (.int v :: rest))) : Go p e below Q T (mkF m pc Ls (rest)) := by
  subst hp; exact Go.step (fun t k => X.ldcI hx hown (mv hZ w) rfl hd k) k
theorem g_ldcWI (X : Stand p l e R s m args below meth c T locs cells slots) (hx : p.tables.exec = Jvm.exec) {Z : State} {a0 : Array Value} (hZ : Z.Warmed39 s.vm) {own : String} {index : Nat} (v : Int32) (hown : s.vm.findClass own = some m.cls) (w : (Jvm.Cond.constant own index v).before a0 Z = true) (pc' : Nat) (hd : decode c.code pc = .ok (.ldc_w index, 3))  (hp : pc + 3 = pc')
    (k : Go p e below Q T (mkF m pc' Ls (.int v :: rest))) : Go p e below Q T (mkF m pc Ls (rest)) := by
  subst hp; exact Go.step (fun t k => X.ldcWI hx hown (mv hZ w) rfl hd k) k
theorem g_ldc2J (X : Stand p l e R s m args below meth c T locs cells slots) (hx : p.tables.exec = Jvm.exec) {Z : State} {a0 : Array Value} (hZ : Z.Warmed39 s.vm) {own : String} {index : Nat} (v : Int64) (hown : s.vm.findClass own = some m.cls) (w : (Jvm.Cond.constantLong own index v).before a0 Z = true) (pc' : Nat) (hd : decode c.code pc = .ok (.ldc2_w index, 3))  (hp : pc + 3 = pc')
    (k : Go p e below Q T (mkF m pc' Ls (.long v :: rest))) : Go p e below Q T (mkF m pc Ls (rest)) := by
  subst hp; exact Go.step (fun t k => X.ldc2J hx hown (mv hZ w) rfl hd k) k
theorem g_goto (X : Stand p l e R s m args below meth c T locs cells slots) (hx : p.tables.exec = Jvm.exec) (pc' : Nat) {o : Int} (hd : decode c.code pc = .ok (.goto o, 3)) (ho : 0 ≤ (pc : Int) + o) (hp : ((pc : Int) + o).toNat = pc') {st : List Value}
    (k : Go p e below Q T (mkF m pc' Ls st)) : Go p e below Q T (mkF m pc Ls st) := Go.step (fun t k => XS.goto X.here hx rfl rfl hd ho hp k) k
theorem g_ifT (X : Stand p l e R s m args below meth c T locs cells slots) (hx : p.tables.exec = Jvm.exec) (pc' : Nat) {o : Int} {cd : ClassFile.Cond} {x : Int32} (hd : decode c.code pc = .ok (.ifCond cd o, 3)) (hc : ifCond.holds cd x = true) (ho : 0 ≤ (pc : Int) + o) (hp : ((pc : Int) + o).toNat = pc')
    (k : Go p e below Q T (mkF m pc' Ls rest)) : Go p e below Q T (mkF m pc Ls (.int x :: rest)) := Go.step (fun t k => XS.ifYes X.here hx rfl rfl hd rfl hc ho hp k) k
theorem g_ifF (X : Stand p l e R s m args below meth c T locs cells slots) (hx : p.tables.exec = Jvm.exec) (pc' : Nat) {o : Int} {cd : ClassFile.Cond} {x : Int32} (hd : decode c.code pc = .ok (.ifCond cd o, 3)) (hc : ifCond.holds cd x = false) (hp : pc + 3 = pc')
    (k : Go p e below Q T (mkF m pc' Ls rest)) : Go p e below Q T (mkF m pc Ls (.int x :: rest)) := by subst hp; exact Go.step (fun t k => XS.ifNo X.here hx rfl hd rfl hc k) k
theorem g_icT (X : Stand p l e R s m args below meth c T locs cells slots) (hx : p.tables.exec = Jvm.exec) (pc' : Nat) {o : Int} {cd : ClassFile.Cond} {x y : Int32} (hd : decode c.code pc = .ok (.if_icmp cd o, 3)) (hc : if_icmp.holds cd x y = true) (ho : 0 ≤ (pc : Int) + o) (hp : ((pc : Int) + o).toNat = pc')
    (k : Go p e below Q T (mkF m pc' Ls rest)) : Go p e below Q T (mkF m pc Ls (.int y :: .int x :: rest)) := Go.step (fun t k => XS.icmpYes X.here hx rfl rfl hd rfl hc ho hp k) k
theorem g_icF (X : Stand p l e R s m args below meth c T locs cells slots) (hx : p.tables.exec = Jvm.exec) (pc' : Nat) {o : Int} {cd : ClassFile.Cond} {x y : Int32} (hd : decode c.code pc = .ok (.if_icmp cd o, 3)) (hc : if_icmp.holds cd x y = false) (hp : pc + 3 = pc')
    (k : Go p e below Q T (mkF m pc' Ls rest)) : Go p e below Q T (mkF m pc Ls (.int y :: .int x :: rest)) := by subst hp; exact Go.step (fun t k => XS.icmpNo X.here hx rfl hd rfl hc k) k
theorem g_swIn (X : Stand p l e R s m args below meth c T locs cells slots) (hx : p.tables.exec = Jvm.exec) (pc' : Nat) {dflt low high : Int} {offs : Array Int} {len : Nat} {o : Int} {i : Int32} (hd : decode c.code pc = .ok (.tableswitch dflt low high offs, len)) (hin : ¬ (i.toInt < low ∨ i.toInt > high)) (hoff : offs[(i.toInt - low).toNat]? = some o) (ho : 0 ≤ (pc : Int) + o) (hp : ((pc : Int) + o).toNat = pc')
    (k : Go p e below Q T (mkF m pc' Ls rest)) : Go p e below Q T (mkF m pc Ls (.int i :: rest)) := Go.step (fun t k => XS.tswIn X.here hx rfl rfl hd rfl hin hoff ho hp k) k
theorem g_swOut (X : Stand p l e R s m args below meth c T locs cells slots) (hx : p.tables.exec = Jvm.exec) (pc' : Nat) {dflt low high : Int} {offs : Array Int} {len : Nat} {i : Int32} (hd : decode c.code pc = .ok (.tableswitch dflt low high offs, len)) (hout : i.toInt < low ∨ i.toInt > high) (ho : 0 ≤ (pc : Int) + dflt) (hp : ((pc : Int) + dflt).toNat = pc')
    (k : Go p e below Q T (mkF m pc' Ls rest)) : Go p e below Q T (mkF m pc Ls (.int i :: rest)) := Go.step (fun t k => XS.tswOut X.here hx rfl rfl hd rfl hout ho hp k) k
theorem g_nullT (X : Stand p l e R s m args below meth c T locs cells slots) (hx : p.tables.exec = Jvm.exec) (pc' : Nat) {o : Int} (hd : decode c.code pc = .ok (.ifnull o, 3)) (ho : 0 ≤ (pc : Int) + o) (hp : ((pc : Int) + o).toNat = pc')
    (k : Go p e below Q T (mkF m pc' Ls rest)) : Go p e below Q T (mkF m pc Ls (.null :: rest)) := Go.step (fun t k => XS.ifnullYes X.here hx rfl rfl hd rfl ho hp k) k
theorem g_nullF (X : Stand p l e R s m args below meth c T locs cells slots) (hx : p.tables.exec = Jvm.exec) (pc' : Nat) {o : Int} {b : Addr} (hd : decode c.code pc = .ok (.ifnull o, 3)) (hp : pc + 3 = pc')
    (k : Go p e below Q T (mkF m pc' Ls rest)) : Go p e below Q T (mkF m pc Ls (.ref b :: rest)) := by subst hp; exact Go.step (fun t k => XS.ifnullNo X.here hx rfl hd rfl k) k
theorem g_nonnullT (X : Stand p l e R s m args below meth c T locs cells slots) (hx : p.tables.exec = Jvm.exec) (pc' : Nat) {o : Int} {b : Addr} (hd : decode c.code pc = .ok (.ifnonnull o, 3)) (ho : 0 ≤ (pc : Int) + o) (hp : ((pc : Int) + o).toNat = pc')
    (k : Go p e below Q T (mkF m pc' Ls rest)) : Go p e below Q T (mkF m pc Ls (.ref b :: rest)) := Go.step (fun t k => XS.ifnonnullYes X.here hx rfl rfl hd rfl ho hp k) k
theorem g_nonnullF (X : Stand p l e R s m args below meth c T locs cells slots) (hx : p.tables.exec = Jvm.exec) (pc' : Nat) {o : Int} (hd : decode c.code pc = .ok (.ifnonnull o, 3)) (hp : pc + 3 = pc')
    (k : Go p e below Q T (mkF m pc' Ls rest)) : Go p e below Q T (mkF m pc Ls (.null :: rest)) := by subst hp; exact Go.step (fun t k => XS.ifnonnullNo X.here hx rfl hd rfl k) k
theorem own_end {Qf : Option Value → Heap → List Loc → Prop} {kc ks : Nat} {g : JFrame} (X : Stand p l e R s m args below meth c T locs cells slots) (hx : p.tables.exec = Jvm.exec) (v : Option Value) (hv : meth.sig.returnType = none → v = none) (hlocks : meth.locks = false)
    (st : ∀ fs, (∀ (f : JFrame) (acts : List Action), f.method = m → f.locked = none → f.entered = [] → (doReturn e (T.setTop f) acts v).1 = T.setFrames fs) → Steps p.tables e below (T.setTop g) (T.setFrames fs))
    (hc : cells ≤ kc) (hs : slots ≤ ks) (hQ : Qf v T.heap locs) : Go p e below (Qend s Qf kc ks) T g := by
  obtain ⟨fs, hr, hrun, hended, hW, hsame⟩ := X.leave (v := v) hv hlocks
  exact ⟨_, _, st fs hr, hrun, hended, _, _, rfl, hQ, ⟨_, rfl⟩, hW, hsame.mono hc hs⟩
theorem g_iret {Qf : Option Value → Heap → List Loc → Prop} {kc ks : Nat} (X : Stand p l e R s m args below meth c T locs cells slots) (hx : p.tables.exec = Jvm.exec) {z : Int32} (hret : meth.sig.returnType = some .int) (hlocks : meth.locks = false) (hd : decode c.code pc = .ok (.ireturn, 1)) (hc : cells ≤ kc) (hs : slots ≤ ks)
    (hQ : Qf (some (.int z)) T.heap locs) : Go p e below (Qend s Qf kc ks) T (mkF m pc Ls (.int z :: rest)) :=
  own_end X hx _ (fun h => by rw [hret] at h; cases h) hlocks (fun fs hr => retOut X hx hret rfl (Or.inl ⟨rfl, Or.inl rfl, _, rfl⟩) hd hr) hc hs hQ
theorem g_lret {Qf : Option Value → Heap → List Loc → Prop} {kc ks : Nat} (X : Stand p l e R s m args below meth c T locs cells slots) (hx : p.tables.exec = Jvm.exec) {z : Int64} (hret : meth.sig.returnType = some .long) (hlocks : meth.locks = false) (hd : decode c.code pc = .ok (.lreturn, 1)) (hc : cells ≤ kc) (hs : slots ≤ ks)
    (hQ : Qf (some (.long z)) T.heap locs) : Go p e below (Qend s Qf kc ks) T (mkF m pc Ls (.long z :: rest)) :=
  own_end X hx _ (fun h => by rw [hret] at h; cases h) hlocks (fun fs hr => retOut X hx hret rfl (Or.inr (Or.inl ⟨rfl, rfl, _, rfl⟩)) hd hr) hc hs hQ
theorem g_nret {Qf : Option Value → Heap → List Loc → Prop} {kc ks : Nat} (X : Stand p l e R s m args below meth c T locs cells slots) (hx : p.tables.exec = Jvm.exec) {z : Int32} {t : FieldType} (ht : t = .boolean ∨ t = .byte ∨ t = .char ∨ t = .short) (hret : meth.sig.returnType = some t) (hlocks : meth.locks = false) (hd : decode c.code pc = .ok (.ireturn, 1)) (hc : cells ≤ kc) (hs : slots ≤ ks)
    (hQ : Qf (some (.int (nar t z))) T.heap locs) : Go p e below (Qend s Qf kc ks) T (mkF m pc Ls (.int z :: rest)) :=
  own_end X hx _ (fun h => by rw [hret] at h; cases h) hlocks (fun fs hr => retN X hx hret ht hd hr) hc hs hQ
theorem g_aret {Qf : Option Value → Heap → List Loc → Prop} {kc ks : Nat} (X : Stand p l e R s m args below meth c T locs cells slots) (hx : p.tables.exec = Jvm.exec) {w : Value} {t : FieldType} (ht : t.isReference = true) (hw : w.isRef = true) (hn : narrow t w = w) (hret : meth.sig.returnType = some t) (hlocks : meth.locks = false) (hd : decode c.code pc = .ok (.areturn, 1)) (hc : cells ≤ kc) (hs : slots ≤ ks)
    (hQ : Qf (some w) T.heap locs) : Go p e below (Qend s Qf kc ks) T (mkF m pc Ls (w :: rest)) :=
  own_end X hx _ (fun h => by rw [hret] at h; cases h) hlocks (fun fs hr => retOut X hx hret hn (Or.inr (Or.inr (Or.inr (Or.inr ⟨rfl, ht, hw⟩)))) hd hr) hc hs hQ
theorem g_ret0 {Qf : Option Value → Heap → List Loc → Prop} {kc ks : Nat} (X : Stand p l e R s m args below meth c T locs cells slots) (hx : p.tables.exec = Jvm.exec) (hret : meth.sig.returnType = none) (hlocks : meth.locks = false) (hd : decode c.code pc = .ok (.return_, 1)) (hc : cells ≤ kc) (hs : slots ≤ ks)
    (hQ : Qf none T.heap locs) : Go p e below (Qend s Qf kc ks) T (mkF m pc Ls []) :=
  own_end X hx _ (fun _ => rfl) hlocks (fun fs hr => X.returnOut hx hret hd hr) hc hs hQ
/-- from a body's first row -/
theorem own_start {y : MethodName} {bytes : ByteArray} {maxL : Nat} {ret : Option FieldType} {ws : List Jvm.Cond} {rm : Room} {as' : Array Value} {Z : State} {h0 : Heap} {Qf : Option Value → Heap → List Loc → Prop} (hp : plainFor y = true)
    (body : ∀ (p : Program) (e : Env) (s : State) (m : MethodId) (below : List Frame) (meth : Method) (c : Code) (T : State), Stand p l e rm s m as' below meth c T [] 0 0 → p.tables.exec = Jvm.exec → c.code = bytes → c.maxLocals = maxL → s.vm.findClass y.cls = some m.cls →
      meth.name = y.name → meth.sig.returnType = ret → meth.locks = false → Z.Warmed39 s.vm → T.heap = h0 → Go p e below (Qend s Qf rm.cells rm.slots) T (entryFrame m as' maxL)) :
    MetFree l y (head1 (Jvm.Cond.code y bytes maxL ret :: ws) rm) (fun a U => a = as' ∧ Z.Warmed39 U.vm ∧ U.heap = h0) (fun _ _ _ _ _ => True) (fun _ U o U' => ∃ v L, o = .returned v ∧ Qf v U'.heap L ∧ FrameEnd U o U' L rm.cells rm.slots) := by
  refine MetFree.of_bodySF hp hisR ?_
  intro p e s m args below meth c s₁ Bd hml0 hP hK
  obtain ⟨rfl, hZ, hh⟩ := hP
  exact body p e s m below meth c s₁ (Stand.of_body Bd) Bd.exec Bd.bytes hml0 (findClass_of_methodNamed Bd.named) (name_of_methodNamed Bd.named Bd.method).1 Bd.returns Bd.notSynchronized hZ (by rw [← hh, Bd.state]; rfl)
/-- a static call, paid by the callee's own contract -/
theorem g_callS (X : Stand p l e R s m args below meth c T locs cells slots) (hx : p.tables.exec = Jvm.exec) {Z : State} {a0 : Array Value} (hZ : Z.Warmed39 s.vm) {own : String} {index : Nat} {y : MethodName} {bytes : ByteArray} {maxL : Nat} {ret' : Option FieldType} {rm : Room} {Qc : Option Value → Heap → List Loc → Prop} {h : Heap} (pc' : Nat) (argsL : List Value) (rest : List Value) (W : Nat)
    (hown : s.vm.findClass own = some m.cls) (w1 : (Jvm.Cond.methodLink own index y).before a0 Z = true) (w2 : (Jvm.Cond.static y).before a0 Z = true) (w3 : (Jvm.Cond.initialized y.cls).before a0 Z = true) (w4 : (Jvm.Cond.code y bytes maxL ret').before a0 Z = true) (hy : y.cls ≠ "java/lang/invoke/MethodHandle" ∧ y.cls ≠ "java/lang/invoke/VarHandle")
    (eT : T.heap = h)
    (hM : MetFree l y (head1 [Jvm.Cond.code y bytes maxL ret'] rm) (fun a U => a = argsL.toArray ∧ Z.Warmed39 U.vm ∧ U.heap = h) (fun _ _ _ _ _ => True) (fun _ U o U' => ∃ v L, o = .returned v ∧ Qc v U'.heap L ∧ FrameEnd U o U' L rm.cells rm.slots))
    (hf : rm.frames + 1 ≤ R.frames) (hl : W + (maxL + 11) + rm.locals ≤ R.locals) (hcl : cells + rm.cells ≤ R.cells) (hsl : slots + rm.slots ≤ R.slots)
    (hsize : Ls.size = c.maxLocals) {st : List Value} (hstack : st = argsL.reverse ++ rest) {ps : List FieldType} {r : Option FieldType} (hdesc : parseMethodDescriptor y.desc = some ⟨ps, r⟩) (hlen : argsL.length = ps.length) (hW : (rest.map fun v => v.category).sum ≤ W) (hd : decode c.code pc = .ok (.invokestatic index, 3)) (hp : pc + 3 = pc')
    (k : ∀ (v : Option Value) (T' : State) (L : List Loc), Stand p l e R s m args below meth c T' (locs ++ L) (cells + rm.cells) (slots + rm.slots) → Qc v T'.heap L → Go p e below Q T' (mkF m pc' Ls (v.toList ++ rest))) : Go p e below Q T (mkF m pc Ls st) := by
  subst hp hstack
  obtain ⟨v, _, ⟨T', L', k', n'⟩, -, X', ⟨L, hQ, l1, y1, z1⟩, st⟩ := Jvm.LawKit.callS X hx (y := y) hown (mvT hZ w1) (mvT hZ w2) (mvT hZ w3) (mvT hZ w4) hy (backOf (W := W) hM hZ w4 w3 hf hl) (g := mkF m pc Ls (argsL.reverse ++ rest)) rfl hsize (argsL := argsL) (rest := rest) (lenOf hdesc hlen) rfl (by show 2 * 0 + _ ≤ _; omega) hd (fun _ _ => ⟨rfl, eT, hcl, hsl⟩)
  dsimp only [Pt.U, Pt.locs, Pt.cells, Pt.slots] at X' l1 y1 z1 st hQ
  subst l1 y1 z1
  exact Go.step (fun t k => st _ k) (k v T' L X' hQ)
end OwnWalk
section OwnArr
variable {p : Program} {l : Launch} {e : Env} {R : Room} {s : State} {m : MethodId} {args : Array Value} {below : List Frame} {meth : Method} {c : Code} {T : State} {locs : List Loc} {cells slots : Nat} {Q : Outcome → State → Prop} {pc : Nat} {Ls : Array Slot} {rest : List Value} {Z : State} {a0 : Array Value} {h h' : Heap} {a b : Addr} {ty : FieldType} {n : Nat} {f f' : Nat → Value} {ws : List Addr} {sl : Nat} {v : Value}
/-- in heap h the array at a has n places; place i holds f i -/
def AV (Z : State) (h : Heap) (a : Addr) (ty : FieldType) (n : Nat) (f : Nat → Value) : Prop := ∃ c : Cell, Arr Z h a c ty ∧ c.slots.size = n ∧ ∀ i, i < n → c.slots[i]? = some (f i)
theorem AV.lt (F : AV Z h a ty n f) : a < h.size := by obtain ⟨c, A, -⟩ := F; exact A.lt
theorem AV.ext (F : AV Z h a ty n f) (E : Ext h h') : AV Z h' a ty n f := by obtain ⟨c, A, r⟩ := F; exact ⟨c, A.ext E, r⟩
theorem AV.keep (F : AV Z h a ty n f) (K : Keep h h' ws) (q : a ∉ ws) : AV Z h' a ty n f := by obtain ⟨c, A, r⟩ := F; exact ⟨c, ⟨K.2.1 a c A.1 q, A.2⟩, r⟩
theorem AV.other (F : AV Z h b ty n f) (W : Wr h h' a sl v) (q : b ≠ a) : AV Z h' b ty n f := by obtain ⟨c, A, r⟩ := F; exact ⟨c, A.other W q, r⟩
theorem AV.set (F : AV Z h a ty n f) (W : Wr h h' a sl v) : AV Z h' a ty n (fun i => if i = sl then v else f i) := by
  obtain ⟨c, A, S, H⟩ := F
  refine ⟨c.setSlot sl v, A.same W, by rw [sz_set]; exact S, fun i hi => ?_⟩
  by_cases q : i = sl
  · subst q
    simp [Cell.setSlot, S, hi]
  · show (c.slots.setIfInBounds sl v)[i]? = some (if i = sl then v else f i)
    rw [Array.getElem?_setIfInBounds_ne (Ne.symm q), if_neg q]
    exact H i hi
theorem AV.congr (F : AV Z h a ty n f) (q : ∀ i, i < n → f i = f' i) : AV Z h a ty n f' := by obtain ⟨c, A, S, H⟩ := F; exact ⟨c, A, S, fun i hi => by rw [← q i hi]; exact H i hi⟩
theorem own_ix {j : Int32} {i : Nat} (hi : j.toInt = i) : j.toNatClampNeg = i := by show j.toInt.toNat = i; omega
theorem own_nn {j : Int32} {i : Nat} (hi : j.toInt = i) : ¬ j < 0 := by rw [Int32.lt_iff_toInt_lt, hi]; show ¬ (i : Int) < 0; omega
theorem own_in {c : Cell} {j : Int32} {i : Nat} (S : c.slots.size = n) (hi : j.toInt = i) (hin : i < n) : ¬ (j < 0 ∨ c.slots.size ≤ j.toNatClampNeg) := by
  rw [own_ix hi, S]; exact fun q => q.elim (own_nn hi) (fun q => by omega)
theorem g_newarr (X : Stand p l e R s m args below meth c T locs cells slots) (hx : p.tables.exec = Jvm.exec) (hZ : Z.Warmed39 s.vm) {aty : ArrayType} (pc' : Nat) (w : (Jvm.Cond.arrayClass (newarray.typeOf aty)).before a0 Z = true) (eT : T.heap = h) {z : Int32} (hd : decode c.code pc = .ok (.newarray aty, 2)) (nn : Nat) (hn : z.toInt = nn) (cap : Nat) (hcap : nn ≤ cap) (hb8 : cap * 8 ≤ 536870912) (hc : cells + 1 ≤ R.cells) (hl : slots + cap ≤ R.slots) (hp : pc + 2 = pc')
    (k : ∀ (T' : State) (a : Addr), Stand p l e R s m args below meth c T' locs (cells + 1) (slots + cap) → Ext h T'.heap → a = h.size → AV Z T'.heap a (newarray.typeOf aty) nn (fun _ => defaultValue (newarray.typeOf aty)) → Go p e below Q T' (mkF m pc' Ls (.ref a :: rest))) : Go p e below Q T (mkF m pc Ls (.int z :: rest)) := by
  subst hp
  obtain ⟨T', h', cA, X', e', E, A, st⟩ := newP X hx hZ w eT (g := mkF m pc Ls (.int z :: rest)) rfl hd rfl (own_nn hn) (cap := cap) (by rw [own_ix hn]; exact hcap) hb8 hc hl
  subst e'
  refine Go.step (fun t k => st t k) (k T' _ X' E rfl ⟨_, A, by rw [sz_new, own_ix hn], fun i hi => ?_⟩)
  simp [newA, own_ix hn, hi]
theorem g_arrlen (X : Stand p l e R s m args below meth c T locs cells slots) (hx : p.tables.exec = Jvm.exec) (hZ : Z.Warmed39 s.vm) (pc' : Nat) (eT : T.heap = h) (F : AV Z h a ty n f) (z : Int32) (hz : z.toInt = n) (hd : decode c.code pc = .ok (.arraylength, 1)) (hp : pc + 1 = pc')
    (k : Go p e below Q T (mkF m pc' Ls (.int z :: rest))) : Go p e below Q T (mkF m pc Ls (.ref a :: rest)) := by
  subst hp
  obtain ⟨cl, A, S, H⟩ := F
  have q : cl.slots.size.toInt32 = z := len_of (by rw [own_ix hz]; exact S) (own_nn hz)
  rw [← q] at k
  have st := X.arraylength hx (cell := cl) (ty := ty) (by rw [eT]; exact A.1) (State.isArrayOf_alike hZ.alike A.2.1) (g := mkF m pc Ls (.ref a :: rest)) rfl rfl hd
  exact Go.step (fun t k => st t k) k
theorem g_bastore (X : Stand p l e R s m args below meth c T locs cells slots) (hx : p.tables.exec = Jvm.exec) (hZ : Z.Warmed39 s.vm) (pc' : Nat) (eT : T.heap = h) (F : AV Z h a .byte n f) {j : Int32} {x : Int32} (hd : decode c.code pc = .ok (.bastore, 1)) (i : Nat) (hi : j.toInt = i) (hin : i < n) (hp : pc + 1 = pc')
    (k : ∀ (T' : State), Stand p l e R s m args below meth c T' (locs ++ [⟨a, i⟩]) cells slots → Wr h T'.heap a i (.int (nar .byte x)) → AV Z T'.heap a .byte n (fun q => if q = i then .int (nar .byte x) else f q) → Go p e below Q T' (mkF m pc' Ls rest)) : Go p e below Q T (mkF m pc Ls (.int x :: .int j :: .ref a :: rest)) := by
  subst hp
  obtain ⟨cl, A, S, H⟩ := F
  obtain ⟨T', h', X', e', W, st⟩ := stB X hx hZ eT A (own_in S hi hin) (g := mkF m pc Ls (.int x :: .int j :: .ref a :: rest)) rfl rfl hd
  subst e'
  rw [own_ix hi] at X' W
  exact Go.step (fun t k => st t k) (k T' X' W (AV.set ⟨cl, A, S, H⟩ W))
theorem g_iastore (X : Stand p l e R s m args below meth c T locs cells slots) (hx : p.tables.exec = Jvm.exec) (hZ : Z.Warmed39 s.vm) (pc' : Nat) (eT : T.heap = h) (F : AV Z h a .int n f) {j : Int32} {x : Int32} (hd : decode c.code pc = .ok (.iastore, 1)) (i : Nat) (hi : j.toInt = i) (hin : i < n) (hp : pc + 1 = pc')
    (k : ∀ (T' : State), Stand p l e R s m args below meth c T' (locs ++ [⟨a, i⟩]) cells slots → Wr h T'.heap a i (.int x) → AV Z T'.heap a .int n (fun q => if q = i then .int x else f q) → Go p e below Q T' (mkF m pc' Ls rest)) : Go p e below Q T (mkF m pc Ls (.int x :: .int j :: .ref a :: rest)) := by
  subst hp
  obtain ⟨cl, A, S, H⟩ := F
  obtain ⟨T', h', X', e', W, st⟩ := stI X hx hZ eT A (own_in S hi hin) (g := mkF m pc Ls (.int x :: .int j :: .ref a :: rest)) rfl rfl hd
  subst e'
  rw [own_ix hi] at X' W
  exact Go.step (fun t k => st t k) (k T' X' W (AV.set ⟨cl, A, S, H⟩ W))
theorem g_lastore (X : Stand p l e R s m args below meth c T locs cells slots) (hx : p.tables.exec = Jvm.exec) (hZ : Z.Warmed39 s.vm) (pc' : Nat) (eT : T.heap = h) (F : AV Z h a .long n f) {j : Int32} {x : Int64} (hd : decode c.code pc = .ok (.lastore, 1)) (i : Nat) (hi : j.toInt = i) (hin : i < n) (hp : pc + 1 = pc')
    (k : ∀ (T' : State), Stand p l e R s m args below meth c T' (locs ++ [⟨a, i⟩]) cells slots → Wr h T'.heap a i (.long x) → AV Z T'.heap a .long n (fun q => if q = i then .long x else f q) → Go p e below Q T' (mkF m pc' Ls rest)) : Go p e below Q T (mkF m pc Ls (.long x :: .int j :: .ref a :: rest)) := by
  subst hp
  obtain ⟨cl, A, S, H⟩ := F
  obtain ⟨T', h', X', e', W, st⟩ := stJ X hx hZ eT A (own_in S hi hin) (g := mkF m pc Ls (.long x :: .int j :: .ref a :: rest)) rfl rfl hd
  subst e'
  rw [own_ix hi] at X' W
  exact Go.step (fun t k => st t k) (k T' X' W (AV.set ⟨cl, A, S, H⟩ W))
theorem g_baload (X : Stand p l e R s m args below meth c T locs cells slots) (hx : p.tables.exec = Jvm.exec) (hZ : Z.Warmed39 s.vm) (pc' : Nat) (eT : T.heap = h) (F : AV Z h a .byte n f) {j : Int32} (hd : decode c.code pc = .ok (.baload, 1)) (i : Nat) (hi : j.toInt = i) (hin : i < n) (v : Value) (hv : f i = v) (hp : pc + 1 = pc')
    (k : Go p e below Q T (mkF m pc' Ls (v :: rest))) : Go p e below Q T (mkF m pc Ls (.int j :: .ref a :: rest)) := by
  subst hp hv
  obtain ⟨cl, A, S, H⟩ := F
  have st := X.baloadBytes hx (cell := cl) (j := j) (v := f i) (by rw [eT]; exact A.1) (State.isArrayOf_alike hZ.alike A.2.1) A.2.2 (own_in S hi hin) (by rw [own_ix hi]; exact H i hin) (g := mkF m pc Ls (.int j :: .ref a :: rest)) rfl rfl hd
  exact Go.step (fun t k => st t k) k
theorem g_iaload (X : Stand p l e R s m args below meth c T locs cells slots) (hx : p.tables.exec = Jvm.exec) (hZ : Z.Warmed39 s.vm) (pc' : Nat) (eT : T.heap = h) (F : AV Z h a .int n f) {j : Int32} (hd : decode c.code pc = .ok (.iaload, 1)) (i : Nat) (hi : j.toInt = i) (hin : i < n) (v : Value) (hv : f i = v) (hp : pc + 1 = pc')
    (k : Go p e below Q T (mkF m pc' Ls (v :: rest))) : Go p e below Q T (mkF m pc Ls (.int j :: .ref a :: rest)) := by
  subst hp hv
  obtain ⟨cl, A, S, H⟩ := F
  have st := X.iaload hx (cell := cl) (j := j) (v := f i) (by rw [eT]; exact A.1) (State.isArrayOf_alike hZ.alike A.2.1) A.2.2 (own_in S hi hin) (by rw [own_ix hi]; exact H i hin) (g := mkF m pc Ls (.int j :: .ref a :: rest)) rfl rfl hd
  exact Go.step (fun t k => st t k) k
theorem g_laload (X : Stand p l e R s m args below meth c T locs cells slots) (hx : p.tables.exec = Jvm.exec) (hZ : Z.Warmed39 s.vm) (pc' : Nat) (eT : T.heap = h) (F : AV Z h a .long n f) {j : Int32} (hd : decode c.code pc = .ok (.laload, 1)) (i : Nat) (hi : j.toInt = i) (hin : i < n) (v : Value) (hv : f i = v) (hp : pc + 1 = pc')
    (k : Go p e below Q T (mkF m pc' Ls (v :: rest))) : Go p e below Q T (mkF m pc Ls (.int j :: .ref a :: rest)) := by
  subst hp hv
  obtain ⟨cl, A, S, H⟩ := F
  have st := X.laload hx (cell := cl) (j := j) (v := f i) (by rw [eT]; exact A.1) (State.isArrayOf_alike hZ.alike A.2.1) A.2.2 (own_in S hi hin) (by rw [own_ix hi]; exact H i hin) (g := mkF m pc Ls (.int j :: .ref a :: rest)) rfl rfl hd
  exact Go.step (fun t k => st t k) k
end OwnArr

theorem d1_0 : decode prog_21_method_3_code 0 = .ok (.iload_n 2, 1) := by decide +kernel
theorem d1_1 : decode prog_21_method_3_code 1 = .ok (.istore_n 3, 1) := by decide +kernel
theorem d1_2 : decode prog_21_method_3_code 2 = .ok (.iload_n 0, 1) := by decide +kernel
theorem d1_3 : decode prog_21_method_3_code 3 = .ok (.sipush 128, 3) := by decide +kernel
theorem d1_6 : decode prog_21_method_3_code 6 = .ok (.if_icmp .ge 14, 3) := by decide +kernel
theorem d1_9 : decode prog_21_method_3_code 9 = .ok (.aload_n 1, 1) := by decide +kernel
theorem d1_10 : decode prog_21_method_3_code 10 = .ok (.iload_n 3, 1) := by decide +kernel
theorem d1_11 : decode prog_21_method_3_code 11 = .ok (.iinc 3 1, 3) := by decide +kernel
theorem d1_14 : decode prog_21_method_3_code 14 = .ok (.iload_n 0, 1) := by decide +kernel
theorem d1_15 : decode prog_21_method_3_code 15 = .ok (.i2b, 1) := by decide +kernel
theorem d1_16 : decode prog_21_method_3_code 16 = .ok (.bastore, 1) := by decide +kernel
theorem d1_17 : decode prog_21_method_3_code 17 = .ok (.goto 166, 3) := by decide +kernel
theorem d1_20 : decode prog_21_method_3_code 20 = .ok (.iload_n 0, 1) := by decide +kernel
theorem d1_21 : decode prog_21_method_3_code 21 = .ok (.sipush 2048, 3) := by decide +kernel
theorem d1_24 : decode prog_21_method_3_code 24 = .ok (.if_icmp .ge 36, 3) := by decide +kernel
theorem d1_27 : decode prog_21_method_3_code 27 = .ok (.aload_n 1, 1) := by decide +kernel
theorem d1_28 : decode prog_21_method_3_code 28 = .ok (.iload_n 3, 1) := by decide +kernel
theorem d1_29 : decode prog_21_method_3_code 29 = .ok (.iinc 3 1, 3) := by decide +kernel
theorem d1_32 : decode prog_21_method_3_code 32 = .ok (.sipush 192, 3) := by decide +kernel
theorem d1_35 : decode prog_21_method_3_code 35 = .ok (.iload_n 0, 1) := by decide +kernel
theorem d1_36 : decode prog_21_method_3_code 36 = .ok (.bipush 6, 2) := by decide +kernel
theorem d1_38 : decode prog_21_method_3_code 38 = .ok (.ishr, 1) := by decide +kernel
theorem d1_39 : decode prog_21_method_3_code 39 = .ok (.ior, 1) := by decide +kernel
theorem d1_40 : decode prog_21_method_3_code 40 = .ok (.i2b, 1) := by decide +kernel
theorem d1_41 : decode prog_21_method_3_code 41 = .ok (.bastore, 1) := by decide +kernel
theorem d1_42 : decode prog_21_method_3_code 42 = .ok (.aload_n 1, 1) := by decide +kernel
theorem d1_43 : decode prog_21_method_3_code 43 = .ok (.iload_n 3, 1) := by decide +kernel
theorem d1_44 : decode prog_21_method_3_code 44 = .ok (.iinc 3 1, 3) := by decide +kernel
theorem d1_47 : decode prog_21_method_3_code 47 = .ok (.sipush 128, 3) := by decide +kernel
theorem d1_50 : decode prog_21_method_3_code 50 = .ok (.iload_n 0, 1) := by decide +kernel
theorem d1_51 : decode prog_21_method_3_code 51 = .ok (.bipush 63, 2) := by decide +kernel
theorem d1_53 : decode prog_21_method_3_code 53 = .ok (.iand, 1) := by decide +kernel
theorem d1_54 : decode prog_21_method_3_code 54 = .ok (.ior, 1) := by decide +kernel
theorem d1_55 : decode prog_21_method_3_code 55 = .ok (.i2b, 1) := by decide +kernel
theorem d1_56 : decode prog_21_method_3_code 56 = .ok (.bastore, 1) := by decide +kernel
theorem d1_57 : decode prog_21_method_3_code 57 = .ok (.goto 126, 3) := by decide +kernel
theorem d1_60 : decode prog_21_method_3_code 60 = .ok (.iload_n 0, 1) := by decide +kernel
theorem d1_61 : decode prog_21_method_3_code 61 = .ok (.ldc 7, 2) := by decide +kernel
theorem d1_63 : decode prog_21_method_3_code 63 = .ok (.if_icmp .ge 54, 3) := by decide +kernel
theorem d1_66 : decode prog_21_method_3_code 66 = .ok (.aload_n 1, 1) := by decide +kernel
theorem d1_67 : decode prog_21_method_3_code 67 = .ok (.iload_n 3, 1) := by decide +kernel
theorem d1_68 : decode prog_21_method_3_code 68 = .ok (.iinc 3 1, 3) := by decide +kernel
theorem d1_71 : decode prog_21_method_3_code 71 = .ok (.sipush 224, 3) := by decide +kernel
theorem d1_74 : decode prog_21_method_3_code 74 = .ok (.iload_n 0, 1) := by decide +kernel
theorem d1_75 : decode prog_21_method_3_code 75 = .ok (.bipush 12, 2) := by decide +kernel
theorem d1_77 : decode prog_21_method_3_code 77 = .ok (.ishr, 1) := by decide +kernel
theorem d1_78 : decode prog_21_method_3_code 78 = .ok (.ior, 1) := by decide +kernel
theorem d1_79 : decode prog_21_method_3_code 79 = .ok (.i2b, 1) := by decide +kernel
theorem d1_80 : decode prog_21_method_3_code 80 = .ok (.bastore, 1) := by decide +kernel
theorem d1_81 : decode prog_21_method_3_code 81 = .ok (.aload_n 1, 1) := by decide +kernel
theorem d1_82 : decode prog_21_method_3_code 82 = .ok (.iload_n 3, 1) := by decide +kernel
theorem d1_83 : decode prog_21_method_3_code 83 = .ok (.iinc 3 1, 3) := by decide +kernel
theorem d1_86 : decode prog_21_method_3_code 86 = .ok (.sipush 128, 3) := by decide +kernel
theorem d1_89 : decode prog_21_method_3_code 89 = .ok (.iload_n 0, 1) := by decide +kernel
theorem d1_90 : decode prog_21_method_3_code 90 = .ok (.bipush 6, 2) := by decide +kernel
theorem d1_92 : decode prog_21_method_3_code 92 = .ok (.ishr, 1) := by decide +kernel
theorem d1_93 : decode prog_21_method_3_code 93 = .ok (.bipush 63, 2) := by decide +kernel
theorem d1_95 : decode prog_21_method_3_code 95 = .ok (.iand, 1) := by decide +kernel
theorem d1_96 : decode prog_21_method_3_code 96 = .ok (.ior, 1) := by decide +kernel
theorem d1_97 : decode prog_21_method_3_code 97 = .ok (.i2b, 1) := by decide +kernel
theorem d1_98 : decode prog_21_method_3_code 98 = .ok (.bastore, 1) := by decide +kernel
theorem d1_99 : decode prog_21_method_3_code 99 = .ok (.aload_n 1, 1) := by decide +kernel
theorem d1_100 : decode prog_21_method_3_code 100 = .ok (.iload_n 3, 1) := by decide +kernel
theorem d1_101 : decode prog_21_method_3_code 101 = .ok (.iinc 3 1, 3) := by decide +kernel
theorem d1_104 : decode prog_21_method_3_code 104 = .ok (.sipush 128, 3) := by decide +kernel
theorem d1_107 : decode prog_21_method_3_code 107 = .ok (.iload_n 0, 1) := by decide +kernel
theorem d1_108 : decode prog_21_method_3_code 108 = .ok (.bipush 63, 2) := by decide +kernel
theorem d1_110 : decode prog_21_method_3_code 110 = .ok (.iand, 1) := by decide +kernel
theorem d1_111 : decode prog_21_method_3_code 111 = .ok (.ior, 1) := by decide +kernel
theorem d1_112 : decode prog_21_method_3_code 112 = .ok (.i2b, 1) := by decide +kernel
theorem d1_113 : decode prog_21_method_3_code 113 = .ok (.bastore, 1) := by decide +kernel
theorem d1_114 : decode prog_21_method_3_code 114 = .ok (.goto 69, 3) := by decide +kernel
theorem d1_117 : decode prog_21_method_3_code 117 = .ok (.aload_n 1, 1) := by decide +kernel
theorem d1_118 : decode prog_21_method_3_code 118 = .ok (.iload_n 3, 1) := by decide +kernel
theorem d1_119 : decode prog_21_method_3_code 119 = .ok (.iinc 3 1, 3) := by decide +kernel
theorem d1_122 : decode prog_21_method_3_code 122 = .ok (.sipush 240, 3) := by decide +kernel
theorem d1_125 : decode prog_21_method_3_code 125 = .ok (.iload_n 0, 1) := by decide +kernel
theorem d1_126 : decode prog_21_method_3_code 126 = .ok (.bipush 18, 2) := by decide +kernel
theorem d1_128 : decode prog_21_method_3_code 128 = .ok (.ishr, 1) := by decide +kernel
theorem d1_129 : decode prog_21_method_3_code 129 = .ok (.ior, 1) := by decide +kernel
theorem d1_130 : decode prog_21_method_3_code 130 = .ok (.i2b, 1) := by decide +kernel
theorem d1_131 : decode prog_21_method_3_code 131 = .ok (.bastore, 1) := by decide +kernel
theorem d1_132 : decode prog_21_method_3_code 132 = .ok (.aload_n 1, 1) := by decide +kernel
theorem d1_133 : decode prog_21_method_3_code 133 = .ok (.iload_n 3, 1) := by decide +kernel
theorem d1_134 : decode prog_21_method_3_code 134 = .ok (.iinc 3 1, 3) := by decide +kernel
theorem d1_137 : decode prog_21_method_3_code 137 = .ok (.sipush 128, 3) := by decide +kernel
theorem d1_140 : decode prog_21_method_3_code 140 = .ok (.iload_n 0, 1) := by decide +kernel
theorem d1_141 : decode prog_21_method_3_code 141 = .ok (.bipush 12, 2) := by decide +kernel
theorem d1_143 : decode prog_21_method_3_code 143 = .ok (.ishr, 1) := by decide +kernel
theorem d1_144 : decode prog_21_method_3_code 144 = .ok (.bipush 63, 2) := by decide +kernel
theorem d1_146 : decode prog_21_method_3_code 146 = .ok (.iand, 1) := by decide +kernel
theorem d1_147 : decode prog_21_method_3_code 147 = .ok (.ior, 1) := by decide +kernel
theorem d1_148 : decode prog_21_method_3_code 148 = .ok (.i2b, 1) := by decide +kernel
theorem d1_149 : decode prog_21_method_3_code 149 = .ok (.bastore, 1) := by decide +kernel
theorem d1_150 : decode prog_21_method_3_code 150 = .ok (.aload_n 1, 1) := by decide +kernel
theorem d1_151 : decode prog_21_method_3_code 151 = .ok (.iload_n 3, 1) := by decide +kernel
theorem d1_152 : decode prog_21_method_3_code 152 = .ok (.iinc 3 1, 3) := by decide +kernel
theorem d1_155 : decode prog_21_method_3_code 155 = .ok (.sipush 128, 3) := by decide +kernel
theorem d1_158 : decode prog_21_method_3_code 158 = .ok (.iload_n 0, 1) := by decide +kernel
theorem d1_159 : decode prog_21_method_3_code 159 = .ok (.bipush 6, 2) := by decide +kernel
theorem d1_161 : decode prog_21_method_3_code 161 = .ok (.ishr, 1) := by decide +kernel
theorem d1_162 : decode prog_21_method_3_code 162 = .ok (.bipush 63, 2) := by decide +kernel
theorem d1_164 : decode prog_21_method_3_code 164 = .ok (.iand, 1) := by decide +kernel
theorem d1_165 : decode prog_21_method_3_code 165 = .ok (.ior, 1) := by decide +kernel
theorem d1_166 : decode prog_21_method_3_code 166 = .ok (.i2b, 1) := by decide +kernel
theorem d1_167 : decode prog_21_method_3_code 167 = .ok (.bastore, 1) := by decide +kernel
theorem d1_168 : decode prog_21_method_3_code 168 = .ok (.aload_n 1, 1) := by decide +kernel
theorem d1_169 : decode prog_21_method_3_code 169 = .ok (.iload_n 3, 1) := by decide +kernel
theorem d1_170 : decode prog_21_method_3_code 170 = .ok (.iinc 3 1, 3) := by decide +kernel
theorem d1_173 : decode prog_21_method_3_code 173 = .ok (.sipush 128, 3) := by decide +kernel
theorem d1_176 : decode prog_21_method_3_code 176 = .ok (.iload_n 0, 1) := by decide +kernel
theorem d1_177 : decode prog_21_method_3_code 177 = .ok (.bipush 63, 2) := by decide +kernel
theorem d1_179 : decode prog_21_method_3_code 179 = .ok (.iand, 1) := by decide +kernel
theorem d1_180 : decode prog_21_method_3_code 180 = .ok (.ior, 1) := by decide +kernel
theorem d1_181 : decode prog_21_method_3_code 181 = .ok (.i2b, 1) := by decide +kernel
theorem d1_182 : decode prog_21_method_3_code 182 = .ok (.bastore, 1) := by decide +kernel
theorem d1_183 : decode prog_21_method_3_code 183 = .ok (.iload_n 3, 1) := by decide +kernel
theorem d1_184 : decode prog_21_method_3_code 184 = .ok (.ireturn, 1) := by decide +kernel
theorem d2_0 : decode method_3_code 0 = .ok (.iload_n 1, 1) := by decide +kernel
theorem d2_1 : decode method_3_code 1 = .ok (.iload_n 2, 1) := by decide +kernel
theorem d2_2 : decode method_3_code 2 = .ok (.if_icmp .lt 8, 3) := by decide +kernel
theorem d2_5 : decode method_3_code 5 = .ok (.iload_n 1, 1) := by decide +kernel
theorem d2_6 : decode method_3_code 6 = .ok (.iload_n 3, 1) := by decide +kernel
theorem d2_7 : decode method_3_code 7 = .ok (.if_icmp .lt 17, 3) := by decide +kernel
theorem d2_10 : decode method_3_code 10 = .ok (.aload_n 0, 1) := by decide +kernel
theorem d2_11 : decode method_3_code 11 = .ok (.iload_n 1, 1) := by decide +kernel
theorem d2_12 : decode method_3_code 12 = .ok (.baload, 1) := by decide +kernel
theorem d2_13 : decode method_3_code 13 = .ok (.iload 4, 2) := by decide +kernel
theorem d2_15 : decode method_3_code 15 = .ok (.if_icmp .ne 7, 3) := by decide +kernel
theorem d2_18 : decode method_3_code 18 = .ok (.iconst 1, 1) := by decide +kernel
theorem d2_19 : decode method_3_code 19 = .ok (.goto 4, 3) := by decide +kernel
theorem d2_23 : decode method_3_code 23 = .ok (.ireturn, 1) := by decide +kernel
theorem d2_24 : decode method_3_code 24 = .ok (.iconst 1, 1) := by decide +kernel
theorem d2_25 : decode method_3_code 25 = .ok (.ireturn, 1) := by decide +kernel
theorem d3_0 : decode method_2_code 0 = .ok (.iload_n 0, 1) := by decide +kernel
theorem d3_1 : decode method_2_code 1 = .ok (.sipush 192, 3) := by decide +kernel
theorem d3_4 : decode method_2_code 4 = .ok (.iand, 1) := by decide +kernel
theorem d3_5 : decode method_2_code 5 = .ok (.sipush 128, 3) := by decide +kernel
theorem d3_8 : decode method_2_code 8 = .ok (.if_icmp .ne 7, 3) := by decide +kernel
theorem d3_11 : decode method_2_code 11 = .ok (.iconst 1, 1) := by decide +kernel
theorem d3_12 : decode method_2_code 12 = .ok (.goto 4, 3) := by decide +kernel
theorem d3_16 : decode method_2_code 16 = .ok (.ireturn, 1) := by decide +kernel
theorem pd_0 : parseMethodDescriptor "(I[BI)I" = some ⟨[.int, (.array .byte), .int], some .int⟩ := by decide +kernel
theorem pd_1 : parseMethodDescriptor "([BIIIB)Z" = some ⟨[(.array .byte), .int, .int, .int, .byte], some .boolean⟩ := by decide +kernel
theorem pd_2 : parseMethodDescriptor "(I)Z" = some ⟨[.int], some .boolean⟩ := by decide +kernel
theorem pn_0 : plainFor (⟨"com/example/austere_text/austeretext/io/Utf8Encoder", "encode", "(I[BI)I"⟩ : MethodName) = true := by first | exact plainFor_of_name (by first | (simp [plainName, overriddenIn]; done) | decide +kernel) | decide +kernel
theorem pn_1 : plainFor (⟨"com/example/austere_text/austeretext/io/Utf8EncoderEncodePinLaw", "untouched", "([BIIIB)Z"⟩ : MethodName) = true := by first | exact plainFor_of_name (by first | (simp [plainName, overriddenIn]; done) | decide +kernel) | decide +kernel
theorem pn_2 : plainFor (⟨"com/example/austere_text/austeretext/io/Utf8EncoderEncodePinLaw", "cont", "(I)Z"⟩ : MethodName) = true := by first | exact plainFor_of_name (by first | (simp [plainName, overriddenIn]; done) | decide +kernel) | decide +kernel
theorem pn_3 : plainFor x = true := by first | exact plainFor_of_name (by first | (simp [plainName, overriddenIn]; done) | decide +kernel) | decide +kernel
theorem own_byte {v : Int32} (h : 0 ≤ v.toInt ∧ v.toInt < 256) : v.toInt8.toInt32 &&& (255 : Int32) = v := by
  have k1 := c_i2b v
  have k2 := c_mask v.toInt8.toInt32 255 8 (by decide) (by decide)
  rw [← Int32.toInt_inj, k2]; omega
theorem own_nar {v : Int32} : nar .byte v.toInt8.toInt32 = v.toInt8.toInt32 := by simp [nar]
theorem own_to {b : Int32} (h : 0 ≤ b.toInt ∧ b.toInt < 256) : ∃ i : Fin 256, b = Int32.ofNat i.1 ∧ b.toInt = (i.1 : Int) := by
  have q : (Int32.ofNat b.toInt.toNat).toInt = b.toInt := by rw [Int32.toInt_ofNat_of_lt (by omega)]; omega
  exact ⟨⟨b.toInt.toNat, by omega⟩, Int32.toInt_inj.mp q.symm, by show b.toInt = ((b.toInt.toNat : Nat) : Int); omega⟩
theorem own_224 {b : Int32} (h : 0 ≤ b.toInt ∧ b.toInt < 256) : (b &&& (224 : Int32)).toInt = b.toInt / 32 * 32 := by
  obtain ⟨i, rfl, q⟩ := own_to h
  have r : ∀ i : Fin 256, (Int32.ofNat i.1 &&& (224 : Int32)).toInt = ((i.1 / 32 * 32 : Nat) : Int) := by decide +kernel
  rw [r, q]; omega
theorem own_192 {b : Int32} (h : 0 ≤ b.toInt ∧ b.toInt < 256) : (b &&& (192 : Int32)).toInt = b.toInt / 64 * 64 := by
  obtain ⟨i, rfl, q⟩ := own_to h
  have r : ∀ i : Fin 256, (Int32.ofNat i.1 &&& (192 : Int32)).toInt = ((i.1 / 64 * 64 : Nat) : Int) := by decide +kernel
  rw [r, q]; omega
theorem own_240 {b : Int32} (h : 0 ≤ b.toInt ∧ b.toInt < 256) : (b &&& (240 : Int32)).toInt = b.toInt / 16 * 16 := by
  obtain ⟨i, rfl, q⟩ := own_to h
  have r : ∀ i : Fin 256, (Int32.ofNat i.1 &&& (240 : Int32)).toInt = ((i.1 / 16 * 16 : Nat) : Int) := by decide +kernel
  rw [r, q]; omega
abbrev V2a (c : Int32) : Int32 := (192 : Int32) ||| (c >>> ((6 : Int32) &&& 31))
abbrev V2b (c : Int32) : Int32 := (128 : Int32) ||| (c &&& (63 : Int32))
abbrev V3a (c : Int32) : Int32 := (224 : Int32) ||| (c >>> ((12 : Int32) &&& 31))
abbrev V3b (c : Int32) : Int32 := (128 : Int32) ||| ((c >>> ((6 : Int32) &&& 31)) &&& (63 : Int32))
theorem i_V2a {c : Int32} (h : 0 ≤ c.toInt ∧ c.toInt < 2048) : (V2a c).toInt = 192 + c.toInt / 64 := by
  have k1 := c_ishr c 6 6 (by decide)
  have k2 := c_or 192 (c >>> ((6 : Int32) &&& 31)) 6 (by decide) 64 (by decide) (by decide) (by omega) (by omega)
  have z : (192 : Int32).toInt = 192 := by decide
  have b := rng32 (V2a c)
  simp only [V2a] at b ⊢
  rw [z] at k2; omega
theorem i_V2b (c : Int32) : (V2b c).toInt = 128 + c.toInt % 64 := by
  have k1 := c_mask c 63 6 (by decide) (by decide)
  have k2 := c_or 128 (c &&& 63) 6 (by decide) 64 (by decide) (by decide) (by omega) (by omega)
  have z : (128 : Int32).toInt = 128 := by decide
  have b := rng32 (V2b c)
  simp only [V2b] at b ⊢
  rw [z] at k2; omega
theorem i_V3a {c : Int32} (h : 0 ≤ c.toInt ∧ c.toInt < 65536) : (V3a c).toInt = 224 + c.toInt / 4096 := by
  have k1 := c_ishr c 12 12 (by decide)
  have k2 := c_or 224 (c >>> ((12 : Int32) &&& 31)) 5 (by decide) 32 (by decide) (by decide) (by omega) (by omega)
  have z : (224 : Int32).toInt = 224 := by decide
  have b := rng32 (V3a c)
  simp only [V3a] at b ⊢
  rw [z] at k2; omega
theorem i_V3b (c : Int32) : (V3b c).toInt = 128 + c.toInt / 64 % 64 := by
  have k0 := c_ishr c 6 6 (by decide)
  have k1 := c_mask (c >>> ((6 : Int32) &&& 31)) 63 6 (by decide) (by decide)
  have k2 := c_or 128 ((c >>> ((6 : Int32) &&& 31)) &&& 63) 6 (by decide) 64 (by decide) (by decide) (by omega) (by omega)
  have z : (128 : Int32).toInt = 128 := by decide
  have b := rng32 (V3b c)
  simp only [V3b] at b ⊢
  rw [z] at k2; omega
theorem own_two {c : Int32} (h : 0 ≤ c.toInt ∧ c.toInt < 2048) : (V2a c &&& (224 : Int32)) = 192 ∧ (V2b c &&& (192 : Int32)) = 128 ∧ (((V2a c &&& (31 : Int32)) <<< ((6 : Int32) &&& 31)) ||| (V2b c &&& (63 : Int32))) = c := by
  have ha := i_V2a h
  have hb := i_V2b c
  generalize V2a c = A at *
  generalize V2b c = B at *
  have k1 := own_224 (b := A) (by omega)
  have k2 := own_192 (b := B) (by omega)
  have k3 := c_mask A 31 5 (by decide) (by decide)
  have k4 := c_mask B 63 6 (by decide) (by decide)
  have k5 := c_ishl (A &&& 31) 6 6 (by decide)
  have r5 := rng32 ((A &&& 31) <<< ((6 : Int32) &&& 31))
  have k6 := c_or ((A &&& 31) <<< ((6 : Int32) &&& 31)) (B &&& 63) 6 (by decide) 64 (by decide) (by omega) (by omega) (by omega)
  have r6 := rng32 (((A &&& 31) <<< ((6 : Int32) &&& 31)) ||| (B &&& 63))
  have z1 : (192 : Int32).toInt = 192 := by decide
  have z2 : (128 : Int32).toInt = 128 := by decide
  refine ⟨Int32.toInt_inj.mp (by rw [k1, z1]; omega), Int32.toInt_inj.mp (by rw [k2, z2]; omega), Int32.toInt_inj.mp (by omega)⟩
theorem own_three {c : Int32} (h : 0 ≤ c.toInt ∧ c.toInt < 65536) : (V3a c &&& (240 : Int32)) = 224 ∧ (V3b c &&& (192 : Int32)) = 128 ∧ (V2b c &&& (192 : Int32)) = 128 ∧ ((((V3a c &&& (15 : Int32)) <<< ((12 : Int32) &&& 31)) ||| ((V3b c &&& (63 : Int32)) <<< ((6 : Int32) &&& 31))) ||| (V2b c &&& (63 : Int32))) = c := by
  have ha := i_V3a h
  have hb := i_V3b c
  have hc := i_V2b c
  generalize V3a c = A at *
  generalize V3b c = B at *
  generalize V2b c = C at *
  have k1 := own_240 (b := A) (by omega)
  have k2 := own_192 (b := B) (by omega)
  have k2' := own_192 (b := C) (by omega)
  have k3 := c_mask A 15 4 (by decide) (by decide)
  have k4 := c_mask B 63 6 (by decide) (by decide)
  have k4' := c_mask C 63 6 (by decide) (by decide)
  have k5 := c_ishl (A &&& 15) 12 12 (by decide)
  have r5 := rng32 ((A &&& 15) <<< ((12 : Int32) &&& 31))
  have k7 := c_ishl (B &&& 63) 6 6 (by decide)
  have r7 := rng32 ((B &&& 63) <<< ((6 : Int32) &&& 31))
  have k6 := c_or ((A &&& 15) <<< ((12 : Int32) &&& 31)) ((B &&& 63) <<< ((6 : Int32) &&& 31)) 12 (by decide) 4096 (by decide) (by omega) (by omega) (by omega)
  have r6 := rng32 (((A &&& 15) <<< ((12 : Int32) &&& 31)) ||| ((B &&& 63) <<< ((6 : Int32) &&& 31)))
  have k8 := c_or (((A &&& 15) <<< ((12 : Int32) &&& 31)) ||| ((B &&& 63) <<< ((6 : Int32) &&& 31))) (C &&& 63) 6 (by decide) 64 (by decide) (by omega) (by omega) (by omega)
  have r8 := rng32 ((((A &&& 15) <<< ((12 : Int32) &&& 31)) ||| ((B &&& 63) <<< ((6 : Int32) &&& 31))) ||| (C &&& 63))
  have z1 : (224 : Int32).toInt = 224 := by decide
  have z2 : (128 : Int32).toInt = 128 := by decide
  refine ⟨Int32.toInt_inj.mp (by rw [k1, z1]; omega), Int32.toInt_inj.mp (by rw [k2, z2]; omega), Int32.toInt_inj.mp (by rw [k2', z2]; omega), Int32.toInt_inj.mp (by omega)⟩
theorem own_plus {at_ k : Int32} {o j : Nat} (ha : at_.toInt = o) (hk : k.toInt = j) (ho : o + j < 100) : (at_ + k).toInt = ((o + j : Nat) : Int) := by
  have q := c_iadd at_ k
  have b := rng32 (at_ + k)
  omega
theorem own_248 {b : Int32} (h : 0 ≤ b.toInt ∧ b.toInt < 256) : (b &&& (248 : Int32)).toInt = b.toInt / 8 * 8 := by
  obtain ⟨i, rfl, q⟩ := own_to h
  have r : ∀ i : Fin 256, (Int32.ofNat i.1 &&& (248 : Int32)).toInt = ((i.1 / 8 * 8 : Nat) : Int) := by decide +kernel
  rw [r, q]; omega
abbrev V4a (c : Int32) : Int32 := (240 : Int32) ||| (c >>> ((18 : Int32) &&& 31))
abbrev V4b (c : Int32) : Int32 := (128 : Int32) ||| ((c >>> ((12 : Int32) &&& 31)) &&& (63 : Int32))
theorem i_V4a {c : Int32} (h : 0 ≤ c.toInt ∧ c.toInt < 2097152) : (V4a c).toInt = 240 + c.toInt / 262144 := by
  have k1 := c_ishr c 18 18 (by decide)
  have k2 := c_or 240 (c >>> ((18 : Int32) &&& 31)) 4 (by decide) 16 (by decide) (by decide) (by omega) (by omega)
  have z : (240 : Int32).toInt = 240 := by decide
  have b := rng32 (V4a c)
  simp only [V4a] at b ⊢
  rw [z] at k2; omega
theorem i_V4b (c : Int32) : (V4b c).toInt = 128 + c.toInt / 4096 % 64 := by
  have k0 := c_ishr c 12 12 (by decide)
  have k1 := c_mask (c >>> ((12 : Int32) &&& 31)) 63 6 (by decide) (by decide)
  have k2 := c_or 128 ((c >>> ((12 : Int32) &&& 31)) &&& 63) 6 (by decide) 64 (by decide) (by decide) (by omega) (by omega)
  have z : (128 : Int32).toInt = 128 := by decide
  have b := rng32 (V4b c)
  simp only [V4b] at b ⊢
  rw [z] at k2; omega
theorem own_four {c : Int32} (h : 0 ≤ c.toInt ∧ c.toInt < 2097152) : (V4a c &&& (248 : Int32)) = 240 ∧ (V4b c &&& (192 : Int32)) = 128 ∧ (V3b c &&& (192 : Int32)) = 128 ∧ (V2b c &&& (192 : Int32)) = 128 ∧ (((((V4a c &&& (7 : Int32)) <<< ((18 : Int32) &&& 31)) ||| ((V4b c &&& (63 : Int32)) <<< ((12 : Int32) &&& 31))) ||| ((V3b c &&& (63 : Int32)) <<< ((6 : Int32) &&& 31))) ||| (V2b c &&& (63 : Int32))) = c := by
  have ha := i_V4a h
  have hd := i_V4b c
  have hb := i_V3b c
  have hc := i_V2b c
  generalize V4a c = A at *
  generalize V4b c = D at *
  generalize V3b c = B at *
  generalize V2b c = C at *
  have k1 := own_248 (b := A) (by omega)
  have k2 := own_192 (b := D) (by omega)
  have k2' := own_192 (b := B) (by omega)
  have k2'' := own_192 (b := C) (by omega)
  have k3 := c_mask A 7 3 (by decide) (by decide)
  have k4 := c_mask D 63 6 (by decide) (by decide)
  have k4' := c_mask B 63 6 (by decide) (by decide)
  have k4'' := c_mask C 63 6 (by decide) (by decide)
  have k5 := c_ishl (A &&& 7) 18 18 (by decide)
  have r5 := rng32 ((A &&& 7) <<< ((18 : Int32) &&& 31))
  have k7 := c_ishl (D &&& 63) 12 12 (by decide)
  have r7 := rng32 ((D &&& 63) <<< ((12 : Int32) &&& 31))
  have k7' := c_ishl (B &&& 63) 6 6 (by decide)
  have r7' := rng32 ((B &&& 63) <<< ((6 : Int32) &&& 31))
  generalize (A &&& 7) <<< ((18 : Int32) &&& 31) = P at *
  generalize (D &&& 63) <<< ((12 : Int32) &&& 31) = R at *
  generalize (B &&& 63) <<< ((6 : Int32) &&& 31) = U at *
  have k6 := c_or P R 18 (by decide) 262144 (by decide) (by omega) (by omega) (by omega)
  have r6 := rng32 (P ||| R)
  have k8 := c_or (P ||| R) U 12 (by decide) 4096 (by decide) (by omega) (by omega) (by omega)
  have r8 := rng32 ((P ||| R) ||| U)
  have k9 := c_or ((P ||| R) ||| U) (C &&& 63) 6 (by decide) 64 (by decide) (by omega) (by omega) (by omega)
  have r9 := rng32 (((P ||| R) ||| U) ||| (C &&& 63))
  have z1 : (240 : Int32).toInt = 240 := by decide
  have z2 : (128 : Int32).toInt = 128 := by decide
  refine ⟨Int32.toInt_inj.mp (by rw [k1, z1]; omega), Int32.toInt_inj.mp (by rw [k2, z2]; omega), Int32.toInt_inj.mp (by rw [k2', z2]; omega), Int32.toInt_inj.mp (by rw [k2'', z2]; omega), Int32.toInt_inj.mp (by omega)⟩
/-- what encode does -/
def EncSpec (c r : Int32) (o : Nat) (f f' : Nat → Value) : Prop :=
  (c < 128 ∧ r.toInt = ((o + 1 : Nat) : Int) ∧ (∀ i, i < o ∨ o + 1 ≤ i → f' i = f i) ∧ f' o = .int c.toInt8.toInt32) ∨
  (¬ c < 128 ∧ c < 2048 ∧ r.toInt = ((o + 2 : Nat) : Int) ∧ (∀ i, i < o ∨ o + 2 ≤ i → f' i = f i) ∧ f' o = .int (V2a c).toInt8.toInt32 ∧ f' (o + 1) = .int (V2b c).toInt8.toInt32) ∨
  (¬ c < 2048 ∧ c < 65536 ∧ r.toInt = ((o + 3 : Nat) : Int) ∧ (∀ i, i < o ∨ o + 3 ≤ i → f' i = f i) ∧ f' o = .int (V3a c).toInt8.toInt32 ∧ f' (o + 1) = .int (V3b c).toInt8.toInt32 ∧ f' (o + 2) = .int (V2b c).toInt8.toInt32) ∨
  (¬ c < 65536 ∧ r.toInt = ((o + 4 : Nat) : Int) ∧ (∀ i, i < o ∨ o + 4 ≤ i → f' i = f i) ∧ f' o = .int (V4a c).toInt8.toInt32 ∧ f' (o + 1) = .int (V4b c).toInt8.toInt32 ∧ f' (o + 2) = .int (V3b c).toInt8.toInt32 ∧ f' (o + 3) = .int (V2b c).toInt8.toInt32)
theorem own_p1 {x : Int32} {j : Nat} (h : x.toInt = j) (hj : j < 99) : (x + (1 : Int32)).toInt = ((j + 1 : Nat) : Int) := own_plus h (by decide) (by omega)
def Q1 (Z : State) (c : Int32) (a : Addr) (o : Nat) (f : Nat → Value) (n0 : Nat) (v : Option Value) (h : Heap) (L : List Loc) : Prop :=
  ∃ r f', v = some (.int r) ∧ Fr n0 L ∧ n0 ≤ h.size ∧ AV Z h a .byte 8 f' ∧ EncSpec c r o f f'
set_option maxRecDepth 65536 in
set_option maxHeartbeats 40000000 in
theorem rm1 (l : Launch) (Z : State) (a0 : Array Value) (hw : ∀ d ∈ tables_1, d.before a0 Z = true) (ws : List Jvm.Cond) (cp : Int32) (a : Addr) (off : Int32) (o : Nat) (f : Nat → Value) (h0 : Heap) (n0 : Nat) (Z0 : n0 ≤ h0.size) (hat : off.toInt = o) (ho : o ≤ 4) (F_a : AV Z h0 a .byte 8 f) (Z_a : n0 ≤ a) :
    MetFree l (⟨"com/example/austere_text/austeretext/io/Utf8Encoder", "encode", "(I[BI)I"⟩ : MethodName) (head1 (Jvm.Cond.code (⟨"com/example/austere_text/austeretext/io/Utf8Encoder", "encode", "(I[BI)I"⟩ : MethodName) prog_21_method_3_code 4 (some .int) :: ws) ({ frames := 0, cells := 0, slots := 0, locals := 0 } : Room)) (fun av_ U_ => av_ = #[(.int cp), (.ref a), (.int off)] ∧ Z.Warmed39 U_.vm ∧ U_.heap = h0) (fun _ _ _ _ _ => True) (fun _ U_ o_ W_ => ∃ v_ L_, o_ = .returned v_ ∧ Q1 Z cp a o f n0 v_ W_.heap L_ ∧ FrameEnd U_ o_ W_ L_ ({ frames := 0, cells := 0, slots := 0, locals := 0 } : Room).cells ({ frames := 0, cells := 0, slots := 0, locals := 0 } : Room).slots) := by
  refine own_start pn_0 ?_
  intro p e s m below meth c T0 X0 hx hby hml hown hnm hret hlk hZ e0
  have N0 := Fr.nil n0
  have M0 := Z0
  refine Go.cast (show entryFrame m #[(.int cp), (.ref a), (.int off)] 4 = (mkF m 0 #[.val (.int cp), .val (.ref a), .val (.int off), .unset] []) from (by first | (simp [entryFrame, mkF, argsToLocals, Value.category, maxLocals]; done) | rfl)) ?_
  have i0 := hat
  have i1 := own_p1 i0 (by omega)
  have i2 := own_p1 i1 (by omega)
  have i3 := own_p1 i2 (by omega)
  have i4 := own_p1 i3 (by omega)
  refine g_iloadN X0 hx 1 (hb hby d1_0) rfl rfl ?_
  refine g_istoreN X0 hx 2 (hb hby d1_1) #[.val (.int cp), .val (.ref a), .val (.int off), .val (.int off)] rfl rfl ?_
  refine g_iloadN X0 hx 3 (hb hby d1_2) rfl rfl ?_
  refine g_sipush X0 hx 6 (hb hby d1_3) (128 : Int32) (by decide) rfl ?_
  by_cases c6 : cp < (128 : Int32)
  · refine g_icF X0 hx 9 (hb hby d1_6) (Jvm.Free.XT.ii_ge_f c6) rfl ?_
    refine g_aloadN X0 hx 10 (hb hby d1_9) rfl rfl rfl ?_
    refine g_iloadN X0 hx 11 (hb hby d1_10) rfl rfl ?_
    refine g_iinc X0 hx 14 (hb hby d1_11) (1 : Int32) (by decide) rfl #[.val (.int cp), .val (.ref a), .val (.int off), .val (.int (off + (1 : Int32)))] rfl rfl ?_
    refine g_iloadN X0 hx 15 (hb hby d1_14) rfl rfl ?_
    refine g_i2b X0 hx 16 (hb hby d1_15) rfl ?_
    refine g_bastore X0 hx hZ 17 e0 F_a (hb hby d1_16) (o) i0 (by omega) rfl ?_
    intro T1 X1 W1 G1
    replace F_a := G1
    have e1 : T1.heap = T1.heap := rfl
    have N1 := Fr.snoc X1 N0 Z_a
    have M1 : n0 ≤ T1.heap.size := by rw [W1.size]; exact M0
    refine g_goto X1 hx 183 (hb hby d1_17) (by decide) (by decide) ?_
    refine g_iloadN X1 hx 184 (hb hby d1_183) rfl rfl ?_
    refine g_iret X1 hx hret hlk (hb hby d1_184) (by decide) (by decide) ?_
    exact ⟨_, _, rfl, N1, M1, F_a, Or.inl ⟨c6, i1, fun i hi => by dsimp only; rw [if_neg (by omega)], by dsimp only; rw [if_pos rfl, own_nar]⟩⟩
  · refine g_icT X0 hx 20 (hb hby d1_6) (Jvm.Free.XT.ii_ge_t c6) (by decide) (by decide) ?_
    refine g_iloadN X0 hx 21 (hb hby d1_20) rfl rfl ?_
    refine g_sipush X0 hx 24 (hb hby d1_21) (2048 : Int32) (by decide) rfl ?_
    by_cases c24 : cp < (2048 : Int32)
    · refine g_icF X0 hx 27 (hb hby d1_24) (Jvm.Free.XT.ii_ge_f c24) rfl ?_
      refine g_aloadN X0 hx 28 (hb hby d1_27) rfl rfl rfl ?_
      refine g_iloadN X0 hx 29 (hb hby d1_28) rfl rfl ?_
      refine g_iinc X0 hx 32 (hb hby d1_29) (1 : Int32) (by decide) rfl #[.val (.int cp), .val (.ref a), .val (.int off), .val (.int (off + (1 : Int32)))] rfl rfl ?_
      refine g_sipush X0 hx 35 (hb hby d1_32) (192 : Int32) (by decide) rfl ?_
      refine g_iloadN X0 hx 36 (hb hby d1_35) rfl rfl ?_
      refine g_bipush X0 hx 38 (hb hby d1_36) (6 : Int32) (by decide) rfl ?_
      refine g_ishr X0 hx 39 (hb hby d1_38) rfl ?_
      refine g_ior X0 hx 40 (hb hby d1_39) rfl ?_
      refine g_i2b X0 hx 41 (hb hby d1_40) rfl ?_
      refine g_bastore X0 hx hZ 42 e0 F_a (hb hby d1_41) (o) i0 (by omega) rfl ?_
      intro T2 X2 W2 G2
      replace F_a := G2
      have e2 : T2.heap = T2.heap := rfl
      have N2 := Fr.snoc X2 N0 Z_a
      have M2 : n0 ≤ T2.heap.size := by rw [W2.size]; exact M0
      refine g_aloadN X2 hx 43 (hb hby d1_42) rfl rfl rfl ?_
      refine g_iloadN X2 hx 44 (hb hby d1_43) rfl rfl ?_
      refine g_iinc X2 hx 47 (hb hby d1_44) (1 : Int32) (by decide) rfl #[.val (.int cp), .val (.ref a), .val (.int off), .val (.int ((off + (1 : Int32)) + (1 : Int32)))] rfl rfl ?_
      refine g_sipush X2 hx 50 (hb hby d1_47) (128 : Int32) (by decide) rfl ?_
      refine g_iloadN X2 hx 51 (hb hby d1_50) rfl rfl ?_
      refine g_bipush X2 hx 53 (hb hby d1_51) (63 : Int32) (by decide) rfl ?_
      refine g_iand X2 hx 54 (hb hby d1_53) rfl ?_
      refine g_ior X2 hx 55 (hb hby d1_54) rfl ?_
      refine g_i2b X2 hx 56 (hb hby d1_55) rfl ?_
      refine g_bastore X2 hx hZ 57 e2 F_a (hb hby d1_56) (o + 1) i1 (by omega) rfl ?_
      intro T3 X3 W3 G3
      replace F_a := G3
      have e3 : T3.heap = T3.heap := rfl
      have N3 := Fr.snoc X3 N2 Z_a
      have M3 : n0 ≤ T3.heap.size := by rw [W3.size]; exact M2
      refine g_goto X3 hx 183 (hb hby d1_57) (by decide) (by decide) ?_
      refine g_iloadN X3 hx 184 (hb hby d1_183) rfl rfl ?_
      refine g_iret X3 hx hret hlk (hb hby d1_184) (by decide) (by decide) ?_
      exact ⟨_, _, rfl, N3, M3, F_a, Or.inr (Or.inl ⟨c6, c24, i2, fun i hi => by dsimp only; rw [if_neg (by omega), if_neg (by omega)], by dsimp only; rw [if_neg (by omega), if_pos rfl, own_nar], by dsimp only; rw [if_pos rfl, own_nar]⟩)⟩
    · refine g_icT X0 hx 60 (hb hby d1_24) (Jvm.Free.XT.ii_ge_t c24) (by decide) (by decide) ?_
      refine g_iloadN X0 hx 61 (hb hby d1_60) rfl rfl ?_
      refine g_ldcI X0 hx hZ (65536 : Int32) hown (hw _ (List.mem_of_getElem? (i := 14) rfl)) 63 (hb hby d1_61) rfl ?_
      by_cases c63 : cp < (65536 : Int32)
      · refine g_icF X0 hx 66 (hb hby d1_63) (Jvm.Free.XT.ii_ge_f c63) rfl ?_
        refine g_aloadN X0 hx 67 (hb hby d1_66) rfl rfl rfl ?_
        refine g_iloadN X0 hx 68 (hb hby d1_67) rfl rfl ?_
        refine g_iinc X0 hx 71 (hb hby d1_68) (1 : Int32) (by decide) rfl #[.val (.int cp), .val (.ref a), .val (.int off), .val (.int (off + (1 : Int32)))] rfl rfl ?_
        refine g_sipush X0 hx 74 (hb hby d1_71) (224 : Int32) (by decide) rfl ?_
        refine g_iloadN X0 hx 75 (hb hby d1_74) rfl rfl ?_
        refine g_bipush X0 hx 77 (hb hby d1_75) (12 : Int32) (by decide) rfl ?_
        refine g_ishr X0 hx 78 (hb hby d1_77) rfl ?_
        refine g_ior X0 hx 79 (hb hby d1_78) rfl ?_
        refine g_i2b X0 hx 80 (hb hby d1_79) rfl ?_
        refine g_bastore X0 hx hZ 81 e0 F_a (hb hby d1_80) (o) i0 (by omega) rfl ?_
        intro T4 X4 W4 G4
        replace F_a := G4
        have e4 : T4.heap = T4.heap := rfl
        have N4 := Fr.snoc X4 N0 Z_a
        have M4 : n0 ≤ T4.heap.size := by rw [W4.size]; exact M0
        refine g_aloadN X4 hx 82 (hb hby d1_81) rfl rfl rfl ?_
        refine g_iloadN X4 hx 83 (hb hby d1_82) rfl rfl ?_
        refine g_iinc X4 hx 86 (hb hby d1_83) (1 : Int32) (by decide) rfl #[.val (.int cp), .val (.ref a), .val (.int off), .val (.int ((off + (1 : Int32)) + (1 : Int32)))] rfl rfl ?_
        refine g_sipush X4 hx 89 (hb hby d1_86) (128 : Int32) (by decide) rfl ?_
        refine g_iloadN X4 hx 90 (hb hby d1_89) rfl rfl ?_
        refine g_bipush X4 hx 92 (hb hby d1_90) (6 : Int32) (by decide) rfl ?_
        refine g_ishr X4 hx 93 (hb hby d1_92) rfl ?_
        refine g_bipush X4 hx 95 (hb hby d1_93) (63 : Int32) (by decide) rfl ?_
        refine g_iand X4 hx 96 (hb hby d1_95) rfl ?_
        refine g_ior X4 hx 97 (hb hby d1_96) rfl ?_
        refine g_i2b X4 hx 98 (hb hby d1_97) rfl ?_
        refine g_bastore X4 hx hZ 99 e4 F_a (hb hby d1_98) (o + 1) i1 (by omega) rfl ?_
        intro T5 X5 W5 G5
        replace F_a := G5
        have e5 : T5.heap = T5.heap := rfl
        have N5 := Fr.snoc X5 N4 Z_a
        have M5 : n0 ≤ T5.heap.size := by rw [W5.size]; exact M4
        refine g_aloadN X5 hx 100 (hb hby d1_99) rfl rfl rfl ?_
        refine g_iloadN X5 hx 101 (hb hby d1_100) rfl rfl ?_
        refine g_iinc X5 hx 104 (hb hby d1_101) (1 : Int32) (by decide) rfl #[.val (.int cp), .val (.ref a), .val (.int off), .val (.int (((off + (1 : Int32)) + (1 : Int32)) + (1 : Int32)))] rfl rfl ?_
        refine g_sipush X5 hx 107 (hb hby d1_104) (128 : Int32) (by decide) rfl ?_
        refine g_iloadN X5 hx 108 (hb hby d1_107) rfl rfl ?_
        refine g_bipush X5 hx 110 (hb hby d1_108) (63 : Int32) (by decide) rfl ?_
        refine g_iand X5 hx 111 (hb hby d1_110) rfl ?_
        refine g_ior X5 hx 112 (hb hby d1_111) rfl ?_
        refine g_i2b X5 hx 113 (hb hby d1_112) rfl ?_
        refine g_bastore X5 hx hZ 114 e5 F_a (hb hby d1_113) (o + 2) i2 (by omega) rfl ?_
        intro T6 X6 W6 G6
        replace F_a := G6
        have e6 : T6.heap = T6.heap := rfl
        have N6 := Fr.snoc X6 N5 Z_a
        have M6 : n0 ≤ T6.heap.size := by rw [W6.size]; exact M5
        refine g_goto X6 hx 183 (hb hby d1_114) (by decide) (by decide) ?_
        refine g_iloadN X6 hx 184 (hb hby d1_183) rfl rfl ?_
        refine g_iret X6 hx hret hlk (hb hby d1_184) (by decide) (by decide) ?_
        exact ⟨_, _, rfl, N6, M6, F_a, Or.inr (Or.inr (Or.inl ⟨c24, c63, i3, fun i hi => by dsimp only; rw [if_neg (by omega), if_neg (by omega), if_neg (by omega)], by dsimp only; rw [if_neg (by omega), if_neg (by omega), if_pos rfl, own_nar], by dsimp only; rw [if_neg (by omega), if_pos rfl, own_nar], by dsimp only; rw [if_pos rfl, own_nar]⟩))⟩
      · refine g_icT X0 hx 117 (hb hby d1_63) (Jvm.Free.XT.ii_ge_t c63) (by decide) (by decide) ?_
        refine g_aloadN X0 hx 118 (hb hby d1_117) rfl rfl rfl ?_
        refine g_iloadN X0 hx 119 (hb hby d1_118) rfl rfl ?_
        refine g_iinc X0 hx 122 (hb hby d1_119) (1 : Int32) (by decide) rfl #[.val (.int cp), .val (.ref a), .val (.int off), .val (.int (off + (1 : Int32)))] rfl rfl ?_
        refine g_sipush X0 hx 125 (hb hby d1_122) (240 : Int32) (by decide) rfl ?_
        refine g_iloadN X0 hx 126 (hb hby d1_125) rfl rfl ?_
        refine g_bipush X0 hx 128 (hb hby d1_126) (18 : Int32) (by decide) rfl ?_
        refine g_ishr X0 hx 129 (hb hby d1_128) rfl ?_
        refine g_ior X0 hx 130 (hb hby d1_129) rfl ?_
        refine g_i2b X0 hx 131 (hb hby d1_130) rfl ?_
        refine g_bastore X0 hx hZ 132 e0 F_a (hb hby d1_131) (o) i0 (by omega) rfl ?_
        intro T7 X7 W7 G7
        replace F_a := G7
        have e7 : T7.heap = T7.heap := rfl
        have N7 := Fr.snoc X7 N0 Z_a
        have M7 : n0 ≤ T7.heap.size := by rw [W7.size]; exact M0
        refine g_aloadN X7 hx 133 (hb hby d1_132) rfl rfl rfl ?_
        refine g_iloadN X7 hx 134 (hb hby d1_133) rfl rfl ?_
        refine g_iinc X7 hx 137 (hb hby d1_134) (1 : Int32) (by decide) rfl #[.val (.int cp), .val (.ref a), .val (.int off), .val (.int ((off + (1 : Int32)) + (1 : Int32)))] rfl rfl ?_
        refine g_sipush X7 hx 140 (hb hby d1_137) (128 : Int32) (by decide) rfl ?_
        refine g_iloadN X7 hx 141 (hb hby d1_140) rfl rfl ?_
        refine g_bipush X7 hx 143 (hb hby d1_141) (12 : Int32) (by decide) rfl ?_
        refine g_ishr X7 hx 144 (hb hby d1_143) rfl ?_
        refine g_bipush X7 hx 146 (hb hby d1_144) (63 : Int32) (by decide) rfl ?_
        refine g_iand X7 hx 147 (hb hby d1_146) rfl ?_
        refine g_ior X7 hx 148 (hb hby d1_147) rfl ?_
        refine g_i2b X7 hx 149 (hb hby d1_148) rfl ?_
        refine g_bastore X7 hx hZ 150 e7 F_a (hb hby d1_149) (o + 1) i1 (by omega) rfl ?_
        intro T8 X8 W8 G8
        replace F_a := G8
        have e8 : T8.heap = T8.heap := rfl
        have N8 := Fr.snoc X8 N7 Z_a
        have M8 : n0 ≤ T8.heap.size := by rw [W8.size]; exact M7
        refine g_aloadN X8 hx 151 (hb hby d1_150) rfl rfl rfl ?_
        refine g_iloadN X8 hx 152 (hb hby d1_151) rfl rfl ?_
        refine g_iinc X8 hx 155 (hb hby d1_152) (1 : Int32) (by decide) rfl #[.val (.int cp), .val (.ref a), .val (.int off), .val (.int (((off + (1 : Int32)) + (1 : Int32)) + (1 : Int32)))] rfl rfl ?_
        refine g_sipush X8 hx 158 (hb hby d1_155) (128 : Int32) (by decide) rfl ?_
        refine g_iloadN X8 hx 159 (hb hby d1_158) rfl rfl ?_
        refine g_bipush X8 hx 161 (hb hby d1_159) (6 : Int32) (by decide) rfl ?_
        refine g_ishr X8 hx 162 (hb hby d1_161) rfl ?_
        refine g_bipush X8 hx 164 (hb hby d1_162) (63 : Int32) (by decide) rfl ?_
        refine g_iand X8 hx 165 (hb hby d1_164) rfl ?_
        refine g_ior X8 hx 166 (hb hby d1_165) rfl ?_
        refine g_i2b X8 hx 167 (hb hby d1_166) rfl ?_
        refine g_bastore X8 hx hZ 168 e8 F_a (hb hby d1_167) (o + 2) i2 (by omega) rfl ?_
        intro T9 X9 W9 G9
        replace F_a := G9
        have e9 : T9.heap = T9.heap := rfl
        have N9 := Fr.snoc X9 N8 Z_a
        have M9 : n0 ≤ T9.heap.size := by rw [W9.size]; exact M8
        refine g_aloadN X9 hx 169 (hb hby d1_168) rfl rfl rfl ?_
        refine g_iloadN X9 hx 170 (hb hby d1_169) rfl rfl ?_
        refine g_iinc X9 hx 173 (hb hby d1_170) (1 : Int32) (by decide) rfl #[.val (.int cp), .val (.ref a), .val (.int off), .val (.int ((((off + (1 : Int32)) + (1 : Int32)) + (1 : Int32)) + (1 : Int32)))] rfl rfl ?_
        refine g_sipush X9 hx 176 (hb hby d1_173) (128 : Int32) (by decide) rfl ?_
        refine g_iloadN X9 hx 177 (hb hby d1_176) rfl rfl ?_
        refine g_bipush X9 hx 179 (hb hby d1_177) (63 : Int32) (by decide) rfl ?_
        refine g_iand X9 hx 180 (hb hby d1_179) rfl ?_
        refine g_ior X9 hx 181 (hb hby d1_180) rfl ?_
        refine g_i2b X9 hx 182 (hb hby d1_181) rfl ?_
        refine g_bastore X9 hx hZ 183 e9 F_a (hb hby d1_182) (o + 3) i3 (by omega) rfl ?_
        intro T10 X10 W10 G10
        replace F_a := G10
        have e10 : T10.heap = T10.heap := rfl
        have N10 := Fr.snoc X10 N9 Z_a
        have M10 : n0 ≤ T10.heap.size := by rw [W10.size]; exact M9
        refine g_iloadN X10 hx 184 (hb hby d1_183) rfl rfl ?_
        refine g_iret X10 hx hret hlk (hb hby d1_184) (by decide) (by decide) ?_
        exact ⟨_, _, rfl, N10, M10, F_a, Or.inr (Or.inr (Or.inr ⟨c63, i4, fun i hi => by dsimp only; rw [if_neg (by omega), if_neg (by omega), if_neg (by omega), if_neg (by omega)], by dsimp only; rw [if_neg (by omega), if_neg (by omega), if_neg (by omega), if_pos rfl, own_nar], by dsimp only; rw [if_neg (by omega), if_neg (by omega), if_pos rfl, own_nar], by dsimp only; rw [if_neg (by omega), if_pos rfl, own_nar], by dsimp only; rw [if_pos rfl, own_nar]⟩))⟩
def Q2 (h0 : Heap) (n0 : Nat) (v : Option Value) (h : Heap) (L : List Loc) : Prop := v = some (.int 1) ∧ Fr n0 L ∧ h = h0
set_option maxRecDepth 65536 in
set_option maxHeartbeats 40000000 in
theorem rm2 (l : Launch) (Z : State) (a0 : Array Value) (hw : ∀ d ∈ tables_1, d.before a0 Z = true) (ws : List Jvm.Cond) (a : Addr) (ix at_ en sb : Int32) (o : Nat) (f : Nat → Value) (h0 : Heap) (n0 : Nat) (Z0 : n0 ≤ h0.size) (hi : ix.toInt = o) (ho : o < 8) (F_a : AV Z h0 a .byte 8 f) (hk : ix < at_ ∨ ¬ ix < en → f o = .int sb) :
    MetFree l (⟨"com/example/austere_text/austeretext/io/Utf8EncoderEncodePinLaw", "untouched", "([BIIIB)Z"⟩ : MethodName) (head1 (Jvm.Cond.code (⟨"com/example/austere_text/austeretext/io/Utf8EncoderEncodePinLaw", "untouched", "([BIIIB)Z"⟩ : MethodName) method_3_code 5 (some .boolean) :: ws) ({ frames := 0, cells := 0, slots := 0, locals := 0 } : Room)) (fun av_ U_ => av_ = #[(.ref a), (.int ix), (.int at_), (.int en), (.int sb)] ∧ Z.Warmed39 U_.vm ∧ U_.heap = h0) (fun _ _ _ _ _ => True) (fun _ U_ o_ W_ => ∃ v_ L_, o_ = .returned v_ ∧ Q2 h0 n0 v_ W_.heap L_ ∧ FrameEnd U_ o_ W_ L_ ({ frames := 0, cells := 0, slots := 0, locals := 0 } : Room).cells ({ frames := 0, cells := 0, slots := 0, locals := 0 } : Room).slots) := by
  refine own_start pn_1 ?_
  intro p e s m below meth c T0 X0 hx hby hml hown hnm hret hlk hZ e0
  have N0 := Fr.nil n0
  have M0 := Z0
  refine Go.cast (show entryFrame m #[(.ref a), (.int ix), (.int at_), (.int en), (.int sb)] 5 = (mkF m 0 #[.val (.ref a), .val (.int ix), .val (.int at_), .val (.int en), .val (.int sb)] []) from (by first | (simp [entryFrame, mkF, argsToLocals, Value.category, maxLocals]; done) | rfl)) ?_
  refine g_iloadN X0 hx 1 (hb hby d2_0) rfl rfl ?_
  refine g_iloadN X0 hx 2 (hb hby d2_1) rfl rfl ?_
  by_cases c2 : ix < at_
  · refine g_icT X0 hx 10 (hb hby d2_2) (Jvm.Free.XT.ii_lt_t c2) (by decide) (by decide) ?_
    refine g_aloadN X0 hx 11 (hb hby d2_10) rfl rfl rfl ?_
    refine g_iloadN X0 hx 12 (hb hby d2_11) rfl rfl ?_
    refine g_baload X0 hx hZ 13 e0 F_a (hb hby d2_12) (o) hi ho (.int sb) (hk (Or.inl c2)) rfl ?_
    refine g_iload X0 hx 15 (hb hby d2_13) rfl rfl ?_
    refine g_icF X0 hx 18 (hb hby d2_15) (Jvm.Free.XT.ii_ne_f (show sb = sb from rfl)) rfl ?_
    refine g_iconst X0 hx 19 (hb hby d2_18) (1 : Int32) (by decide) rfl ?_
    refine g_goto X0 hx 23 (hb hby d2_19) (by decide) (by decide) ?_
    refine g_nret X0 hx (by simp) hret hlk (hb hby d2_23) (by decide) (by decide) ?_
    exact ⟨rfl, N0, e0⟩
  · refine g_icF X0 hx 5 (hb hby d2_2) (Jvm.Free.XT.ii_lt_f c2) rfl ?_
    refine g_iloadN X0 hx 6 (hb hby d2_5) rfl rfl ?_
    refine g_iloadN X0 hx 7 (hb hby d2_6) rfl rfl ?_
    by_cases c7 : ix < en
    · refine g_icT X0 hx 24 (hb hby d2_7) (Jvm.Free.XT.ii_lt_t c7) (by decide) (by decide) ?_
      refine g_iconst X0 hx 25 (hb hby d2_24) (1 : Int32) (by decide) rfl ?_
      refine g_nret X0 hx (by simp) hret hlk (hb hby d2_25) (by decide) (by decide) ?_
      exact ⟨rfl, N0, e0⟩
    · refine g_icF X0 hx 10 (hb hby d2_7) (Jvm.Free.XT.ii_lt_f c7) rfl ?_
      refine g_aloadN X0 hx 11 (hb hby d2_10) rfl rfl rfl ?_
      refine g_iloadN X0 hx 12 (hb hby d2_11) rfl rfl ?_
      refine g_baload X0 hx hZ 13 e0 F_a (hb hby d2_12) (o) hi ho (.int sb) (hk (Or.inr c7)) rfl ?_
      refine g_iload X0 hx 15 (hb hby d2_13) rfl rfl ?_
      refine g_icF X0 hx 18 (hb hby d2_15) (Jvm.Free.XT.ii_ne_f (show sb = sb from rfl)) rfl ?_
      refine g_iconst X0 hx 19 (hb hby d2_18) (1 : Int32) (by decide) rfl ?_
      refine g_goto X0 hx 23 (hb hby d2_19) (by decide) (by decide) ?_
      refine g_nret X0 hx (by simp) hret hlk (hb hby d2_23) (by decide) (by decide) ?_
      exact ⟨rfl, N0, e0⟩
set_option maxRecDepth 65536 in
set_option maxHeartbeats 40000000 in
theorem rm3 (l : Launch) (Z : State) (a0 : Array Value) (hw : ∀ d ∈ tables_1, d.before a0 Z = true) (ws : List Jvm.Cond) (b : Int32) (h0 : Heap) (n0 : Nat) (Z0 : n0 ≤ h0.size) (hb0 : (b &&& (192 : Int32)) = 128) :
    MetFree l (⟨"com/example/austere_text/austeretext/io/Utf8EncoderEncodePinLaw", "cont", "(I)Z"⟩ : MethodName) (head1 (Jvm.Cond.code (⟨"com/example/austere_text/austeretext/io/Utf8EncoderEncodePinLaw", "cont", "(I)Z"⟩ : MethodName) method_2_code 1 (some .boolean) :: ws) ({ frames := 0, cells := 0, slots := 0, locals := 0 } : Room)) (fun av_ U_ => av_ = #[(.int b)] ∧ Z.Warmed39 U_.vm ∧ U_.heap = h0) (fun _ _ _ _ _ => True) (fun _ U_ o_ W_ => ∃ v_ L_, o_ = .returned v_ ∧ Q2 h0 n0 v_ W_.heap L_ ∧ FrameEnd U_ o_ W_ L_ ({ frames := 0, cells := 0, slots := 0, locals := 0 } : Room).cells ({ frames := 0, cells := 0, slots := 0, locals := 0 } : Room).slots) := by
  refine own_start pn_2 ?_
  intro p e s m below meth c T0 X0 hx hby hml hown hnm hret hlk hZ e0
  have N0 := Fr.nil n0
  have M0 := Z0
  refine Go.cast (show entryFrame m #[(.int b)] 1 = (mkF m 0 #[.val (.int b)] []) from (by first | (simp [entryFrame, mkF, argsToLocals, Value.category, maxLocals]; done) | rfl)) ?_
  refine g_iloadN X0 hx 1 (hb hby d3_0) rfl rfl ?_
  refine g_sipush X0 hx 4 (hb hby d3_1) (192 : Int32) (by decide) rfl ?_
  refine g_iand X0 hx 5 (hb hby d3_4) rfl ?_
  refine g_sipush X0 hx 8 (hb hby d3_5) (128 : Int32) (by decide) rfl ?_
  refine g_icF X0 hx 11 (hb hby d3_8) (Jvm.Free.XT.ii_ne_f (show (b &&& (192 : Int32)) = (128 : Int32) from hb0)) rfl ?_
  refine g_iconst X0 hx 12 (hb hby d3_11) (1 : Int32) (by decide) rfl ?_
  refine g_goto X0 hx 16 (hb hby d3_12) (by decide) (by decide) ?_
  refine g_nret X0 hx (by simp) hret hlk (hb hby d3_16) (by decide) (by decide) ?_
  exact ⟨rfl, N0, e0⟩
theorem own_unt {at_ ix r : Int32} {o j i : Nat} {f' : Nat → Value} {v : Value} (hat : at_.toInt = o) (hr : r.toInt = ((o + j : Nat) : Int)) (hi : ix.toInt = i) (q : ∀ i, i < o ∨ o + j ≤ i → f' i = v) : ix < at_ ∨ ¬ ix < r → f' i = v := by
  intro h
  apply q
  rw [Int32.lt_iff_toInt_lt, Int32.lt_iff_toInt_lt] at h
  omega
theorem own_lt {x : Int32} {k : Int32} {j : Int} (hk : k.toInt = j) : (x < k ↔ x.toInt < j) ∧ (k < x ↔ j < x.toInt) := by rw [Int32.lt_iff_toInt_lt, Int32.lt_iff_toInt_lt, hk]; exact ⟨Iff.rfl, Iff.rfl⟩
def Q0 (n0 : Nat) (v : Option Value) (h : Heap) (L : List Loc) : Prop := v = some (.int 1) ∧ Fr n0 L
set_option maxRecDepth 65536 in
set_option maxHeartbeats 40000000 in
theorem rm0 (l : Launch) (Z : State) (a0 : Array Value) (hw : ∀ d ∈ tables_1, d.before a0 Z = true) (ws : List Jvm.Cond) (x0 x1 x2 : Int32) (h0 : Heap) (n0 : Nat) (Z0 : n0 ≤ h0.size)  :
    MetFree l x (head1 (Jvm.Cond.code x code maxLocals ret :: ws) room_1) (fun av_ U_ => av_ = #[(.int x0), (.int x1), (.int x2)] ∧ Z.Warmed39 U_.vm ∧ U_.heap = h0) (fun _ _ _ _ _ => True) (fun _ U_ o_ W_ => ∃ v_ L_, o_ = .returned v_ ∧ Q0 n0 v_ W_.heap L_ ∧ FrameEnd U_ o_ W_ L_ room_1.cells room_1.slots) := by
  refine own_start pn_3 ?_
  intro p e s m below meth c T0 X0 hx hby hml hown hnm hret hlk hZ e0
  have N0 := Fr.nil n0
  have M0 := Z0
  refine Go.cast (show entryFrame m #[(.int x0), (.int x1), (.int x2)] maxLocals = (mkF m 0 #[.val (.int x0), .val (.int x1), .val (.int x2), .unset, .unset, .unset, .unset, .unset, .unset, .unset, .unset, .unset, .unset, .unset, .unset] []) from (by first | (simp [entryFrame, mkF, argsToLocals, Value.category, maxLocals]; done) | rfl)) ?_
  refine g_iloadN X0 hx 1 (hb hby at_0) rfl rfl ?_
  refine g_ldcI X0 hx hZ (2147483647 : Int32) hown (hw _ (List.mem_of_getElem? (i := 0) rfl)) 3 (hb hby at_1) rfl ?_
  refine g_iand X0 hx 4 (hb hby at_3) rfl ?_
  refine g_ldcI X0 hx hZ (1114112 : Int32) hown (hw _ (List.mem_of_getElem? (i := 1) rfl)) 6 (hb hby at_4) rfl ?_
  refine g_irem X0 hx 7 (hb hby at_6) (by decide) rfl ?_
  refine g_istoreN X0 hx 8 (hb hby at_7) #[.val (.int x0), .val (.int x1), .val (.int x2), .val (.int ((x0 &&& (2147483647 : Int32)) % (1114112 : Int32))), .unset, .unset, .unset, .unset, .unset, .unset, .unset, .unset, .unset, .unset, .unset] rfl rfl ?_
  generalize h_cp : ((x0 &&& (2147483647 : Int32)) % (1114112 : Int32)) = cp
  have rm := c_mask x0 2147483647 31 (by decide) (by decide)
  have rc := (c_irem (x0 &&& 2147483647) 1114112 1114112 (by decide)).1 (by omega)
  rw [h_cp] at rc
  refine g_iloadN X0 hx 9 (hb hby at_8) rfl rfl ?_
  refine g_ldcI X0 hx hZ (2147483647 : Int32) hown (hw _ (List.mem_of_getElem? (i := 0) rfl)) 11 (hb hby at_9) rfl ?_
  refine g_iand X0 hx 12 (hb hby at_11) rfl ?_
  refine g_iconst X0 hx 13 (hb hby at_12) (5 : Int32) (by decide) rfl ?_
  refine g_irem X0 hx 14 (hb hby at_13) (by decide) rfl ?_
  refine g_istore X0 hx 16 (hb hby at_14) #[.val (.int x0), .val (.int x1), .val (.int x2), .val (.int cp), .val (.int ((x1 &&& (2147483647 : Int32)) % (5 : Int32))), .unset, .unset, .unset, .unset, .unset, .unset, .unset, .unset, .unset, .unset] rfl rfl ?_
  generalize h_off : ((x1 &&& (2147483647 : Int32)) % (5 : Int32)) = off
  have rm' := c_mask x1 2147483647 31 (by decide) (by decide)
  have rat := (c_irem (x1 &&& 2147483647) 5 5 (by decide)).1 (by omega)
  rw [h_off] at rat
  obtain ⟨o, hat⟩ : ∃ o : Nat, off.toInt = o := ⟨off.toInt.toNat, by omega⟩
  have ho : o ≤ 4 := by omega
  have p1 := own_plus (k := 1) (j := 1) hat (by decide) (by omega)
  have p2 := own_plus (k := 2) (j := 2) hat (by decide) (by omega)
  have p3 := own_plus (k := 3) (j := 3) hat (by decide) (by omega)
  have p4 := own_plus (k := 4) (j := 4) hat (by decide) (by omega)
  refine g_iloadN X0 hx 17 (hb hby at_16) rfl rfl ?_
  refine g_i2b X0 hx 18 (hb hby at_17) rfl ?_
  refine g_istore X0 hx 20 (hb hby at_18) #[.val (.int x0), .val (.int x1), .val (.int x2), .val (.int cp), .val (.int off), .val (.int (x2.toInt8.toInt32)), .unset, .unset, .unset, .unset, .unset, .unset, .unset, .unset, .unset] rfl rfl ?_
  generalize h_sb : (x2.toInt8.toInt32) = sb
  have nsb : nar .byte sb = sb := by rw [← h_sb]; exact own_nar
  refine g_bipush X0 hx 22 (hb hby at_20) (8 : Int32) (by decide) rfl ?_
  refine g_newarr X0 hx hZ 24 (hw _ (List.mem_of_getElem? (i := 2) rfl)) e0 (hb hby at_22) (8) (by decide) 8 (by decide) (by decide) (by decide) (by decide) rfl ?_
  intro T1 a X1 E1 g_a F_a
  have e1 : T1.heap = T1.heap := rfl
  have N1 := N0
  have Z_a : n0 ≤ a := by rw [g_a]; exact M0
  have M1 : n0 ≤ T1.heap.size := Nat.le_trans M0 E1.1
  refine g_dup X1 hx 25 (hb hby at_24) rfl rfl ?_
  refine g_iconst X1 hx 26 (hb hby at_25) (0 : Int32) (by decide) rfl ?_
  refine g_iload X1 hx 28 (hb hby at_26) rfl rfl ?_
  refine g_bastore X1 hx hZ 29 e1 F_a (hb hby at_28) (0) (by decide) (by decide) rfl ?_
  intro T2 X2 W2 G2
  replace F_a := G2
  have e2 : T2.heap = T2.heap := rfl
  have N2 := Fr.snoc X2 N1 Z_a
  have M2 : n0 ≤ T2.heap.size := by rw [W2.size]; exact M1
  refine g_dup X2 hx 30 (hb hby at_29) rfl rfl ?_
  refine g_iconst X2 hx 31 (hb hby at_30) (1 : Int32) (by decide) rfl ?_
  refine g_iload X2 hx 33 (hb hby at_31) rfl rfl ?_
  refine g_bastore X2 hx hZ 34 e2 F_a (hb hby at_33) (1) (by decide) (by decide) rfl ?_
  intro T3 X3 W3 G3
  replace F_a := G3
  have e3 : T3.heap = T3.heap := rfl
  have N3 := Fr.snoc X3 N2 Z_a
  have M3 : n0 ≤ T3.heap.size := by rw [W3.size]; exact M2
  refine g_dup X3 hx 35 (hb hby at_34) rfl rfl ?_
  refine g_iconst X3 hx 36 (hb hby at_35) (2 : Int32) (by decide) rfl ?_
  refine g_iload X3 hx 38 (hb hby at_36) rfl rfl ?_
  refine g_bastore X3 hx hZ 39 e3 F_a (hb hby at_38) (2) (by decide) (by decide) rfl ?_
  intro T4 X4 W4 G4
  replace F_a := G4
  have e4 : T4.heap = T4.heap := rfl
  have N4 := Fr.snoc X4 N3 Z_a
  have M4 : n0 ≤ T4.heap.size := by rw [W4.size]; exact M3
  refine g_dup X4 hx 40 (hb hby at_39) rfl rfl ?_
  refine g_iconst X4 hx 41 (hb hby at_40) (3 : Int32) (by decide) rfl ?_
  refine g_iload X4 hx 43 (hb hby at_41) rfl rfl ?_
  refine g_bastore X4 hx hZ 44 e4 F_a (hb hby at_43) (3) (by decide) (by decide) rfl ?_
  intro T5 X5 W5 G5
  replace F_a := G5
  have e5 : T5.heap = T5.heap := rfl
  have N5 := Fr.snoc X5 N4 Z_a
  have M5 : n0 ≤ T5.heap.size := by rw [W5.size]; exact M4
  refine g_dup X5 hx 45 (hb hby at_44) rfl rfl ?_
  refine g_iconst X5 hx 46 (hb hby at_45) (4 : Int32) (by decide) rfl ?_
  refine g_iload X5 hx 48 (hb hby at_46) rfl rfl ?_
  refine g_bastore X5 hx hZ 49 e5 F_a (hb hby at_48) (4) (by decide) (by decide) rfl ?_
  intro T6 X6 W6 G6
  replace F_a := G6
  have e6 : T6.heap = T6.heap := rfl
  have N6 := Fr.snoc X6 N5 Z_a
  have M6 : n0 ≤ T6.heap.size := by rw [W6.size]; exact M5
  refine g_dup X6 hx 50 (hb hby at_49) rfl rfl ?_
  refine g_iconst X6 hx 51 (hb hby at_50) (5 : Int32) (by decide) rfl ?_
  refine g_iload X6 hx 53 (hb hby at_51) rfl rfl ?_
  refine g_bastore X6 hx hZ 54 e6 F_a (hb hby at_53) (5) (by decide) (by decide) rfl ?_
  intro T7 X7 W7 G7
  replace F_a := G7
  have e7 : T7.heap = T7.heap := rfl
  have N7 := Fr.snoc X7 N6 Z_a
  have M7 : n0 ≤ T7.heap.size := by rw [W7.size]; exact M6
  refine g_dup X7 hx 55 (hb hby at_54) rfl rfl ?_
  refine g_bipush X7 hx 57 (hb hby at_55) (6 : Int32) (by decide) rfl ?_
  refine g_iload X7 hx 59 (hb hby at_57) rfl rfl ?_
  refine g_bastore X7 hx hZ 60 e7 F_a (hb hby at_59) (6) (by decide) (by decide) rfl ?_
  intro T8 X8 W8 G8
  replace F_a := G8
  have e8 : T8.heap = T8.heap := rfl
  have N8 := Fr.snoc X8 N7 Z_a
  have M8 : n0 ≤ T8.heap.size := by rw [W8.size]; exact M7
  refine g_dup X8 hx 61 (hb hby at_60) rfl rfl ?_
  refine g_bipush X8 hx 63 (hb hby at_61) (7 : Int32) (by decide) rfl ?_
  refine g_iload X8 hx 65 (hb hby at_63) rfl rfl ?_
  refine g_bastore X8 hx hZ 66 e8 F_a (hb hby at_65) (7) (by decide) (by decide) rfl ?_
  intro T9 X9 W9 G9
  replace F_a := G9
  have e9 : T9.heap = T9.heap := rfl
  have N9 := Fr.snoc X9 N8 Z_a
  have M9 : n0 ≤ T9.heap.size := by rw [W9.size]; exact M8
  refine g_astore X9 hx 68 (hb hby at_66) rfl #[.val (.int x0), .val (.int x1), .val (.int x2), .val (.int cp), .val (.int off), .val (.int sb), .val (.ref a), .unset, .unset, .unset, .unset, .unset, .unset, .unset, .unset] rfl rfl ?_
  replace F_a := F_a.congr (f' := fun _ => .int sb) (fun i hi => by simp only [nsb]; rcases (show i = 0 ∨ i = 1 ∨ i = 2 ∨ i = 3 ∨ i = 4 ∨ i = 5 ∨ i = 6 ∨ i = 7 by omega) with rfl | rfl | rfl | rfl | rfl | rfl | rfl | rfl <;> rfl)
  refine g_iloadN X9 hx 69 (hb hby at_68) rfl rfl ?_
  refine g_aload X9 hx 71 (hb hby at_69) rfl rfl rfl ?_
  refine g_iload X9 hx 73 (hb hby at_71) rfl rfl ?_
  refine g_callS X9 hx hZ 76 [(.int cp), (.ref a), (.int off)] [] 0 hown (hw _ (List.mem_of_getElem? (i := 3) rfl)) (hw _ (List.mem_of_getElem? (i := 4) rfl)) (hw _ (List.mem_of_getElem? (i := 5) rfl)) (hw _ (List.mem_of_getElem? (i := 6) rfl)) (by decide) e9 (rm1 l Z a0 hw [] cp a off o (fun _ => .int sb) T9.heap n0 M9 hat ho F_a Z_a) (by decide) (by decide) (by decide) (by decide) (by rw [hml]; rfl) rfl pd_0 rfl (Nat.le_of_eq rfl) (hb hby at_73) rfl ?_
  intro v10 T10 L10 X10 q10
  obtain ⟨r, f', rfl, Nq10, M10, G10, sp⟩ := q10
  have N10 := Fr.app N9 Nq10
  replace F_a := G10
  have e10 : T10.heap = T10.heap := rfl
  refine g_istore X10 hx 78 (hb hby at_76) #[.val (.int x0), .val (.int x1), .val (.int x2), .val (.int cp), .val (.int off), .val (.int sb), .val (.ref a), .val (.int r), .unset, .unset, .unset, .unset, .unset, .unset, .unset] rfl rfl ?_
  have y128 := own_lt (x := cp) (show (128 : Int32).toInt = 128 by decide)
  have y2048 := own_lt (x := cp) (show (2048 : Int32).toInt = 2048 by decide)
  have y65536 := own_lt (x := cp) (show (65536 : Int32).toInt = 65536 by decide)
  have y127 := own_lt (x := cp) (show (127 : Int32).toInt = 127 by decide)
  have y2047 := own_lt (x := cp) (show (2047 : Int32).toInt = 2047 by decide)
  have y65535 := own_lt (x := cp) (show (65535 : Int32).toInt = 65535 by decide)
  rcases sp with ⟨d1, dr, dk, t0⟩ | ⟨d1, d2, dr, dk, t0, t1⟩ | ⟨d1, d2, dr, dk, t0, t1, t2⟩ | ⟨d1, dr, dk, t0, t1, t2, t3⟩
  · rw [y128.1] at d1
    have hend : r = off + (1 : Int32) := Int32.toInt_inj.mp (by rw [dr, p1])
    have rch : 0 ≤ cp.toInt ∧ cp.toInt < 128 := by omega
    have f0 := own_byte (v := cp) (by omega)
    have g0 : cp < (128 : Int32) := y128.1.mpr d1
    have g1 : ¬ (127 : Int32) < cp := fun q => by have := y127.2.mp q; omega
    refine g_iloadN X10 hx 79 (hb hby at_78) rfl rfl ?_
    refine g_bipush X10 hx 81 (hb hby at_79) (127 : Int32) (by decide) rfl ?_
    refine g_icF X10 hx 84 (hb hby at_81) (Jvm.Free.XT.ii_gt_f (show ¬ ((127 : Int32) < cp) from g1)) rfl ?_
    refine g_iconst X10 hx 85 (hb hby at_84) (1 : Int32) (by decide) rfl ?_
    refine g_istore X10 hx 87 (hb hby at_85) #[.val (.int x0), .val (.int x1), .val (.int x2), .val (.int cp), .val (.int off), .val (.int sb), .val (.ref a), .val (.int r), .val (.int (1 : Int32)), .unset, .unset, .unset, .unset, .unset, .unset] rfl rfl ?_
    refine g_goto X10 hx 118 (hb hby at_87) (by decide) (by decide) ?_
    refine g_iload X10 hx 120 (hb hby at_118) rfl rfl ?_
    refine g_iload X10 hx 122 (hb hby at_120) rfl rfl ?_
    refine g_iload X10 hx 124 (hb hby at_122) rfl rfl ?_
    refine g_iadd X10 hx 125 (hb hby at_124) rfl ?_
    refine g_icT X10 hx 130 (hb hby at_125) (Jvm.Free.XT.ii_eq_t (show r = (off + (1 : Int32)) from hend)) (by decide) (by decide) ?_
    refine g_aload X10 hx 132 (hb hby at_130) rfl rfl rfl ?_
    refine g_iload X10 hx 134 (hb hby at_132) rfl rfl ?_
    refine g_baload X10 hx hZ 135 e10 F_a (hb hby at_134) (o) hat (by omega) (.int cp.toInt8.toInt32) t0 rfl ?_
    refine g_sipush X10 hx 138 (hb hby at_135) (255 : Int32) (by decide) rfl ?_
    refine g_iand X10 hx 139 (hb hby at_138) rfl ?_
    refine g_istore X10 hx 141 (hb hby at_139) #[.val (.int x0), .val (.int x1), .val (.int x2), .val (.int cp), .val (.int off), .val (.int sb), .val (.ref a), .val (.int r), .val (.int (1 : Int32)), .val (.int (cp.toInt8.toInt32 &&& (255 : Int32))), .unset, .unset, .unset, .unset, .unset] rfl rfl ?_
    rw [f0]
    refine g_aload X10 hx 143 (hb hby at_141) rfl rfl rfl ?_
    refine g_iload X10 hx 145 (hb hby at_143) rfl rfl ?_
    refine g_iconst X10 hx 146 (hb hby at_145) (1 : Int32) (by decide) rfl ?_
    refine g_iadd X10 hx 147 (hb hby at_146) rfl ?_
    refine g_baload X10 hx hZ 148 e10 F_a (hb hby at_147) (o + 1) p1 (by omega) (.int sb) (dk _ (by omega)) rfl ?_
    refine g_sipush X10 hx 151 (hb hby at_148) (255 : Int32) (by decide) rfl ?_
    refine g_iand X10 hx 152 (hb hby at_151) rfl ?_
    refine g_istore X10 hx 154 (hb hby at_152) #[.val (.int x0), .val (.int x1), .val (.int x2), .val (.int cp), .val (.int off), .val (.int sb), .val (.ref a), .val (.int r), .val (.int (1 : Int32)), .val (.int cp), .val (.int (sb &&& (255 : Int32))), .unset, .unset, .unset, .unset] rfl rfl ?_
    refine g_aload X10 hx 156 (hb hby at_154) rfl rfl rfl ?_
    refine g_iload X10 hx 158 (hb hby at_156) rfl rfl ?_
    refine g_iconst X10 hx 159 (hb hby at_158) (2 : Int32) (by decide) rfl ?_
    refine g_iadd X10 hx 160 (hb hby at_159) rfl ?_
    refine g_baload X10 hx hZ 161 e10 F_a (hb hby at_160) (o + 2) p2 (by omega) (.int sb) (dk _ (by omega)) rfl ?_
    refine g_sipush X10 hx 164 (hb hby at_161) (255 : Int32) (by decide) rfl ?_
    refine g_iand X10 hx 165 (hb hby at_164) rfl ?_
    refine g_istore X10 hx 167 (hb hby at_165) #[.val (.int x0), .val (.int x1), .val (.int x2), .val (.int cp), .val (.int off), .val (.int sb), .val (.ref a), .val (.int r), .val (.int (1 : Int32)), .val (.int cp), .val (.int (sb &&& (255 : Int32))), .val (.int (sb &&& (255 : Int32))), .unset, .unset, .unset] rfl rfl ?_
    refine g_aload X10 hx 169 (hb hby at_167) rfl rfl rfl ?_
    refine g_iload X10 hx 171 (hb hby at_169) rfl rfl ?_
    refine g_iconst X10 hx 172 (hb hby at_171) (3 : Int32) (by decide) rfl ?_
    refine g_iadd X10 hx 173 (hb hby at_172) rfl ?_
    refine g_baload X10 hx hZ 174 e10 F_a (hb hby at_173) (o + 3) p3 (by omega) (.int sb) (dk _ (by omega)) rfl ?_
    refine g_sipush X10 hx 177 (hb hby at_174) (255 : Int32) (by decide) rfl ?_
    refine g_iand X10 hx 178 (hb hby at_177) rfl ?_
    refine g_istore X10 hx 180 (hb hby at_178) #[.val (.int x0), .val (.int x1), .val (.int x2), .val (.int cp), .val (.int off), .val (.int sb), .val (.ref a), .val (.int r), .val (.int (1 : Int32)), .val (.int cp), .val (.int (sb &&& (255 : Int32))), .val (.int (sb &&& (255 : Int32))), .val (.int (sb &&& (255 : Int32))), .unset, .unset] rfl rfl ?_
    refine g_iload X10 hx 182 (hb hby at_180) rfl rfl ?_
    refine g_iconst X10 hx 183 (hb hby at_182) (1 : Int32) (by decide) rfl ?_
    refine g_icF X10 hx 186 (hb hby at_183) (by decide) rfl ?_
    refine g_iload X10 hx 188 (hb hby at_186) rfl rfl ?_
    refine g_sipush X10 hx 191 (hb hby at_188) (128 : Int32) (by decide) rfl ?_
    refine g_icF X10 hx 194 (hb hby at_191) (Jvm.Free.XT.ii_ge_f (show cp < (128 : Int32) from g0)) rfl ?_
    refine g_iconst X10 hx 195 (hb hby at_194) (1 : Int32) (by decide) rfl ?_
    refine g_goto X10 hx 199 (hb hby at_195) (by decide) (by decide) ?_
    refine g_istore X10 hx 201 (hb hby at_199) #[.val (.int x0), .val (.int x1), .val (.int x2), .val (.int cp), .val (.int off), .val (.int sb), .val (.ref a), .val (.int r), .val (.int (1 : Int32)), .val (.int cp), .val (.int (sb &&& (255 : Int32))), .val (.int (sb &&& (255 : Int32))), .val (.int (sb &&& (255 : Int32))), .val (.int (1 : Int32)), .unset] rfl rfl ?_
    refine g_iload X10 hx 203 (hb hby at_201) rfl rfl ?_
    refine g_istore X10 hx 205 (hb hby at_203) #[.val (.int x0), .val (.int x1), .val (.int x2), .val (.int cp), .val (.int off), .val (.int sb), .val (.ref a), .val (.int r), .val (.int (1 : Int32)), .val (.int cp), .val (.int (sb &&& (255 : Int32))), .val (.int (sb &&& (255 : Int32))), .val (.int (sb &&& (255 : Int32))), .val (.int (1 : Int32)), .val (.int cp)] rfl rfl ?_
    refine g_goto X10 hx 406 (hb hby at_205) (by decide) (by decide) ?_
    refine g_iload X10 hx 408 (hb hby at_406) rfl rfl ?_
    refine g_ifF X10 hx 411 (hb hby at_408) (by decide) rfl ?_
    refine g_iload X10 hx 413 (hb hby at_411) rfl rfl ?_
    refine g_iloadN X10 hx 414 (hb hby at_413) rfl rfl ?_
    refine g_icT X10 hx 419 (hb hby at_414) (Jvm.Free.XT.ii_eq_t (show cp = cp from rfl)) (by decide) (by decide) ?_
    refine g_aload X10 hx 421 (hb hby at_419) rfl rfl rfl ?_
    refine g_iconst X10 hx 422 (hb hby at_421) (0 : Int32) (by decide) rfl ?_
    refine g_iload X10 hx 424 (hb hby at_422) rfl rfl ?_
    refine g_iload X10 hx 426 (hb hby at_424) rfl rfl ?_
    refine g_iload X10 hx 428 (hb hby at_426) rfl rfl ?_
    refine g_callS X10 hx hZ 431 [(.ref a), (.int (0 : Int32)), (.int off), (.int r), (.int sb)] [] 0 hown (hw _ (List.mem_of_getElem? (i := 7) rfl)) (hw _ (List.mem_of_getElem? (i := 8) rfl)) (hw _ (List.mem_of_getElem? (i := 9) rfl)) (hw _ (List.mem_of_getElem? (i := 10) rfl)) (by decide) e10 (rm2 l Z a0 hw [] a (0 : Int32) off r sb 0 f' T10.heap n0 M10 (by decide) (by decide) F_a (own_unt (j := 1) hat dr (by decide) dk)) (by decide) (by decide) (by decide) (by decide) (by rw [hml]; rfl) rfl pd_1 rfl (Nat.le_of_eq rfl) (hb hby at_428) rfl ?_
    intro v11 T11 L11 X11 q11
    obtain ⟨rfl, Nq11, e11⟩ := q11
    have N11 := Fr.app N10 Nq11
    have M11 := M10
    refine g_ifF X11 hx 434 (hb hby at_431) (by decide) rfl ?_
    refine g_aload X11 hx 436 (hb hby at_434) rfl rfl rfl ?_
    refine g_iconst X11 hx 437 (hb hby at_436) (1 : Int32) (by decide) rfl ?_
    refine g_iload X11 hx 439 (hb hby at_437) rfl rfl ?_
    refine g_iload X11 hx 441 (hb hby at_439) rfl rfl ?_
    refine g_iload X11 hx 443 (hb hby at_441) rfl rfl ?_
    refine g_callS X11 hx hZ 446 [(.ref a), (.int (1 : Int32)), (.int off), (.int r), (.int sb)] [] 0 hown (hw _ (List.mem_of_getElem? (i := 7) rfl)) (hw _ (List.mem_of_getElem? (i := 8) rfl)) (hw _ (List.mem_of_getElem? (i := 9) rfl)) (hw _ (List.mem_of_getElem? (i := 10) rfl)) (by decide) e11 (rm2 l Z a0 hw [] a (1 : Int32) off r sb 1 f' T10.heap n0 M11 (by decide) (by decide) F_a (own_unt (j := 1) hat dr (by decide) dk)) (by decide) (by decide) (by decide) (by decide) (by rw [hml]; rfl) rfl pd_1 rfl (Nat.le_of_eq rfl) (hb hby at_443) rfl ?_
    intro v12 T12 L12 X12 q12
    obtain ⟨rfl, Nq12, e12⟩ := q12
    have N12 := Fr.app N11 Nq12
    have M12 := M11
    refine g_ifF X12 hx 449 (hb hby at_446) (by decide) rfl ?_
    refine g_aload X12 hx 451 (hb hby at_449) rfl rfl rfl ?_
    refine g_iconst X12 hx 452 (hb hby at_451) (2 : Int32) (by decide) rfl ?_
    refine g_iload X12 hx 454 (hb hby at_452) rfl rfl ?_
    refine g_iload X12 hx 456 (hb hby at_454) rfl rfl ?_
    refine g_iload X12 hx 458 (hb hby at_456) rfl rfl ?_
    refine g_callS X12 hx hZ 461 [(.ref a), (.int (2 : Int32)), (.int off), (.int r), (.int sb)] [] 0 hown (hw _ (List.mem_of_getElem? (i := 7) rfl)) (hw _ (List.mem_of_getElem? (i := 8) rfl)) (hw _ (List.mem_of_getElem? (i := 9) rfl)) (hw _ (List.mem_of_getElem? (i := 10) rfl)) (by decide) e12 (rm2 l Z a0 hw [] a (2 : Int32) off r sb 2 f' T10.heap n0 M12 (by decide) (by decide) F_a (own_unt (j := 1) hat dr (by decide) dk)) (by decide) (by decide) (by decide) (by decide) (by rw [hml]; rfl) rfl pd_1 rfl (Nat.le_of_eq rfl) (hb hby at_458) rfl ?_
    intro v13 T13 L13 X13 q13
    obtain ⟨rfl, Nq13, e13⟩ := q13
    have N13 := Fr.app N12 Nq13
    have M13 := M12
    refine g_ifF X13 hx 464 (hb hby at_461) (by decide) rfl ?_
    refine g_aload X13 hx 466 (hb hby at_464) rfl rfl rfl ?_
    refine g_iconst X13 hx 467 (hb hby at_466) (3 : Int32) (by decide) rfl ?_
    refine g_iload X13 hx 469 (hb hby at_467) rfl rfl ?_
    refine g_iload X13 hx 471 (hb hby at_469) rfl rfl ?_
    refine g_iload X13 hx 473 (hb hby at_471) rfl rfl ?_
    refine g_callS X13 hx hZ 476 [(.ref a), (.int (3 : Int32)), (.int off), (.int r), (.int sb)] [] 0 hown (hw _ (List.mem_of_getElem? (i := 7) rfl)) (hw _ (List.mem_of_getElem? (i := 8) rfl)) (hw _ (List.mem_of_getElem? (i := 9) rfl)) (hw _ (List.mem_of_getElem? (i := 10) rfl)) (by decide) e13 (rm2 l Z a0 hw [] a (3 : Int32) off r sb 3 f' T10.heap n0 M13 (by decide) (by decide) F_a (own_unt (j := 1) hat dr (by decide) dk)) (by decide) (by decide) (by decide) (by decide) (by rw [hml]; rfl) rfl pd_1 rfl (Nat.le_of_eq rfl) (hb hby at_473) rfl ?_
    intro v14 T14 L14 X14 q14
    obtain ⟨rfl, Nq14, e14⟩ := q14
    have N14 := Fr.app N13 Nq14
    have M14 := M13
    refine g_ifF X14 hx 479 (hb hby at_476) (by decide) rfl ?_
    refine g_aload X14 hx 481 (hb hby at_479) rfl rfl rfl ?_
    refine g_iconst X14 hx 482 (hb hby at_481) (4 : Int32) (by decide) rfl ?_
    refine g_iload X14 hx 484 (hb hby at_482) rfl rfl ?_
    refine g_iload X14 hx 486 (hb hby at_484) rfl rfl ?_
    refine g_iload X14 hx 488 (hb hby at_486) rfl rfl ?_
    refine g_callS X14 hx hZ 491 [(.ref a), (.int (4 : Int32)), (.int off), (.int r), (.int sb)] [] 0 hown (hw _ (List.mem_of_getElem? (i := 7) rfl)) (hw _ (List.mem_of_getElem? (i := 8) rfl)) (hw _ (List.mem_of_getElem? (i := 9) rfl)) (hw _ (List.mem_of_getElem? (i := 10) rfl)) (by decide) e14 (rm2 l Z a0 hw [] a (4 : Int32) off r sb 4 f' T10.heap n0 M14 (by decide) (by decide) F_a (own_unt (j := 1) hat dr (by decide) dk)) (by decide) (by decide) (by decide) (by decide) (by rw [hml]; rfl) rfl pd_1 rfl (Nat.le_of_eq rfl) (hb hby at_488) rfl ?_
    intro v15 T15 L15 X15 q15
    obtain ⟨rfl, Nq15, e15⟩ := q15
    have N15 := Fr.app N14 Nq15
    have M15 := M14
    refine g_ifF X15 hx 494 (hb hby at_491) (by decide) rfl ?_
    refine g_aload X15 hx 496 (hb hby at_494) rfl rfl rfl ?_
    refine g_iconst X15 hx 497 (hb hby at_496) (5 : Int32) (by decide) rfl ?_
    refine g_iload X15 hx 499 (hb hby at_497) rfl rfl ?_
    refine g_iload X15 hx 501 (hb hby at_499) rfl rfl ?_
    refine g_iload X15 hx 503 (hb hby at_501) rfl rfl ?_
    refine g_callS X15 hx hZ 506 [(.ref a), (.int (5 : Int32)), (.int off), (.int r), (.int sb)] [] 0 hown (hw _ (List.mem_of_getElem? (i := 7) rfl)) (hw _ (List.mem_of_getElem? (i := 8) rfl)) (hw _ (List.mem_of_getElem? (i := 9) rfl)) (hw _ (List.mem_of_getElem? (i := 10) rfl)) (by decide) e15 (rm2 l Z a0 hw [] a (5 : Int32) off r sb 5 f' T10.heap n0 M15 (by decide) (by decide) F_a (own_unt (j := 1) hat dr (by decide) dk)) (by decide) (by decide) (by decide) (by decide) (by rw [hml]; rfl) rfl pd_1 rfl (Nat.le_of_eq rfl) (hb hby at_503) rfl ?_
    intro v16 T16 L16 X16 q16
    obtain ⟨rfl, Nq16, e16⟩ := q16
    have N16 := Fr.app N15 Nq16
    have M16 := M15
    refine g_ifF X16 hx 509 (hb hby at_506) (by decide) rfl ?_
    refine g_aload X16 hx 511 (hb hby at_509) rfl rfl rfl ?_
    refine g_bipush X16 hx 513 (hb hby at_511) (6 : Int32) (by decide) rfl ?_
    refine g_iload X16 hx 515 (hb hby at_513) rfl rfl ?_
    refine g_iload X16 hx 517 (hb hby at_515) rfl rfl ?_
    refine g_iload X16 hx 519 (hb hby at_517) rfl rfl ?_
    refine g_callS X16 hx hZ 522 [(.ref a), (.int (6 : Int32)), (.int off), (.int r), (.int sb)] [] 0 hown (hw _ (List.mem_of_getElem? (i := 7) rfl)) (hw _ (List.mem_of_getElem? (i := 8) rfl)) (hw _ (List.mem_of_getElem? (i := 9) rfl)) (hw _ (List.mem_of_getElem? (i := 10) rfl)) (by decide) e16 (rm2 l Z a0 hw [] a (6 : Int32) off r sb 6 f' T10.heap n0 M16 (by decide) (by decide) F_a (own_unt (j := 1) hat dr (by decide) dk)) (by decide) (by decide) (by decide) (by decide) (by rw [hml]; rfl) rfl pd_1 rfl (Nat.le_of_eq rfl) (hb hby at_519) rfl ?_
    intro v17 T17 L17 X17 q17
    obtain ⟨rfl, Nq17, e17⟩ := q17
    have N17 := Fr.app N16 Nq17
    have M17 := M16
    refine g_ifF X17 hx 525 (hb hby at_522) (by decide) rfl ?_
    refine g_aload X17 hx 527 (hb hby at_525) rfl rfl rfl ?_
    refine g_bipush X17 hx 529 (hb hby at_527) (7 : Int32) (by decide) rfl ?_
    refine g_iload X17 hx 531 (hb hby at_529) rfl rfl ?_
    refine g_iload X17 hx 533 (hb hby at_531) rfl rfl ?_
    refine g_iload X17 hx 535 (hb hby at_533) rfl rfl ?_
    refine g_callS X17 hx hZ 538 [(.ref a), (.int (7 : Int32)), (.int off), (.int r), (.int sb)] [] 0 hown (hw _ (List.mem_of_getElem? (i := 7) rfl)) (hw _ (List.mem_of_getElem? (i := 8) rfl)) (hw _ (List.mem_of_getElem? (i := 9) rfl)) (hw _ (List.mem_of_getElem? (i := 10) rfl)) (by decide) e17 (rm2 l Z a0 hw [] a (7 : Int32) off r sb 7 f' T10.heap n0 M17 (by decide) (by decide) F_a (own_unt (j := 1) hat dr (by decide) dk)) (by decide) (by decide) (by decide) (by decide) (by rw [hml]; rfl) rfl pd_1 rfl (Nat.le_of_eq rfl) (hb hby at_535) rfl ?_
    intro v18 T18 L18 X18 q18
    obtain ⟨rfl, Nq18, e18⟩ := q18
    have N18 := Fr.app N17 Nq18
    have M18 := M17
    refine g_ifF X18 hx 541 (hb hby at_538) (by decide) rfl ?_
    refine g_iconst X18 hx 542 (hb hby at_541) (1 : Int32) (by decide) rfl ?_
    refine g_goto X18 hx 546 (hb hby at_542) (by decide) (by decide) ?_
    refine g_nret X18 hx (by simp) hret hlk (hb hby at_546) (by decide) (by decide) ?_
    exact ⟨rfl, N18⟩
  · rw [y128.1] at d1
    rw [y2048.1] at d2
    have hend : r = off + (2 : Int32) := Int32.toInt_inj.mp (by rw [dr, p2])
    have rch : 0 ≤ cp.toInt ∧ cp.toInt < 2048 := by omega
    have f0 := own_byte (v := V2a cp) (by rw [i_V2a rch]; omega)
    have f1 := own_byte (v := V2b cp) (by rw [i_V2b]; omega)
    obtain ⟨u1, u2, u5⟩ := own_two rch
    have g1 : (127 : Int32) < cp := y127.2.mpr (by omega)
    have g2 : ¬ (2047 : Int32) < cp := fun q => by have := y2047.2.mp q; omega
    refine g_iloadN X10 hx 79 (hb hby at_78) rfl rfl ?_
    refine g_bipush X10 hx 81 (hb hby at_79) (127 : Int32) (by decide) rfl ?_
    refine g_icT X10 hx 90 (hb hby at_81) (Jvm.Free.XT.ii_gt_t (show (127 : Int32) < cp from g1)) (by decide) (by decide) ?_
    refine g_iloadN X10 hx 91 (hb hby at_90) rfl rfl ?_
    refine g_sipush X10 hx 94 (hb hby at_91) (2047 : Int32) (by decide) rfl ?_
    refine g_icF X10 hx 97 (hb hby at_94) (Jvm.Free.XT.ii_gt_f (show ¬ ((2047 : Int32) < cp) from g2)) rfl ?_
    refine g_iconst X10 hx 98 (hb hby at_97) (2 : Int32) (by decide) rfl ?_
    refine g_istore X10 hx 100 (hb hby at_98) #[.val (.int x0), .val (.int x1), .val (.int x2), .val (.int cp), .val (.int off), .val (.int sb), .val (.ref a), .val (.int r), .val (.int (2 : Int32)), .unset, .unset, .unset, .unset, .unset, .unset] rfl rfl ?_
    refine g_goto X10 hx 118 (hb hby at_100) (by decide) (by decide) ?_
    refine g_iload X10 hx 120 (hb hby at_118) rfl rfl ?_
    refine g_iload X10 hx 122 (hb hby at_120) rfl rfl ?_
    refine g_iload X10 hx 124 (hb hby at_122) rfl rfl ?_
    refine g_iadd X10 hx 125 (hb hby at_124) rfl ?_
    refine g_icT X10 hx 130 (hb hby at_125) (Jvm.Free.XT.ii_eq_t (show r = (off + (2 : Int32)) from hend)) (by decide) (by decide) ?_
    refine g_aload X10 hx 132 (hb hby at_130) rfl rfl rfl ?_
    refine g_iload X10 hx 134 (hb hby at_132) rfl rfl ?_
    refine g_baload X10 hx hZ 135 e10 F_a (hb hby at_134) (o) hat (by omega) (.int (V2a cp).toInt8.toInt32) t0 rfl ?_
    refine g_sipush X10 hx 138 (hb hby at_135) (255 : Int32) (by decide) rfl ?_
    refine g_iand X10 hx 139 (hb hby at_138) rfl ?_
    refine g_istore X10 hx 141 (hb hby at_139) #[.val (.int x0), .val (.int x1), .val (.int x2), .val (.int cp), .val (.int off), .val (.int sb), .val (.ref a), .val (.int r), .val (.int (2 : Int32)), .val (.int ((V2a cp).toInt8.toInt32 &&& (255 : Int32))), .unset, .unset, .unset, .unset, .unset] rfl rfl ?_
    rw [f0]
    refine g_aload X10 hx 143 (hb hby at_141) rfl rfl rfl ?_
    refine g_iload X10 hx 145 (hb hby at_143) rfl rfl ?_
    refine g_iconst X10 hx 146 (hb hby at_145) (1 : Int32) (by decide) rfl ?_
    refine g_iadd X10 hx 147 (hb hby at_146) rfl ?_
    refine g_baload X10 hx hZ 148 e10 F_a (hb hby at_147) (o + 1) p1 (by omega) (.int (V2b cp).toInt8.toInt32) t1 rfl ?_
    refine g_sipush X10 hx 151 (hb hby at_148) (255 : Int32) (by decide) rfl ?_
    refine g_iand X10 hx 152 (hb hby at_151) rfl ?_
    refine g_istore X10 hx 154 (hb hby at_152) #[.val (.int x0), .val (.int x1), .val (.int x2), .val (.int cp), .val (.int off), .val (.int sb), .val (.ref a), .val (.int r), .val (.int (2 : Int32)), .val (.int (V2a cp)), .val (.int ((V2b cp).toInt8.toInt32 &&& (255 : Int32))), .unset, .unset, .unset, .unset] rfl rfl ?_
    rw [f1]
    refine g_aload X10 hx 156 (hb hby at_154) rfl rfl rfl ?_
    refine g_iload X10 hx 158 (hb hby at_156) rfl rfl ?_
    refine g_iconst X10 hx 159 (hb hby at_158) (2 : Int32) (by decide) rfl ?_
    refine g_iadd X10 hx 160 (hb hby at_159) rfl ?_
    refine g_baload X10 hx hZ 161 e10 F_a (hb hby at_160) (o + 2) p2 (by omega) (.int sb) (dk _ (by omega)) rfl ?_
    refine g_sipush X10 hx 164 (hb hby at_161) (255 : Int32) (by decide) rfl ?_
    refine g_iand X10 hx 165 (hb hby at_164) rfl ?_
    refine g_istore X10 hx 167 (hb hby at_165) #[.val (.int x0), .val (.int x1), .val (.int x2), .val (.int cp), .val (.int off), .val (.int sb), .val (.ref a), .val (.int r), .val (.int (2 : Int32)), .val (.int (V2a cp)), .val (.int (V2b cp)), .val (.int (sb &&& (255 : Int32))), .unset, .unset, .unset] rfl rfl ?_
    refine g_aload X10 hx 169 (hb hby at_167) rfl rfl rfl ?_
    refine g_iload X10 hx 171 (hb hby at_169) rfl rfl ?_
    refine g_iconst X10 hx 172 (hb hby at_171) (3 : Int32) (by decide) rfl ?_
    refine g_iadd X10 hx 173 (hb hby at_172) rfl ?_
    refine g_baload X10 hx hZ 174 e10 F_a (hb hby at_173) (o + 3) p3 (by omega) (.int sb) (dk _ (by omega)) rfl ?_
    refine g_sipush X10 hx 177 (hb hby at_174) (255 : Int32) (by decide) rfl ?_
    refine g_iand X10 hx 178 (hb hby at_177) rfl ?_
    refine g_istore X10 hx 180 (hb hby at_178) #[.val (.int x0), .val (.int x1), .val (.int x2), .val (.int cp), .val (.int off), .val (.int sb), .val (.ref a), .val (.int r), .val (.int (2 : Int32)), .val (.int (V2a cp)), .val (.int (V2b cp)), .val (.int (sb &&& (255 : Int32))), .val (.int (sb &&& (255 : Int32))), .unset, .unset] rfl rfl ?_
    refine g_iload X10 hx 182 (hb hby at_180) rfl rfl ?_
    refine g_iconst X10 hx 183 (hb hby at_182) (1 : Int32) (by decide) rfl ?_
    refine g_icT X10 hx 208 (hb hby at_183) (by decide) (by decide) (by decide) ?_
    refine g_iload X10 hx 210 (hb hby at_208) rfl rfl ?_
    refine g_iconst X10 hx 211 (hb hby at_210) (2 : Int32) (by decide) rfl ?_
    refine g_icF X10 hx 214 (hb hby at_211) (by decide) rfl ?_
    refine g_iload X10 hx 216 (hb hby at_214) rfl rfl ?_
    refine g_sipush X10 hx 219 (hb hby at_216) (224 : Int32) (by decide) rfl ?_
    refine g_iand X10 hx 220 (hb hby at_219) rfl ?_
    refine g_sipush X10 hx 223 (hb hby at_220) (192 : Int32) (by decide) rfl ?_
    refine g_icF X10 hx 226 (hb hby at_223) (Jvm.Free.XT.ii_ne_f (show ((V2a cp) &&& (224 : Int32)) = (192 : Int32) from u1)) rfl ?_
    refine g_iload X10 hx 228 (hb hby at_226) rfl rfl ?_
    refine g_callS X10 hx hZ 231 [(.int (V2b cp))] [] 0 hown (hw _ (List.mem_of_getElem? (i := 11) rfl)) (hw _ (List.mem_of_getElem? (i := 12) rfl)) (hw _ (List.mem_of_getElem? (i := 9) rfl)) (hw _ (List.mem_of_getElem? (i := 13) rfl)) (by decide) e10 (rm3 l Z a0 hw [] (V2b cp) T10.heap n0 M10 u2) (by decide) (by decide) (by decide) (by decide) (by rw [hml]; rfl) rfl pd_2 rfl (Nat.le_of_eq rfl) (hb hby at_228) rfl ?_
    intro v19 T19 L19 X19 q19
    obtain ⟨rfl, Nq19, e19⟩ := q19
    have N19 := Fr.app N10 Nq19
    have M19 := M10
    refine g_ifF X19 hx 234 (hb hby at_231) (by decide) rfl ?_
    refine g_iconst X19 hx 235 (hb hby at_234) (1 : Int32) (by decide) rfl ?_
    refine g_goto X19 hx 239 (hb hby at_235) (by decide) (by decide) ?_
    refine g_istore X19 hx 241 (hb hby at_239) #[.val (.int x0), .val (.int x1), .val (.int x2), .val (.int cp), .val (.int off), .val (.int sb), .val (.ref a), .val (.int r), .val (.int (2 : Int32)), .val (.int (V2a cp)), .val (.int (V2b cp)), .val (.int (sb &&& (255 : Int32))), .val (.int (sb &&& (255 : Int32))), .val (.int (1 : Int32)), .unset] rfl rfl ?_
    refine g_iload X19 hx 243 (hb hby at_241) rfl rfl ?_
    refine g_bipush X19 hx 245 (hb hby at_243) (31 : Int32) (by decide) rfl ?_
    refine g_iand X19 hx 246 (hb hby at_245) rfl ?_
    refine g_bipush X19 hx 248 (hb hby at_246) (6 : Int32) (by decide) rfl ?_
    refine g_ishl X19 hx 249 (hb hby at_248) rfl ?_
    refine g_iload X19 hx 251 (hb hby at_249) rfl rfl ?_
    refine g_bipush X19 hx 253 (hb hby at_251) (63 : Int32) (by decide) rfl ?_
    refine g_iand X19 hx 254 (hb hby at_253) rfl ?_
    refine g_ior X19 hx 255 (hb hby at_254) rfl ?_
    refine g_istore X19 hx 257 (hb hby at_255) #[.val (.int x0), .val (.int x1), .val (.int x2), .val (.int cp), .val (.int off), .val (.int sb), .val (.ref a), .val (.int r), .val (.int (2 : Int32)), .val (.int (V2a cp)), .val (.int (V2b cp)), .val (.int (sb &&& (255 : Int32))), .val (.int (sb &&& (255 : Int32))), .val (.int (1 : Int32)), .val (.int ((((V2a cp) &&& (31 : Int32)) <<< ((6 : Int32) &&& 31)) ||| ((V2b cp) &&& (63 : Int32))))] rfl rfl ?_
    refine g_goto X19 hx 406 (hb hby at_257) (by decide) (by decide) ?_
    refine g_iload X19 hx 408 (hb hby at_406) rfl rfl ?_
    refine g_ifF X19 hx 411 (hb hby at_408) (by decide) rfl ?_
    refine g_iload X19 hx 413 (hb hby at_411) rfl rfl ?_
    refine g_iloadN X19 hx 414 (hb hby at_413) rfl rfl ?_
    refine g_icT X19 hx 419 (hb hby at_414) (Jvm.Free.XT.ii_eq_t (show ((((V2a cp) &&& (31 : Int32)) <<< ((6 : Int32) &&& 31)) ||| ((V2b cp) &&& (63 : Int32))) = cp from u5)) (by decide) (by decide) ?_
    refine g_aload X19 hx 421 (hb hby at_419) rfl rfl rfl ?_
    refine g_iconst X19 hx 422 (hb hby at_421) (0 : Int32) (by decide) rfl ?_
    refine g_iload X19 hx 424 (hb hby at_422) rfl rfl ?_
    refine g_iload X19 hx 426 (hb hby at_424) rfl rfl ?_
    refine g_iload X19 hx 428 (hb hby at_426) rfl rfl ?_
    refine g_callS X19 hx hZ 431 [(.ref a), (.int (0 : Int32)), (.int off), (.int r), (.int sb)] [] 0 hown (hw _ (List.mem_of_getElem? (i := 7) rfl)) (hw _ (List.mem_of_getElem? (i := 8) rfl)) (hw _ (List.mem_of_getElem? (i := 9) rfl)) (hw _ (List.mem_of_getElem? (i := 10) rfl)) (by decide) e19 (rm2 l Z a0 hw [] a (0 : Int32) off r sb 0 f' T10.heap n0 M19 (by decide) (by decide) F_a (own_unt (j := 2) hat dr (by decide) dk)) (by decide) (by decide) (by decide) (by decide) (by rw [hml]; rfl) rfl pd_1 rfl (Nat.le_of_eq rfl) (hb hby at_428) rfl ?_
    intro v20 T20 L20 X20 q20
    obtain ⟨rfl, Nq20, e20⟩ := q20
    have N20 := Fr.app N19 Nq20
    have M20 := M19
    refine g_ifF X20 hx 434 (hb hby at_431) (by decide) rfl ?_
    refine g_aload X20 hx 436 (hb hby at_434) rfl rfl rfl ?_
    refine g_iconst X20 hx 437 (hb hby at_436) (1 : Int32) (by decide) rfl ?_
    refine g_iload X20 hx 439 (hb hby at_437) rfl rfl ?_
    refine g_iload X20 hx 441 (hb hby at_439) rfl rfl ?_
    refine g_iload X20 hx 443 (hb hby at_441) rfl rfl ?_
    refine g_callS X20 hx hZ 446 [(.ref a), (.int (1 : Int32)), (.int off), (.int r), (.int sb)] [] 0 hown (hw _ (List.mem_of_getElem? (i := 7) rfl)) (hw _ (List.mem_of_getElem? (i := 8) rfl)) (hw _ (List.mem_of_getElem? (i := 9) rfl)) (hw _ (List.mem_of_getElem? (i := 10) rfl)) (by decide) e20 (rm2 l Z a0 hw [] a (1 : Int32) off r sb 1 f' T10.heap n0 M20 (by decide) (by decide) F_a (own_unt (j := 2) hat dr (by decide) dk)) (by decide) (by decide) (by decide) (by decide) (by rw [hml]; rfl) rfl pd_1 rfl (Nat.le_of_eq rfl) (hb hby at_443) rfl ?_
    intro v21 T21 L21 X21 q21
    obtain ⟨rfl, Nq21, e21⟩ := q21
    have N21 := Fr.app N20 Nq21
    have M21 := M20
    refine g_ifF X21 hx 449 (hb hby at_446) (by decide) rfl ?_
    refine g_aload X21 hx 451 (hb hby at_449) rfl rfl rfl ?_
    refine g_iconst X21 hx 452 (hb hby at_451) (2 : Int32) (by decide) rfl ?_
    refine g_iload X21 hx 454 (hb hby at_452) rfl rfl ?_
    refine g_iload X21 hx 456 (hb hby at_454) rfl rfl ?_
    refine g_iload X21 hx 458 (hb hby at_456) rfl rfl ?_
    refine g_callS X21 hx hZ 461 [(.ref a), (.int (2 : Int32)), (.int off), (.int r), (.int sb)] [] 0 hown (hw _ (List.mem_of_getElem? (i := 7) rfl)) (hw _ (List.mem_of_getElem? (i := 8) rfl)) (hw _ (List.mem_of_getElem? (i := 9) rfl)) (hw _ (List.mem_of_getElem? (i := 10) rfl)) (by decide) e21 (rm2 l Z a0 hw [] a (2 : Int32) off r sb 2 f' T10.heap n0 M21 (by decide) (by decide) F_a (own_unt (j := 2) hat dr (by decide) dk)) (by decide) (by decide) (by decide) (by decide) (by rw [hml]; rfl) rfl pd_1 rfl (Nat.le_of_eq rfl) (hb hby at_458) rfl ?_
    intro v22 T22 L22 X22 q22
    obtain ⟨rfl, Nq22, e22⟩ := q22
    have N22 := Fr.app N21 Nq22
    have M22 := M21
    refine g_ifF X22 hx 464 (hb hby at_461) (by decide) rfl ?_
    refine g_aload X22 hx 466 (hb hby at_464) rfl rfl rfl ?_
    refine g_iconst X22 hx 467 (hb hby at_466) (3 : Int32) (by decide) rfl ?_
    refine g_iload X22 hx 469 (hb hby at_467) rfl rfl ?_
    refine g_iload X22 hx 471 (hb hby at_469) rfl rfl ?_
    refine g_iload X22 hx 473 (hb hby at_471) rfl rfl ?_
    refine g_callS X22 hx hZ 476 [(.ref a), (.int (3 : Int32)), (.int off), (.int r), (.int sb)] [] 0 hown (hw _ (List.mem_of_getElem? (i := 7) rfl)) (hw _ (List.mem_of_getElem? (i := 8) rfl)) (hw _ (List.mem_of_getElem? (i := 9) rfl)) (hw _ (List.mem_of_getElem? (i := 10) rfl)) (by decide) e22 (rm2 l Z a0 hw [] a (3 : Int32) off r sb 3 f' T10.heap n0 M22 (by decide) (by decide) F_a (own_unt (j := 2) hat dr (by decide) dk)) (by decide) (by decide) (by decide) (by decide) (by rw [hml]; rfl) rfl pd_1 rfl (Nat.le_of_eq rfl) (hb hby at_473) rfl ?_
    intro v23 T23 L23 X23 q23
    obtain ⟨rfl, Nq23, e23⟩ := q23
    have N23 := Fr.app N22 Nq23
    have M23 := M22
    refine g_ifF X23 hx 479 (hb hby at_476) (by decide) rfl ?_
    refine g_aload X23 hx 481 (hb hby at_479) rfl rfl rfl ?_
    refine g_iconst X23 hx 482 (hb hby at_481) (4 : Int32) (by decide) rfl ?_
    refine g_iload X23 hx 484 (hb hby at_482) rfl rfl ?_
    refine g_iload X23 hx 486 (hb hby at_484) rfl rfl ?_
    refine g_iload X23 hx 488 (hb hby at_486) rfl rfl ?_
    refine g_callS X23 hx hZ 491 [(.ref a), (.int (4 : Int32)), (.int off), (.int r), (.int sb)] [] 0 hown (hw _ (List.mem_of_getElem? (i := 7) rfl)) (hw _ (List.mem_of_getElem? (i := 8) rfl)) (hw _ (List.mem_of_getElem? (i := 9) rfl)) (hw _ (List.mem_of_getElem? (i := 10) rfl)) (by decide) e23 (rm2 l Z a0 hw [] a (4 : Int32) off r sb 4 f' T10.heap n0 M23 (by decide) (by decide) F_a (own_unt (j := 2) hat dr (by decide) dk)) (by decide) (by decide) (by decide) (by decide) (by rw [hml]; rfl) rfl pd_1 rfl (Nat.le_of_eq rfl) (hb hby at_488) rfl ?_
    intro v24 T24 L24 X24 q24
    obtain ⟨rfl, Nq24, e24⟩ := q24
    have N24 := Fr.app N23 Nq24
    have M24 := M23
    refine g_ifF X24 hx 494 (hb hby at_491) (by decide) rfl ?_
    refine g_aload X24 hx 496 (hb hby at_494) rfl rfl rfl ?_
    refine g_iconst X24 hx 497 (hb hby at_496) (5 : Int32) (by decide) rfl ?_
    refine g_iload X24 hx 499 (hb hby at_497) rfl rfl ?_
    refine g_iload X24 hx 501 (hb hby at_499) rfl rfl ?_
    refine g_iload X24 hx 503 (hb hby at_501) rfl rfl ?_
    refine g_callS X24 hx hZ 506 [(.ref a), (.int (5 : Int32)), (.int off), (.int r), (.int sb)] [] 0 hown (hw _ (List.mem_of_getElem? (i := 7) rfl)) (hw _ (List.mem_of_getElem? (i := 8) rfl)) (hw _ (List.mem_of_getElem? (i := 9) rfl)) (hw _ (List.mem_of_getElem? (i := 10) rfl)) (by decide) e24 (rm2 l Z a0 hw [] a (5 : Int32) off r sb 5 f' T10.heap n0 M24 (by decide) (by decide) F_a (own_unt (j := 2) hat dr (by decide) dk)) (by decide) (by decide) (by decide) (by decide) (by rw [hml]; rfl) rfl pd_1 rfl (Nat.le_of_eq rfl) (hb hby at_503) rfl ?_
    intro v25 T25 L25 X25 q25
    obtain ⟨rfl, Nq25, e25⟩ := q25
    have N25 := Fr.app N24 Nq25
    have M25 := M24
    refine g_ifF X25 hx 509 (hb hby at_506) (by decide) rfl ?_
    refine g_aload X25 hx 511 (hb hby at_509) rfl rfl rfl ?_
    refine g_bipush X25 hx 513 (hb hby at_511) (6 : Int32) (by decide) rfl ?_
    refine g_iload X25 hx 515 (hb hby at_513) rfl rfl ?_
    refine g_iload X25 hx 517 (hb hby at_515) rfl rfl ?_
    refine g_iload X25 hx 519 (hb hby at_517) rfl rfl ?_
    refine g_callS X25 hx hZ 522 [(.ref a), (.int (6 : Int32)), (.int off), (.int r), (.int sb)] [] 0 hown (hw _ (List.mem_of_getElem? (i := 7) rfl)) (hw _ (List.mem_of_getElem? (i := 8) rfl)) (hw _ (List.mem_of_getElem? (i := 9) rfl)) (hw _ (List.mem_of_getElem? (i := 10) rfl)) (by decide) e25 (rm2 l Z a0 hw [] a (6 : Int32) off r sb 6 f' T10.heap n0 M25 (by decide) (by decide) F_a (own_unt (j := 2) hat dr (by decide) dk)) (by decide) (by decide) (by decide) (by decide) (by rw [hml]; rfl) rfl pd_1 rfl (Nat.le_of_eq rfl) (hb hby at_519) rfl ?_
    intro v26 T26 L26 X26 q26
    obtain ⟨rfl, Nq26, e26⟩ := q26
    have N26 := Fr.app N25 Nq26
    have M26 := M25
    refine g_ifF X26 hx 525 (hb hby at_522) (by decide) rfl ?_
    refine g_aload X26 hx 527 (hb hby at_525) rfl rfl rfl ?_
    refine g_bipush X26 hx 529 (hb hby at_527) (7 : Int32) (by decide) rfl ?_
    refine g_iload X26 hx 531 (hb hby at_529) rfl rfl ?_
    refine g_iload X26 hx 533 (hb hby at_531) rfl rfl ?_
    refine g_iload X26 hx 535 (hb hby at_533) rfl rfl ?_
    refine g_callS X26 hx hZ 538 [(.ref a), (.int (7 : Int32)), (.int off), (.int r), (.int sb)] [] 0 hown (hw _ (List.mem_of_getElem? (i := 7) rfl)) (hw _ (List.mem_of_getElem? (i := 8) rfl)) (hw _ (List.mem_of_getElem? (i := 9) rfl)) (hw _ (List.mem_of_getElem? (i := 10) rfl)) (by decide) e26 (rm2 l Z a0 hw [] a (7 : Int32) off r sb 7 f' T10.heap n0 M26 (by decide) (by decide) F_a (own_unt (j := 2) hat dr (by decide) dk)) (by decide) (by decide) (by decide) (by decide) (by rw [hml]; rfl) rfl pd_1 rfl (Nat.le_of_eq rfl) (hb hby at_535) rfl ?_
    intro v27 T27 L27 X27 q27
    obtain ⟨rfl, Nq27, e27⟩ := q27
    have N27 := Fr.app N26 Nq27
    have M27 := M26
    refine g_ifF X27 hx 541 (hb hby at_538) (by decide) rfl ?_
    refine g_iconst X27 hx 542 (hb hby at_541) (1 : Int32) (by decide) rfl ?_
    refine g_goto X27 hx 546 (hb hby at_542) (by decide) (by decide) ?_
    refine g_nret X27 hx (by simp) hret hlk (hb hby at_546) (by decide) (by decide) ?_
    exact ⟨rfl, N27⟩
  · rw [y2048.1] at d1
    rw [y65536.1] at d2
    have hend : r = off + (3 : Int32) := Int32.toInt_inj.mp (by rw [dr, p3])
    have rch : 0 ≤ cp.toInt ∧ cp.toInt < 65536 := by omega
    have f0 := own_byte (v := V3a cp) (by rw [i_V3a rch]; omega)
    have f1 := own_byte (v := V3b cp) (by rw [i_V3b]; omega)
    have f2 := own_byte (v := V2b cp) (by rw [i_V2b]; omega)
    obtain ⟨u1, u2, u3, u5⟩ := own_three rch
    have g1 : (127 : Int32) < cp := y127.2.mpr (by omega)
    have g2 : (2047 : Int32) < cp := y2047.2.mpr (by omega)
    have g3 : ¬ (65535 : Int32) < cp := fun q => by have := y65535.2.mp q; omega
    refine g_iloadN X10 hx 79 (hb hby at_78) rfl rfl ?_
    refine g_bipush X10 hx 81 (hb hby at_79) (127 : Int32) (by decide) rfl ?_
    refine g_icT X10 hx 90 (hb hby at_81) (Jvm.Free.XT.ii_gt_t (show (127 : Int32) < cp from g1)) (by decide) (by decide) ?_
    refine g_iloadN X10 hx 91 (hb hby at_90) rfl rfl ?_
    refine g_sipush X10 hx 94 (hb hby at_91) (2047 : Int32) (by decide) rfl ?_
    refine g_icT X10 hx 103 (hb hby at_94) (Jvm.Free.XT.ii_gt_t (show (2047 : Int32) < cp from g2)) (by decide) (by decide) ?_
    refine g_iloadN X10 hx 104 (hb hby at_103) rfl rfl ?_
    refine g_ldcI X10 hx hZ (65535 : Int32) hown (hw _ (List.mem_of_getElem? (i := 15) rfl)) 106 (hb hby at_104) rfl ?_
    refine g_icF X10 hx 109 (hb hby at_106) (Jvm.Free.XT.ii_gt_f (show ¬ ((65535 : Int32) < cp) from g3)) rfl ?_
    refine g_iconst X10 hx 110 (hb hby at_109) (3 : Int32) (by decide) rfl ?_
    refine g_istore X10 hx 112 (hb hby at_110) #[.val (.int x0), .val (.int x1), .val (.int x2), .val (.int cp), .val (.int off), .val (.int sb), .val (.ref a), .val (.int r), .val (.int (3 : Int32)), .unset, .unset, .unset, .unset, .unset, .unset] rfl rfl ?_
    refine g_goto X10 hx 118 (hb hby at_112) (by decide) (by decide) ?_
    refine g_iload X10 hx 120 (hb hby at_118) rfl rfl ?_
    refine g_iload X10 hx 122 (hb hby at_120) rfl rfl ?_
    refine g_iload X10 hx 124 (hb hby at_122) rfl rfl ?_
    refine g_iadd X10 hx 125 (hb hby at_124) rfl ?_
    refine g_icT X10 hx 130 (hb hby at_125) (Jvm.Free.XT.ii_eq_t (show r = (off + (3 : Int32)) from hend)) (by decide) (by decide) ?_
    refine g_aload X10 hx 132 (hb hby at_130) rfl rfl rfl ?_
    refine g_iload X10 hx 134 (hb hby at_132) rfl rfl ?_
    refine g_baload X10 hx hZ 135 e10 F_a (hb hby at_134) (o) hat (by omega) (.int (V3a cp).toInt8.toInt32) t0 rfl ?_
    refine g_sipush X10 hx 138 (hb hby at_135) (255 : Int32) (by decide) rfl ?_
    refine g_iand X10 hx 139 (hb hby at_138) rfl ?_
    refine g_istore X10 hx 141 (hb hby at_139) #[.val (.int x0), .val (.int x1), .val (.int x2), .val (.int cp), .val (.int off), .val (.int sb), .val (.ref a), .val (.int r), .val (.int (3 : Int32)), .val (.int ((V3a cp).toInt8.toInt32 &&& (255 : Int32))), .unset, .unset, .unset, .unset, .unset] rfl rfl ?_
    rw [f0]
    refine g_aload X10 hx 143 (hb hby at_141) rfl rfl rfl ?_
    refine g_iload X10 hx 145 (hb hby at_143) rfl rfl ?_
    refine g_iconst X10 hx 146 (hb hby at_145) (1 : Int32) (by decide) rfl ?_
    refine g_iadd X10 hx 147 (hb hby at_146) rfl ?_
    refine g_baload X10 hx hZ 148 e10 F_a (hb hby at_147) (o + 1) p1 (by omega) (.int (V3b cp).toInt8.toInt32) t1 rfl ?_
    refine g_sipush X10 hx 151 (hb hby at_148) (255 : Int32) (by decide) rfl ?_
    refine g_iand X10 hx 152 (hb hby at_151) rfl ?_
    refine g_istore X10 hx 154 (hb hby at_152) #[.val (.int x0), .val (.int x1), .val (.int x2), .val (.int cp), .val (.int off), .val (.int sb), .val (.ref a), .val (.int r), .val (.int (3 : Int32)), .val (.int (V3a cp)), .val (.int ((V3b cp).toInt8.toInt32 &&& (255 : Int32))), .unset, .unset, .unset, .unset] rfl rfl ?_
    rw [f1]
    refine g_aload X10 hx 156 (hb hby at_154) rfl rfl rfl ?_
    refine g_iload X10 hx 158 (hb hby at_156) rfl rfl ?_
    refine g_iconst X10 hx 159 (hb hby at_158) (2 : Int32) (by decide) rfl ?_
    refine g_iadd X10 hx 160 (hb hby at_159) rfl ?_
    refine g_baload X10 hx hZ 161 e10 F_a (hb hby at_160) (o + 2) p2 (by omega) (.int (V2b cp).toInt8.toInt32) t2 rfl ?_
    refine g_sipush X10 hx 164 (hb hby at_161) (255 : Int32) (by decide) rfl ?_
    refine g_iand X10 hx 165 (hb hby at_164) rfl ?_
    refine g_istore X10 hx 167 (hb hby at_165) #[.val (.int x0), .val (.int x1), .val (.int x2), .val (.int cp), .val (.int off), .val (.int sb), .val (.ref a), .val (.int r), .val (.int (3 : Int32)), .val (.int (V3a cp)), .val (.int (V3b cp)), .val (.int ((V2b cp).toInt8.toInt32 &&& (255 : Int32))), .unset, .unset, .unset] rfl rfl ?_
    rw [f2]
    refine g_aload X10 hx 169 (hb hby at_167) rfl rfl rfl ?_
    refine g_iload X10 hx 171 (hb hby at_169) rfl rfl ?_
    refine g_iconst X10 hx 172 (hb hby at_171) (3 : Int32) (by decide) rfl ?_
    refine g_iadd X10 hx 173 (hb hby at_172) rfl ?_
    refine g_baload X10 hx hZ 174 e10 F_a (hb hby at_173) (o + 3) p3 (by omega) (.int sb) (dk _ (by omega)) rfl ?_
    refine g_sipush X10 hx 177 (hb hby at_174) (255 : Int32) (by decide) rfl ?_
    refine g_iand X10 hx 178 (hb hby at_177) rfl ?_
    refine g_istore X10 hx 180 (hb hby at_178) #[.val (.int x0), .val (.int x1), .val (.int x2), .val (.int cp), .val (.int off), .val (.int sb), .val (.ref a), .val (.int r), .val (.int (3 : Int32)), .val (.int (V3a cp)), .val (.int (V3b cp)), .val (.int (V2b cp)), .val (.int (sb &&& (255 : Int32))), .unset, .unset] rfl rfl ?_
    refine g_iload X10 hx 182 (hb hby at_180) rfl rfl ?_
    refine g_iconst X10 hx 183 (hb hby at_182) (1 : Int32) (by decide) rfl ?_
    refine g_icT X10 hx 208 (hb hby at_183) (by decide) (by decide) (by decide) ?_
    refine g_iload X10 hx 210 (hb hby at_208) rfl rfl ?_
    refine g_iconst X10 hx 211 (hb hby at_210) (2 : Int32) (by decide) rfl ?_
    refine g_icT X10 hx 260 (hb hby at_211) (by decide) (by decide) (by decide) ?_
    refine g_iload X10 hx 262 (hb hby at_260) rfl rfl ?_
    refine g_iconst X10 hx 263 (hb hby at_262) (3 : Int32) (by decide) rfl ?_
    refine g_icF X10 hx 266 (hb hby at_263) (by decide) rfl ?_
    refine g_iload X10 hx 268 (hb hby at_266) rfl rfl ?_
    refine g_sipush X10 hx 271 (hb hby at_268) (240 : Int32) (by decide) rfl ?_
    refine g_iand X10 hx 272 (hb hby at_271) rfl ?_
    refine g_sipush X10 hx 275 (hb hby at_272) (224 : Int32) (by decide) rfl ?_
    refine g_icF X10 hx 278 (hb hby at_275) (Jvm.Free.XT.ii_ne_f (show ((V3a cp) &&& (240 : Int32)) = (224 : Int32) from u1)) rfl ?_
    refine g_iload X10 hx 280 (hb hby at_278) rfl rfl ?_
    refine g_callS X10 hx hZ 283 [(.int (V3b cp))] [] 0 hown (hw _ (List.mem_of_getElem? (i := 11) rfl)) (hw _ (List.mem_of_getElem? (i := 12) rfl)) (hw _ (List.mem_of_getElem? (i := 9) rfl)) (hw _ (List.mem_of_getElem? (i := 13) rfl)) (by decide) e10 (rm3 l Z a0 hw [] (V3b cp) T10.heap n0 M10 u2) (by decide) (by decide) (by decide) (by decide) (by rw [hml]; rfl) rfl pd_2 rfl (Nat.le_of_eq rfl) (hb hby at_280) rfl ?_
    intro v28 T28 L28 X28 q28
    obtain ⟨rfl, Nq28, e28⟩ := q28
    have N28 := Fr.app N10 Nq28
    have M28 := M10
    refine g_ifF X28 hx 286 (hb hby at_283) (by decide) rfl ?_
    refine g_iload X28 hx 288 (hb hby at_286) rfl rfl ?_
    refine g_callS X28 hx hZ 291 [(.int (V2b cp))] [] 0 hown (hw _ (List.mem_of_getElem? (i := 11) rfl)) (hw _ (List.mem_of_getElem? (i := 12) rfl)) (hw _ (List.mem_of_getElem? (i := 9) rfl)) (hw _ (List.mem_of_getElem? (i := 13) rfl)) (by decide) e28 (rm3 l Z a0 hw [] (V2b cp) T10.heap n0 M28 u3) (by decide) (by decide) (by decide) (by decide) (by rw [hml]; rfl) rfl pd_2 rfl (Nat.le_of_eq rfl) (hb hby at_288) rfl ?_
    intro v29 T29 L29 X29 q29
    obtain ⟨rfl, Nq29, e29⟩ := q29
    have N29 := Fr.app N28 Nq29
    have M29 := M28
    refine g_ifF X29 hx 294 (hb hby at_291) (by decide) rfl ?_
    refine g_iconst X29 hx 295 (hb hby at_294) (1 : Int32) (by decide) rfl ?_
    refine g_goto X29 hx 299 (hb hby at_295) (by decide) (by decide) ?_
    refine g_istore X29 hx 301 (hb hby at_299) #[.val (.int x0), .val (.int x1), .val (.int x2), .val (.int cp), .val (.int off), .val (.int sb), .val (.ref a), .val (.int r), .val (.int (3 : Int32)), .val (.int (V3a cp)), .val (.int (V3b cp)), .val (.int (V2b cp)), .val (.int (sb &&& (255 : Int32))), .val (.int (1 : Int32)), .unset] rfl rfl ?_
    refine g_iload X29 hx 303 (hb hby at_301) rfl rfl ?_
    refine g_bipush X29 hx 305 (hb hby at_303) (15 : Int32) (by decide) rfl ?_
    refine g_iand X29 hx 306 (hb hby at_305) rfl ?_
    refine g_bipush X29 hx 308 (hb hby at_306) (12 : Int32) (by decide) rfl ?_
    refine g_ishl X29 hx 309 (hb hby at_308) rfl ?_
    refine g_iload X29 hx 311 (hb hby at_309) rfl rfl ?_
    refine g_bipush X29 hx 313 (hb hby at_311) (63 : Int32) (by decide) rfl ?_
    refine g_iand X29 hx 314 (hb hby at_313) rfl ?_
    refine g_bipush X29 hx 316 (hb hby at_314) (6 : Int32) (by decide) rfl ?_
    refine g_ishl X29 hx 317 (hb hby at_316) rfl ?_
    refine g_ior X29 hx 318 (hb hby at_317) rfl ?_
    refine g_iload X29 hx 320 (hb hby at_318) rfl rfl ?_
    refine g_bipush X29 hx 322 (hb hby at_320) (63 : Int32) (by decide) rfl ?_
    refine g_iand X29 hx 323 (hb hby at_322) rfl ?_
    refine g_ior X29 hx 324 (hb hby at_323) rfl ?_
    refine g_istore X29 hx 326 (hb hby at_324) #[.val (.int x0), .val (.int x1), .val (.int x2), .val (.int cp), .val (.int off), .val (.int sb), .val (.ref a), .val (.int r), .val (.int (3 : Int32)), .val (.int (V3a cp)), .val (.int (V3b cp)), .val (.int (V2b cp)), .val (.int (sb &&& (255 : Int32))), .val (.int (1 : Int32)), .val (.int (((((V3a cp) &&& (15 : Int32)) <<< ((12 : Int32) &&& 31)) ||| (((V3b cp) &&& (63 : Int32)) <<< ((6 : Int32) &&& 31))) ||| ((V2b cp) &&& (63 : Int32))))] rfl rfl ?_
    refine g_goto X29 hx 406 (hb hby at_326) (by decide) (by decide) ?_
    refine g_iload X29 hx 408 (hb hby at_406) rfl rfl ?_
    refine g_ifF X29 hx 411 (hb hby at_408) (by decide) rfl ?_
    refine g_iload X29 hx 413 (hb hby at_411) rfl rfl ?_
    refine g_iloadN X29 hx 414 (hb hby at_413) rfl rfl ?_
    refine g_icT X29 hx 419 (hb hby at_414) (Jvm.Free.XT.ii_eq_t (show (((((V3a cp) &&& (15 : Int32)) <<< ((12 : Int32) &&& 31)) ||| (((V3b cp) &&& (63 : Int32)) <<< ((6 : Int32) &&& 31))) ||| ((V2b cp) &&& (63 : Int32))) = cp from u5)) (by decide) (by decide) ?_
    refine g_aload X29 hx 421 (hb hby at_419) rfl rfl rfl ?_
    refine g_iconst X29 hx 422 (hb hby at_421) (0 : Int32) (by decide) rfl ?_
    refine g_iload X29 hx 424 (hb hby at_422) rfl rfl ?_
    refine g_iload X29 hx 426 (hb hby at_424) rfl rfl ?_
    refine g_iload X29 hx 428 (hb hby at_426) rfl rfl ?_
    refine g_callS X29 hx hZ 431 [(.ref a), (.int (0 : Int32)), (.int off), (.int r), (.int sb)] [] 0 hown (hw _ (List.mem_of_getElem? (i := 7) rfl)) (hw _ (List.mem_of_getElem? (i := 8) rfl)) (hw _ (List.mem_of_getElem? (i := 9) rfl)) (hw _ (List.mem_of_getElem? (i := 10) rfl)) (by decide) e29 (rm2 l Z a0 hw [] a (0 : Int32) off r sb 0 f' T10.heap n0 M29 (by decide) (by decide) F_a (own_unt (j := 3) hat dr (by decide) dk)) (by decide) (by decide) (by decide) (by decide) (by rw [hml]; rfl) rfl pd_1 rfl (Nat.le_of_eq rfl) (hb hby at_428) rfl ?_
    intro v30 T30 L30 X30 q30
    obtain ⟨rfl, Nq30, e30⟩ := q30
    have N30 := Fr.app N29 Nq30
    have M30 := M29
    refine g_ifF X30 hx 434 (hb hby at_431) (by decide) rfl ?_
    refine g_aload X30 hx 436 (hb hby at_434) rfl rfl rfl ?_
    refine g_iconst X30 hx 437 (hb hby at_436) (1 : Int32) (by decide) rfl ?_
    refine g_iload X30 hx 439 (hb hby at_437) rfl rfl ?_
    refine g_iload X30 hx 441 (hb hby at_439) rfl rfl ?_
    refine g_iload X30 hx 443 (hb hby at_441) rfl rfl ?_
    refine g_callS X30 hx hZ 446 [(.ref a), (.int (1 : Int32)), (.int off), (.int r), (.int sb)] [] 0 hown (hw _ (List.mem_of_getElem? (i := 7) rfl)) (hw _ (List.mem_of_getElem? (i := 8) rfl)) (hw _ (List.mem_of_getElem? (i := 9) rfl)) (hw _ (List.mem_of_getElem? (i := 10) rfl)) (by decide) e30 (rm2 l Z a0 hw [] a (1 : Int32) off r sb 1 f' T10.heap n0 M30 (by decide) (by decide) F_a (own_unt (j := 3) hat dr (by decide) dk)) (by decide) (by decide) (by decide) (by decide) (by rw [hml]; rfl) rfl pd_1 rfl (Nat.le_of_eq rfl) (hb hby at_443) rfl ?_
    intro v31 T31 L31 X31 q31
    obtain ⟨rfl, Nq31, e31⟩ := q31
    have N31 := Fr.app N30 Nq31
    have M31 := M30
    refine g_ifF X31 hx 449 (hb hby at_446) (by decide) rfl ?_
    refine g_aload X31 hx 451 (hb hby at_449) rfl rfl rfl ?_
    refine g_iconst X31 hx 452 (hb hby at_451) (2 : Int32) (by decide) rfl ?_
    refine g_iload X31 hx 454 (hb hby at_452) rfl rfl ?_
    refine g_iload X31 hx 456 (hb hby at_454) rfl rfl ?_
    refine g_iload X31 hx 458 (hb hby at_456) rfl rfl ?_
    refine g_callS X31 hx hZ 461 [(.ref a), (.int (2 : Int32)), (.int off), (.int r), (.int sb)] [] 0 hown (hw _ (List.mem_of_getElem? (i := 7) rfl)) (hw _ (List.mem_of_getElem? (i := 8) rfl)) (hw _ (List.mem_of_getElem? (i := 9) rfl)) (hw _ (List.mem_of_getElem? (i := 10) rfl)) (by decide) e31 (rm2 l Z a0 hw [] a (2 : Int32) off r sb 2 f' T10.heap n0 M31 (by decide) (by decide) F_a (own_unt (j := 3) hat dr (by decide) dk)) (by decide) (by decide) (by decide) (by decide) (by rw [hml]; rfl) rfl pd_1 rfl (Nat.le_of_eq rfl) (hb hby at_458) rfl ?_
    intro v32 T32 L32 X32 q32
    obtain ⟨rfl, Nq32, e32⟩ := q32
    have N32 := Fr.app N31 Nq32
    have M32 := M31
    refine g_ifF X32 hx 464 (hb hby at_461) (by decide) rfl ?_
    refine g_aload X32 hx 466 (hb hby at_464) rfl rfl rfl ?_
    refine g_iconst X32 hx 467 (hb hby at_466) (3 : Int32) (by decide) rfl ?_
    refine g_iload X32 hx 469 (hb hby at_467) rfl rfl ?_
    refine g_iload X32 hx 471 (hb hby at_469) rfl rfl ?_
    refine g_iload X32 hx 473 (hb hby at_471) rfl rfl ?_
    refine g_callS X32 hx hZ 476 [(.ref a), (.int (3 : Int32)), (.int off), (.int r), (.int sb)] [] 0 hown (hw _ (List.mem_of_getElem? (i := 7) rfl)) (hw _ (List.mem_of_getElem? (i := 8) rfl)) (hw _ (List.mem_of_getElem? (i := 9) rfl)) (hw _ (List.mem_of_getElem? (i := 10) rfl)) (by decide) e32 (rm2 l Z a0 hw [] a (3 : Int32) off r sb 3 f' T10.heap n0 M32 (by decide) (by decide) F_a (own_unt (j := 3) hat dr (by decide) dk)) (by decide) (by decide) (by decide) (by decide) (by rw [hml]; rfl) rfl pd_1 rfl (Nat.le_of_eq rfl) (hb hby at_473) rfl ?_
    intro v33 T33 L33 X33 q33
    obtain ⟨rfl, Nq33, e33⟩ := q33
    have N33 := Fr.app N32 Nq33
    have M33 := M32
    refine g_ifF X33 hx 479 (hb hby at_476) (by decide) rfl ?_
    refine g_aload X33 hx 481 (hb hby at_479) rfl rfl rfl ?_
    refine g_iconst X33 hx 482 (hb hby at_481) (4 : Int32) (by decide) rfl ?_
    refine g_iload X33 hx 484 (hb hby at_482) rfl rfl ?_
    refine g_iload X33 hx 486 (hb hby at_484) rfl rfl ?_
    refine g_iload X33 hx 488 (hb hby at_486) rfl rfl ?_
    refine g_callS X33 hx hZ 491 [(.ref a), (.int (4 : Int32)), (.int off), (.int r), (.int sb)] [] 0 hown (hw _ (List.mem_of_getElem? (i := 7) rfl)) (hw _ (List.mem_of_getElem? (i := 8) rfl)) (hw _ (List.mem_of_getElem? (i := 9) rfl)) (hw _ (List.mem_of_getElem? (i := 10) rfl)) (by decide) e33 (rm2 l Z a0 hw [] a (4 : Int32) off r sb 4 f' T10.heap n0 M33 (by decide) (by decide) F_a (own_unt (j := 3) hat dr (by decide) dk)) (by decide) (by decide) (by decide) (by decide) (by rw [hml]; rfl) rfl pd_1 rfl (Nat.le_of_eq rfl) (hb hby at_488) rfl ?_
    intro v34 T34 L34 X34 q34
    obtain ⟨rfl, Nq34, e34⟩ := q34
    have N34 := Fr.app N33 Nq34
    have M34 := M33
    refine g_ifF X34 hx 494 (hb hby at_491) (by decide) rfl ?_
    refine g_aload X34 hx 496 (hb hby at_494) rfl rfl rfl ?_
    refine g_iconst X34 hx 497 (hb hby at_496) (5 : Int32) (by decide) rfl ?_
    refine g_iload X34 hx 499 (hb hby at_497) rfl rfl ?_
    refine g_iload X34 hx 501 (hb hby at_499) rfl rfl ?_
    refine g_iload X34 hx 503 (hb hby at_501) rfl rfl ?_
    refine g_callS X34 hx hZ 506 [(.ref a), (.int (5 : Int32)), (.int off), (.int r), (.int sb)] [] 0 hown (hw _ (List.mem_of_getElem? (i := 7) rfl)) (hw _ (List.mem_of_getElem? (i := 8) rfl)) (hw _ (List.mem_of_getElem? (i := 9) rfl)) (hw _ (List.mem_of_getElem? (i := 10) rfl)) (by decide) e34 (rm2 l Z a0 hw [] a (5 : Int32) off r sb 5 f' T10.heap n0 M34 (by decide) (by decide) F_a (own_unt (j := 3) hat dr (by decide) dk)) (by decide) (by decide) (by decide) (by decide) (by rw [hml]; rfl) rfl pd_1 rfl (Nat.le_of_eq rfl) (hb hby at_503) rfl ?_
    intro v35 T35 L35 X35 q35
    obtain ⟨rfl, Nq35, e35⟩ := q35
    have N35 := Fr.app N34 Nq35
    have M35 := M34
    refine g_ifF X35 hx 509 (hb hby at_506) (by decide) rfl ?_
    refine g_aload X35 hx 511 (hb hby at_509) rfl rfl rfl ?_
    refine g_bipush X35 hx 513 (hb hby at_511) (6 : Int32) (by decide) rfl ?_
    refine g_iload X35 hx 515 (hb hby at_513) rfl rfl ?_
    refine g_iload X35 hx 517 (hb hby at_515) rfl rfl ?_
    refine g_iload X35 hx 519 (hb hby at_517) rfl rfl ?_
    refine g_callS X35 hx hZ 522 [(.ref a), (.int (6 : Int32)), (.int off), (.int r), (.int sb)] [] 0 hown (hw _ (List.mem_of_getElem? (i := 7) rfl)) (hw _ (List.mem_of_getElem? (i := 8) rfl)) (hw _ (List.mem_of_getElem? (i := 9) rfl)) (hw _ (List.mem_of_getElem? (i := 10) rfl)) (by decide) e35 (rm2 l Z a0 hw [] a (6 : Int32) off r sb 6 f' T10.heap n0 M35 (by decide) (by decide) F_a (own_unt (j := 3) hat dr (by decide) dk)) (by decide) (by decide) (by decide) (by decide) (by rw [hml]; rfl) rfl pd_1 rfl (Nat.le_of_eq rfl) (hb hby at_519) rfl ?_
    intro v36 T36 L36 X36 q36
    obtain ⟨rfl, Nq36, e36⟩ := q36
    have N36 := Fr.app N35 Nq36
    have M36 := M35
    refine g_ifF X36 hx 525 (hb hby at_522) (by decide) rfl ?_
    refine g_aload X36 hx 527 (hb hby at_525) rfl rfl rfl ?_
    refine g_bipush X36 hx 529 (hb hby at_527) (7 : Int32) (by decide) rfl ?_
    refine g_iload X36 hx 531 (hb hby at_529) rfl rfl ?_
    refine g_iload X36 hx 533 (hb hby at_531) rfl rfl ?_
    refine g_iload X36 hx 535 (hb hby at_533) rfl rfl ?_
    refine g_callS X36 hx hZ 538 [(.ref a), (.int (7 : Int32)), (.int off), (.int r), (.int sb)] [] 0 hown (hw _ (List.mem_of_getElem? (i := 7) rfl)) (hw _ (List.mem_of_getElem? (i := 8) rfl)) (hw _ (List.mem_of_getElem? (i := 9) rfl)) (hw _ (List.mem_of_getElem? (i := 10) rfl)) (by decide) e36 (rm2 l Z a0 hw [] a (7 : Int32) off r sb 7 f' T10.heap n0 M36 (by decide) (by decide) F_a (own_unt (j := 3) hat dr (by decide) dk)) (by decide) (by decide) (by decide) (by decide) (by rw [hml]; rfl) rfl pd_1 rfl (Nat.le_of_eq rfl) (hb hby at_535) rfl ?_
    intro v37 T37 L37 X37 q37
    obtain ⟨rfl, Nq37, e37⟩ := q37
    have N37 := Fr.app N36 Nq37
    have M37 := M36
    refine g_ifF X37 hx 541 (hb hby at_538) (by decide) rfl ?_
    refine g_iconst X37 hx 542 (hb hby at_541) (1 : Int32) (by decide) rfl ?_
    refine g_goto X37 hx 546 (hb hby at_542) (by decide) (by decide) ?_
    refine g_nret X37 hx (by simp) hret hlk (hb hby at_546) (by decide) (by decide) ?_
    exact ⟨rfl, N37⟩
  · rw [y65536.1] at d1
    have hend : r = off + (4 : Int32) := Int32.toInt_inj.mp (by rw [dr, p4])
    have rch : 0 ≤ cp.toInt ∧ cp.toInt < 2097152 := by omega
    have f0 := own_byte (v := V4a cp) (by rw [i_V4a rch]; omega)
    have f1 := own_byte (v := V4b cp) (by rw [i_V4b]; omega)
    have f2 := own_byte (v := V3b cp) (by rw [i_V3b]; omega)
    have f3 := own_byte (v := V2b cp) (by rw [i_V2b]; omega)
    obtain ⟨u1, u2, u3, u4, u5⟩ := own_four rch
    have g1 : (127 : Int32) < cp := y127.2.mpr (by omega)
    have g2 : (2047 : Int32) < cp := y2047.2.mpr (by omega)
    have g3 : (65535 : Int32) < cp := y65535.2.mpr (by omega)
    refine g_iloadN X10 hx 79 (hb hby at_78) rfl rfl ?_
    refine g_bipush X10 hx 81 (hb hby at_79) (127 : Int32) (by decide) rfl ?_
    refine g_icT X10 hx 90 (hb hby at_81) (Jvm.Free.XT.ii_gt_t (show (127 : Int32) < cp from g1)) (by decide) (by decide) ?_
    refine g_iloadN X10 hx 91 (hb hby at_90) rfl rfl ?_
    refine g_sipush X10 hx 94 (hb hby at_91) (2047 : Int32) (by decide) rfl ?_
    refine g_icT X10 hx 103 (hb hby at_94) (Jvm.Free.XT.ii_gt_t (show (2047 : Int32) < cp from g2)) (by decide) (by decide) ?_
    refine g_iloadN X10 hx 104 (hb hby at_103) rfl rfl ?_
    refine g_ldcI X10 hx hZ (65535 : Int32) hown (hw _ (List.mem_of_getElem? (i := 15) rfl)) 106 (hb hby at_104) rfl ?_
    refine g_icT X10 hx 115 (hb hby at_106) (Jvm.Free.XT.ii_gt_t (show (65535 : Int32) < cp from g3)) (by decide) (by decide) ?_
    refine g_iconst X10 hx 116 (hb hby at_115) (4 : Int32) (by decide) rfl ?_
    refine g_istore X10 hx 118 (hb hby at_116) #[.val (.int x0), .val (.int x1), .val (.int x2), .val (.int cp), .val (.int off), .val (.int sb), .val (.ref a), .val (.int r), .val (.int (4 : Int32)), .unset, .unset, .unset, .unset, .unset, .unset] rfl rfl ?_
    refine g_iload X10 hx 120 (hb hby at_118) rfl rfl ?_
    refine g_iload X10 hx 122 (hb hby at_120) rfl rfl ?_
    refine g_iload X10 hx 124 (hb hby at_122) rfl rfl ?_
    refine g_iadd X10 hx 125 (hb hby at_124) rfl ?_
    refine g_icT X10 hx 130 (hb hby at_125) (Jvm.Free.XT.ii_eq_t (show r = (off + (4 : Int32)) from hend)) (by decide) (by decide) ?_
    refine g_aload X10 hx 132 (hb hby at_130) rfl rfl rfl ?_
    refine g_iload X10 hx 134 (hb hby at_132) rfl rfl ?_
    refine g_baload X10 hx hZ 135 e10 F_a (hb hby at_134) (o) hat (by omega) (.int (V4a cp).toInt8.toInt32) t0 rfl ?_
    refine g_sipush X10 hx 138 (hb hby at_135) (255 : Int32) (by decide) rfl ?_
    refine g_iand X10 hx 139 (hb hby at_138) rfl ?_
    refine g_istore X10 hx 141 (hb hby at_139) #[.val (.int x0), .val (.int x1), .val (.int x2), .val (.int cp), .val (.int off), .val (.int sb), .val (.ref a), .val (.int r), .val (.int (4 : Int32)), .val (.int ((V4a cp).toInt8.toInt32 &&& (255 : Int32))), .unset, .unset, .unset, .unset, .unset] rfl rfl ?_
    rw [f0]
    refine g_aload X10 hx 143 (hb hby at_141) rfl rfl rfl ?_
    refine g_iload X10 hx 145 (hb hby at_143) rfl rfl ?_
    refine g_iconst X10 hx 146 (hb hby at_145) (1 : Int32) (by decide) rfl ?_
    refine g_iadd X10 hx 147 (hb hby at_146) rfl ?_
    refine g_baload X10 hx hZ 148 e10 F_a (hb hby at_147) (o + 1) p1 (by omega) (.int (V4b cp).toInt8.toInt32) t1 rfl ?_
    refine g_sipush X10 hx 151 (hb hby at_148) (255 : Int32) (by decide) rfl ?_
    refine g_iand X10 hx 152 (hb hby at_151) rfl ?_
    refine g_istore X10 hx 154 (hb hby at_152) #[.val (.int x0), .val (.int x1), .val (.int x2), .val (.int cp), .val (.int off), .val (.int sb), .val (.ref a), .val (.int r), .val (.int (4 : Int32)), .val (.int (V4a cp)), .val (.int ((V4b cp).toInt8.toInt32 &&& (255 : Int32))), .unset, .unset, .unset, .unset] rfl rfl ?_
    rw [f1]
    refine g_aload X10 hx 156 (hb hby at_154) rfl rfl rfl ?_
    refine g_iload X10 hx 158 (hb hby at_156) rfl rfl ?_
    refine g_iconst X10 hx 159 (hb hby at_158) (2 : Int32) (by decide) rfl ?_
    refine g_iadd X10 hx 160 (hb hby at_159) rfl ?_
    refine g_baload X10 hx hZ 161 e10 F_a (hb hby at_160) (o + 2) p2 (by omega) (.int (V3b cp).toInt8.toInt32) t2 rfl ?_
    refine g_sipush X10 hx 164 (hb hby at_161) (255 : Int32) (by decide) rfl ?_
    refine g_iand X10 hx 165 (hb hby at_164) rfl ?_
    refine g_istore X10 hx 167 (hb hby at_165) #[.val (.int x0), .val (.int x1), .val (.int x2), .val (.int cp), .val (.int off), .val (.int sb), .val (.ref a), .val (.int r), .val (.int (4 : Int32)), .val (.int (V4a cp)), .val (.int (V4b cp)), .val (.int ((V3b cp).toInt8.toInt32 &&& (255 : Int32))), .unset, .unset, .unset] rfl rfl ?_
    rw [f2]
    refine g_aload X10 hx 169 (hb hby at_167) rfl rfl rfl ?_
    refine g_iload X10 hx 171 (hb hby at_169) rfl rfl ?_
    refine g_iconst X10 hx 172 (hb hby at_171) (3 : Int32) (by decide) rfl ?_
    refine g_iadd X10 hx 173 (hb hby at_172) rfl ?_
    refine g_baload X10 hx hZ 174 e10 F_a (hb hby at_173) (o + 3) p3 (by omega) (.int (V2b cp).toInt8.toInt32) t3 rfl ?_
    refine g_sipush X10 hx 177 (hb hby at_174) (255 : Int32) (by decide) rfl ?_
    refine g_iand X10 hx 178 (hb hby at_177) rfl ?_
    refine g_istore X10 hx 180 (hb hby at_178) #[.val (.int x0), .val (.int x1), .val (.int x2), .val (.int cp), .val (.int off), .val (.int sb), .val (.ref a), .val (.int r), .val (.int (4 : Int32)), .val (.int (V4a cp)), .val (.int (V4b cp)), .val (.int (V3b cp)), .val (.int ((V2b cp).toInt8.toInt32 &&& (255 : Int32))), .unset, .unset] rfl rfl ?_
    rw [f3]
    refine g_iload X10 hx 182 (hb hby at_180) rfl rfl ?_
    refine g_iconst X10 hx 183 (hb hby at_182) (1 : Int32) (by decide) rfl ?_
    refine g_icT X10 hx 208 (hb hby at_183) (by decide) (by decide) (by decide) ?_
    refine g_iload X10 hx 210 (hb hby at_208) rfl rfl ?_
    refine g_iconst X10 hx 211 (hb hby at_210) (2 : Int32) (by decide) rfl ?_
    refine g_icT X10 hx 260 (hb hby at_211) (by decide) (by decide) (by decide) ?_
    refine g_iload X10 hx 262 (hb hby at_260) rfl rfl ?_
    refine g_iconst X10 hx 263 (hb hby at_262) (3 : Int32) (by decide) rfl ?_
    refine g_icT X10 hx 329 (hb hby at_263) (by decide) (by decide) (by decide) ?_
    refine g_iload X10 hx 331 (hb hby at_329) rfl rfl ?_
    refine g_sipush X10 hx 334 (hb hby at_331) (248 : Int32) (by decide) rfl ?_
    refine g_iand X10 hx 335 (hb hby at_334) rfl ?_
    refine g_sipush X10 hx 338 (hb hby at_335) (240 : Int32) (by decide) rfl ?_
    refine g_icF X10 hx 341 (hb hby at_338) (Jvm.Free.XT.ii_ne_f (show ((V4a cp) &&& (248 : Int32)) = (240 : Int32) from u1)) rfl ?_
    refine g_iload X10 hx 343 (hb hby at_341) rfl rfl ?_
    refine g_callS X10 hx hZ 346 [(.int (V4b cp))] [] 0 hown (hw _ (List.mem_of_getElem? (i := 11) rfl)) (hw _ (List.mem_of_getElem? (i := 12) rfl)) (hw _ (List.mem_of_getElem? (i := 9) rfl)) (hw _ (List.mem_of_getElem? (i := 13) rfl)) (by decide) e10 (rm3 l Z a0 hw [] (V4b cp) T10.heap n0 M10 u2) (by decide) (by decide) (by decide) (by decide) (by rw [hml]; rfl) rfl pd_2 rfl (Nat.le_of_eq rfl) (hb hby at_343) rfl ?_
    intro v38 T38 L38 X38 q38
    obtain ⟨rfl, Nq38, e38⟩ := q38
    have N38 := Fr.app N10 Nq38
    have M38 := M10
    refine g_ifF X38 hx 349 (hb hby at_346) (by decide) rfl ?_
    refine g_iload X38 hx 351 (hb hby at_349) rfl rfl ?_
    refine g_callS X38 hx hZ 354 [(.int (V3b cp))] [] 0 hown (hw _ (List.mem_of_getElem? (i := 11) rfl)) (hw _ (List.mem_of_getElem? (i := 12) rfl)) (hw _ (List.mem_of_getElem? (i := 9) rfl)) (hw _ (List.mem_of_getElem? (i := 13) rfl)) (by decide) e38 (rm3 l Z a0 hw [] (V3b cp) T10.heap n0 M38 u3) (by decide) (by decide) (by decide) (by decide) (by rw [hml]; rfl) rfl pd_2 rfl (Nat.le_of_eq rfl) (hb hby at_351) rfl ?_
    intro v39 T39 L39 X39 q39
    obtain ⟨rfl, Nq39, e39⟩ := q39
    have N39 := Fr.app N38 Nq39
    have M39 := M38
    refine g_ifF X39 hx 357 (hb hby at_354) (by decide) rfl ?_
    refine g_iload X39 hx 359 (hb hby at_357) rfl rfl ?_
    refine g_callS X39 hx hZ 362 [(.int (V2b cp))] [] 0 hown (hw _ (List.mem_of_getElem? (i := 11) rfl)) (hw _ (List.mem_of_getElem? (i := 12) rfl)) (hw _ (List.mem_of_getElem? (i := 9) rfl)) (hw _ (List.mem_of_getElem? (i := 13) rfl)) (by decide) e39 (rm3 l Z a0 hw [] (V2b cp) T10.heap n0 M39 u4) (by decide) (by decide) (by decide) (by decide) (by rw [hml]; rfl) rfl pd_2 rfl (Nat.le_of_eq rfl) (hb hby at_359) rfl ?_
    intro v40 T40 L40 X40 q40
    obtain ⟨rfl, Nq40, e40⟩ := q40
    have N40 := Fr.app N39 Nq40
    have M40 := M39
    refine g_ifF X40 hx 365 (hb hby at_362) (by decide) rfl ?_
    refine g_iconst X40 hx 366 (hb hby at_365) (1 : Int32) (by decide) rfl ?_
    refine g_goto X40 hx 370 (hb hby at_366) (by decide) (by decide) ?_
    refine g_istore X40 hx 372 (hb hby at_370) #[.val (.int x0), .val (.int x1), .val (.int x2), .val (.int cp), .val (.int off), .val (.int sb), .val (.ref a), .val (.int r), .val (.int (4 : Int32)), .val (.int (V4a cp)), .val (.int (V4b cp)), .val (.int (V3b cp)), .val (.int (V2b cp)), .val (.int (1 : Int32)), .unset] rfl rfl ?_
    refine g_iload X40 hx 374 (hb hby at_372) rfl rfl ?_
    refine g_bipush X40 hx 376 (hb hby at_374) (7 : Int32) (by decide) rfl ?_
    refine g_iand X40 hx 377 (hb hby at_376) rfl ?_
    refine g_bipush X40 hx 379 (hb hby at_377) (18 : Int32) (by decide) rfl ?_
    refine g_ishl X40 hx 380 (hb hby at_379) rfl ?_
    refine g_iload X40 hx 382 (hb hby at_380) rfl rfl ?_
    refine g_bipush X40 hx 384 (hb hby at_382) (63 : Int32) (by decide) rfl ?_
    refine g_iand X40 hx 385 (hb hby at_384) rfl ?_
    refine g_bipush X40 hx 387 (hb hby at_385) (12 : Int32) (by decide) rfl ?_
    refine g_ishl X40 hx 388 (hb hby at_387) rfl ?_
    refine g_ior X40 hx 389 (hb hby at_388) rfl ?_
    refine g_iload X40 hx 391 (hb hby at_389) rfl rfl ?_
    refine g_bipush X40 hx 393 (hb hby at_391) (63 : Int32) (by decide) rfl ?_
    refine g_iand X40 hx 394 (hb hby at_393) rfl ?_
    refine g_bipush X40 hx 396 (hb hby at_394) (6 : Int32) (by decide) rfl ?_
    refine g_ishl X40 hx 397 (hb hby at_396) rfl ?_
    refine g_ior X40 hx 398 (hb hby at_397) rfl ?_
    refine g_iload X40 hx 400 (hb hby at_398) rfl rfl ?_
    refine g_bipush X40 hx 402 (hb hby at_400) (63 : Int32) (by decide) rfl ?_
    refine g_iand X40 hx 403 (hb hby at_402) rfl ?_
    refine g_ior X40 hx 404 (hb hby at_403) rfl ?_
    refine g_istore X40 hx 406 (hb hby at_404) #[.val (.int x0), .val (.int x1), .val (.int x2), .val (.int cp), .val (.int off), .val (.int sb), .val (.ref a), .val (.int r), .val (.int (4 : Int32)), .val (.int (V4a cp)), .val (.int (V4b cp)), .val (.int (V3b cp)), .val (.int (V2b cp)), .val (.int (1 : Int32)), .val (.int ((((((V4a cp) &&& (7 : Int32)) <<< ((18 : Int32) &&& 31)) ||| (((V4b cp) &&& (63 : Int32)) <<< ((12 : Int32) &&& 31))) ||| (((V3b cp) &&& (63 : Int32)) <<< ((6 : Int32) &&& 31))) ||| ((V2b cp) &&& (63 : Int32))))] rfl rfl ?_
    refine g_iload X40 hx 408 (hb hby at_406) rfl rfl ?_
    refine g_ifF X40 hx 411 (hb hby at_408) (by decide) rfl ?_
    refine g_iload X40 hx 413 (hb hby at_411) rfl rfl ?_
    refine g_iloadN X40 hx 414 (hb hby at_413) rfl rfl ?_
    refine g_icT X40 hx 419 (hb hby at_414) (Jvm.Free.XT.ii_eq_t (show ((((((V4a cp) &&& (7 : Int32)) <<< ((18 : Int32) &&& 31)) ||| (((V4b cp) &&& (63 : Int32)) <<< ((12 : Int32) &&& 31))) ||| (((V3b cp) &&& (63 : Int32)) <<< ((6 : Int32) &&& 31))) ||| ((V2b cp) &&& (63 : Int32))) = cp from u5)) (by decide) (by decide) ?_
    refine g_aload X40 hx 421 (hb hby at_419) rfl rfl rfl ?_
    refine g_iconst X40 hx 422 (hb hby at_421) (0 : Int32) (by decide) rfl ?_
    refine g_iload X40 hx 424 (hb hby at_422) rfl rfl ?_
    refine g_iload X40 hx 426 (hb hby at_424) rfl rfl ?_
    refine g_iload X40 hx 428 (hb hby at_426) rfl rfl ?_
    refine g_callS X40 hx hZ 431 [(.ref a), (.int (0 : Int32)), (.int off), (.int r), (.int sb)] [] 0 hown (hw _ (List.mem_of_getElem? (i := 7) rfl)) (hw _ (List.mem_of_getElem? (i := 8) rfl)) (hw _ (List.mem_of_getElem? (i := 9) rfl)) (hw _ (List.mem_of_getElem? (i := 10) rfl)) (by decide) e40 (rm2 l Z a0 hw [] a (0 : Int32) off r sb 0 f' T10.heap n0 M40 (by decide) (by decide) F_a (own_unt (j := 4) hat dr (by decide) dk)) (by decide) (by decide) (by decide) (by decide) (by rw [hml]; rfl) rfl pd_1 rfl (Nat.le_of_eq rfl) (hb hby at_428) rfl ?_
    intro v41 T41 L41 X41 q41
    obtain ⟨rfl, Nq41, e41⟩ := q41
    have N41 := Fr.app N40 Nq41
    have M41 := M40
    refine g_ifF X41 hx 434 (hb hby at_431) (by decide) rfl ?_
    refine g_aload X41 hx 436 (hb hby at_434) rfl rfl rfl ?_
    refine g_iconst X41 hx 437 (hb hby at_436) (1 : Int32) (by decide) rfl ?_
    refine g_iload X41 hx 439 (hb hby at_437) rfl rfl ?_
    refine g_iload X41 hx 441 (hb hby at_439) rfl rfl ?_
    refine g_iload X41 hx 443 (hb hby at_441) rfl rfl ?_
    refine g_callS X41 hx hZ 446 [(.ref a), (.int (1 : Int32)), (.int off), (.int r), (.int sb)] [] 0 hown (hw _ (List.mem_of_getElem? (i := 7) rfl)) (hw _ (List.mem_of_getElem? (i := 8) rfl)) (hw _ (List.mem_of_getElem? (i := 9) rfl)) (hw _ (List.mem_of_getElem? (i := 10) rfl)) (by decide) e41 (rm2 l Z a0 hw [] a (1 : Int32) off r sb 1 f' T10.heap n0 M41 (by decide) (by decide) F_a (own_unt (j := 4) hat dr (by decide) dk)) (by decide) (by decide) (by decide) (by decide) (by rw [hml]; rfl) rfl pd_1 rfl (Nat.le_of_eq rfl) (hb hby at_443) rfl ?_
    intro v42 T42 L42 X42 q42
    obtain ⟨rfl, Nq42, e42⟩ := q42
    have N42 := Fr.app N41 Nq42
    have M42 := M41
    refine g_ifF X42 hx 449 (hb hby at_446) (by decide) rfl ?_
    refine g_aload X42 hx 451 (hb hby at_449) rfl rfl rfl ?_
    refine g_iconst X42 hx 452 (hb hby at_451) (2 : Int32) (by decide) rfl ?_
    refine g_iload X42 hx 454 (hb hby at_452) rfl rfl ?_
    refine g_iload X42 hx 456 (hb hby at_454) rfl rfl ?_
    refine g_iload X42 hx 458 (hb hby at_456) rfl rfl ?_
    refine g_callS X42 hx hZ 461 [(.ref a), (.int (2 : Int32)), (.int off), (.int r), (.int sb)] [] 0 hown (hw _ (List.mem_of_getElem? (i := 7) rfl)) (hw _ (List.mem_of_getElem? (i := 8) rfl)) (hw _ (List.mem_of_getElem? (i := 9) rfl)) (hw _ (List.mem_of_getElem? (i := 10) rfl)) (by decide) e42 (rm2 l Z a0 hw [] a (2 : Int32) off r sb 2 f' T10.heap n0 M42 (by decide) (by decide) F_a (own_unt (j := 4) hat dr (by decide) dk)) (by decide) (by decide) (by decide) (by decide) (by rw [hml]; rfl) rfl pd_1 rfl (Nat.le_of_eq rfl) (hb hby at_458) rfl ?_
    intro v43 T43 L43 X43 q43
    obtain ⟨rfl, Nq43, e43⟩ := q43
    have N43 := Fr.app N42 Nq43
    have M43 := M42
    refine g_ifF X43 hx 464 (hb hby at_461) (by decide) rfl ?_
    refine g_aload X43 hx 466 (hb hby at_464) rfl rfl rfl ?_
    refine g_iconst X43 hx 467 (hb hby at_466) (3 : Int32) (by decide) rfl ?_
    refine g_iload X43 hx 469 (hb hby at_467) rfl rfl ?_
    refine g_iload X43 hx 471 (hb hby at_469) rfl rfl ?_
    refine g_iload X43 hx 473 (hb hby at_471) rfl rfl ?_
    refine g_callS X43 hx hZ 476 [(.ref a), (.int (3 : Int32)), (.int off), (.int r), (.int sb)] [] 0 hown (hw _ (List.mem_of_getElem? (i := 7) rfl)) (hw _ (List.mem_of_getElem? (i := 8) rfl)) (hw _ (List.mem_of_getElem? (i := 9) rfl)) (hw _ (List.mem_of_getElem? (i := 10) rfl)) (by decide) e43 (rm2 l Z a0 hw [] a (3 : Int32) off r sb 3 f' T10.heap n0 M43 (by decide) (by decide) F_a (own_unt (j := 4) hat dr (by decide) dk)) (by decide) (by decide) (by decide) (by decide) (by rw [hml]; rfl) rfl pd_1 rfl (Nat.le_of_eq rfl) (hb hby at_473) rfl ?_
    intro v44 T44 L44 X44 q44
    obtain ⟨rfl, Nq44, e44⟩ := q44
    have N44 := Fr.app N43 Nq44
    have M44 := M43
    refine g_ifF X44 hx 479 (hb hby at_476) (by decide) rfl ?_
    refine g_aload X44 hx 481 (hb hby at_479) rfl rfl rfl ?_
    refine g_iconst X44 hx 482 (hb hby at_481) (4 : Int32) (by decide) rfl ?_
    refine g_iload X44 hx 484 (hb hby at_482) rfl rfl ?_
    refine g_iload X44 hx 486 (hb hby at_484) rfl rfl ?_
    refine g_iload X44 hx 488 (hb hby at_486) rfl rfl ?_
    refine g_callS X44 hx hZ 491 [(.ref a), (.int (4 : Int32)), (.int off), (.int r), (.int sb)] [] 0 hown (hw _ (List.mem_of_getElem? (i := 7) rfl)) (hw _ (List.mem_of_getElem? (i := 8) rfl)) (hw _ (List.mem_of_getElem? (i := 9) rfl)) (hw _ (List.mem_of_getElem? (i := 10) rfl)) (by decide) e44 (rm2 l Z a0 hw [] a (4 : Int32) off r sb 4 f' T10.heap n0 M44 (by decide) (by decide) F_a (own_unt (j := 4) hat dr (by decide) dk)) (by decide) (by decide) (by decide) (by decide) (by rw [hml]; rfl) rfl pd_1 rfl (Nat.le_of_eq rfl) (hb hby at_488) rfl ?_
    intro v45 T45 L45 X45 q45
    obtain ⟨rfl, Nq45, e45⟩ := q45
    have N45 := Fr.app N44 Nq45
    have M45 := M44
    refine g_ifF X45 hx 494 (hb hby at_491) (by decide) rfl ?_
    refine g_aload X45 hx 496 (hb hby at_494) rfl rfl rfl ?_
    refine g_iconst X45 hx 497 (hb hby at_496) (5 : Int32) (by decide) rfl ?_
    refine g_iload X45 hx 499 (hb hby at_497) rfl rfl ?_
    refine g_iload X45 hx 501 (hb hby at_499) rfl rfl ?_
    refine g_iload X45 hx 503 (hb hby at_501) rfl rfl ?_
    refine g_callS X45 hx hZ 506 [(.ref a), (.int (5 : Int32)), (.int off), (.int r), (.int sb)] [] 0 hown (hw _ (List.mem_of_getElem? (i := 7) rfl)) (hw _ (List.mem_of_getElem? (i := 8) rfl)) (hw _ (List.mem_of_getElem? (i := 9) rfl)) (hw _ (List.mem_of_getElem? (i := 10) rfl)) (by decide) e45 (rm2 l Z a0 hw [] a (5 : Int32) off r sb 5 f' T10.heap n0 M45 (by decide) (by decide) F_a (own_unt (j := 4) hat dr (by decide) dk)) (by decide) (by decide) (by decide) (by decide) (by rw [hml]; rfl) rfl pd_1 rfl (Nat.le_of_eq rfl) (hb hby at_503) rfl ?_
    intro v46 T46 L46 X46 q46
    obtain ⟨rfl, Nq46, e46⟩ := q46
    have N46 := Fr.app N45 Nq46
    have M46 := M45
    refine g_ifF X46 hx 509 (hb hby at_506) (by decide) rfl ?_
    refine g_aload X46 hx 511 (hb hby at_509) rfl rfl rfl ?_
    refine g_bipush X46 hx 513 (hb hby at_511) (6 : Int32) (by decide) rfl ?_
    refine g_iload X46 hx 515 (hb hby at_513) rfl rfl ?_
    refine g_iload X46 hx 517 (hb hby at_515) rfl rfl ?_
    refine g_iload X46 hx 519 (hb hby at_517) rfl rfl ?_
    refine g_callS X46 hx hZ 522 [(.ref a), (.int (6 : Int32)), (.int off), (.int r), (.int sb)] [] 0 hown (hw _ (List.mem_of_getElem? (i := 7) rfl)) (hw _ (List.mem_of_getElem? (i := 8) rfl)) (hw _ (List.mem_of_getElem? (i := 9) rfl)) (hw _ (List.mem_of_getElem? (i := 10) rfl)) (by decide) e46 (rm2 l Z a0 hw [] a (6 : Int32) off r sb 6 f' T10.heap n0 M46 (by decide) (by decide) F_a (own_unt (j := 4) hat dr (by decide) dk)) (by decide) (by decide) (by decide) (by decide) (by rw [hml]; rfl) rfl pd_1 rfl (Nat.le_of_eq rfl) (hb hby at_519) rfl ?_
    intro v47 T47 L47 X47 q47
    obtain ⟨rfl, Nq47, e47⟩ := q47
    have N47 := Fr.app N46 Nq47
    have M47 := M46
    refine g_ifF X47 hx 525 (hb hby at_522) (by decide) rfl ?_
    refine g_aload X47 hx 527 (hb hby at_525) rfl rfl rfl ?_
    refine g_bipush X47 hx 529 (hb hby at_527) (7 : Int32) (by decide) rfl ?_
    refine g_iload X47 hx 531 (hb hby at_529) rfl rfl ?_
    refine g_iload X47 hx 533 (hb hby at_531) rfl rfl ?_
    refine g_iload X47 hx 535 (hb hby at_533) rfl rfl ?_
    refine g_callS X47 hx hZ 538 [(.ref a), (.int (7 : Int32)), (.int off), (.int r), (.int sb)] [] 0 hown (hw _ (List.mem_of_getElem? (i := 7) rfl)) (hw _ (List.mem_of_getElem? (i := 8) rfl)) (hw _ (List.mem_of_getElem? (i := 9) rfl)) (hw _ (List.mem_of_getElem? (i := 10) rfl)) (by decide) e47 (rm2 l Z a0 hw [] a (7 : Int32) off r sb 7 f' T10.heap n0 M47 (by decide) (by decide) F_a (own_unt (j := 4) hat dr (by decide) dk)) (by decide) (by decide) (by decide) (by decide) (by rw [hml]; rfl) rfl pd_1 rfl (Nat.le_of_eq rfl) (hb hby at_535) rfl ?_
    intro v48 T48 L48 X48 q48
    obtain ⟨rfl, Nq48, e48⟩ := q48
    have N48 := Fr.app N47 Nq48
    have M48 := M47
    refine g_ifF X48 hx 541 (hb hby at_538) (by decide) rfl ?_
    refine g_iconst X48 hx 542 (hb hby at_541) (1 : Int32) (by decide) rfl ?_
    refine g_goto X48 hx 546 (hb hby at_542) (by decide) (by decide) ?_
    refine g_nret X48 hx (by simp) hret hlk (hb hby at_546) (by decide) (by decide) ?_
    exact ⟨rfl, N48⟩
set_option maxRecDepth 65536 in
set_option maxHeartbeats 40000000 in
theorem comes_1 {Post : Tables → Env → Array Value → State → Outcome → State → Prop} (hpost : ∀ tb e args s v u, (limb_1_1.after args s (.returned v) u = true ∧ limb_1_2.after args s (.returned v) u = true ∧ True) → FrameEnd s (.returned v) u (Jvm.fieldLocs frame_1_writes args s ++ Jvm.arrayLocs frame_1_arrays args s ++ Jvm.staticLocs frame_1_statics s) 16 128 → Post tb e args s (.returned v) u) :
    ArmFor flags0 classFile x code maxLocals ret World_1 tables_1 room_1 Calls_1 rest_1 Pre_1 Post := by
  intro l hfl _ _ p e ha hc hk s m args below hf hA hF happ hP
  obtain ⟨hcalls, hrest, hpre⟩ := hP
  obtain ⟨-, -, -, hnamed, -, -, -, hat⟩ := (Spec.applies_iff hf).mp happ
  obtain ⟨hg, hn⟩ := and_e (Cond.before_iff.mp (show (Jvm.Cond.and given_1 narrow_1).before args s = true from hpre))
  obtain ⟨hcount, hg0⟩ := and_e hg
  obtain ⟨ha0, hg1⟩ := and_e hg0
  obtain ⟨ha1, hg2⟩ := and_e hg1
  obtain ⟨w0, w1, w2, rfl⟩ : ∃ w0 w1 w2 : Value, args = #[w0, w1, w2] := by
    have hs : args.size = 3 := by simpa [Cond.value, given_1] using hcount
    obtain ⟨L⟩ := args
    match L, hs with
    | [w0, w1, w2], _ => exact ⟨w0, w1, w2, rfl⟩
  have hw := fun d (hd : d ∈ tables_1) => atoms_spec (ws := Jvm.Cond.code x code maxLocals ret :: tables_1) hat d (List.mem_cons_of_mem _ hd)
  obtain ⟨i0, ei0⟩ := is_v ha0
  obtain rfl : w0 = (.int i0) := Option.some.inj ei0
  obtain ⟨i1, ei1⟩ := is_v ha1
  obtain rfl : w1 = (.int i1) := Option.some.inj ei1
  obtain ⟨i2, ei2⟩ := is_v hg2
  obtain rfl : w2 = (.int i2) := Option.some.inj ei2
  obtain ⟨n, o, h1, h2, h3, _, L, rfl, ⟨rfl, N⟩, hq⟩ := rm0 l s _ hw tables_1 i0 i1 i2 s.heap s.heap.size (Nat.le_refl _)  p e ha hc hk s m _ below hf ((Spec.applies_iff_loose hf).mp happ).1 ⟨rfl, State.Warmed39.refl s, rfl⟩ trivial
  refine ⟨n, _, h1, h2, h3, hpost _ _ _ _ _ _ ⟨Cond.after_iff.mpr rfl, Cond.after_iff.mpr (eq_i res_at (Term.int_eval (1)) rfl), trivial⟩ ⟨hq.1, hq.2.1, (hq.2.2.sift fun y hy => Or.inr (N y hy)).mono (by decide) (by decide)⟩⟩
theorem main_1_1 : Claimed_1_1 := comes_1 fun _ _ _ _ _ _ h hF => ⟨h.1, hF⟩
theorem main_1_2 : Claimed_1_2 := comes_1 fun _ _ _ _ _ _ h hF => ⟨h.2.1, hF⟩
end Jvm.Pilot.@@N@@
namespace Jvm.Pilot.@@N@@
open Jvm Jvm.ClassFile Sem Op Lib Jvm.Free Jvm.Stand Jvm.Pilot.@@N@@.Jvm.D
/-! MADE BY PROGRAM (witnessworld.py) out of the Statement's table words and the real class files: 9 classes; the members and pool entries that the words name. The judged class is class 1, her method 3. -/
namespace start1
open Jvm.ClassFile
def u (s : String) : CpInfo := .utf8 (stringToUtf16 s)
/-- a pool by its gaps: so many unusable entries, then the entry; so many at the end -/
def gap : Nat → List CpInfo → List CpInfo
  | 0, r => r
  | n + 1, r => .unusable :: gap n r
def poolList (es : List (Nat × CpInfo)) (last : Nat) : List CpInfo := es.foldr (fun e r => gap e.1 (e.2 :: r)) (gap last [])
def pool (es : List (Nat × CpInfo)) (last : Nat) : Array CpInfo := ⟨poolList es last⟩
def fileOf (pool : Array CpInfo) (this : Nat) (attrs : Array Attribute := #[]) (ms : Array MethodInfo := #[]) (fl : Nat := 33) (sup : Nat := 0) (ifs : Array Nat := #[]) (fds : Array FieldInfo := #[]) : ClassFile where
  minorVersion := 0
  majorVersion := 65
  constantPool := pool
  accessFlags := fl
  thisClass := this
  superClass := sup
  interfaces := ifs
  fields := fds
  methods := ms
  attributes := attrs
def plain (name : String) (sup : Option ClassId) : Class where
  name := name
  kind := .ordinary
  loader := none
  accessFlags := 33
  super := sup
  interfaces := #[]
  cf := none
  fields := #[]
  methods := #[]
  instanceTypes := #[]
  staticTypes := #[]
  resolved := #[]
  callSites := []
  init := .initialized
  statics := none
  mirror := none

def pool0 : Array CpInfo := pool [(5, u "<init>"), (0, u "()V"), (1, .class_ 10), (1, u "java/lang/Object")] 113

def k0m0 : Method := { name := "<init>", desc := "()V", sig := { parameters := [], returnType := none }, accessFlags := 1, code := none }
/-- java/lang/Object -/
def k0 : Class := { plain "java/lang/Object" none with
  accessFlags := 33
  interfaces := #[]
  cf := some (fileOf pool0 8 #[] #[{ accessFlags := 1, nameIndex := 5, descriptorIndex := 6, attributes := #[] }] 33 0 #[] #[])
  fields := #[]
  methods := #[k0m0]
  instanceTypes := #[]
  staticTypes := #[]
  resolved := Array.replicate 124 none
  statics := none }

def pool1 : Array CpInfo := pool [(2, .class_ 4), (1, u "java/lang/Object"), (0, u "<init>"), (0, u "()V"), (0, .integer 2147483647), (0, .integer 1114112), (0, .methodref 10 11), (0, .class_ 12), (0, .nameAndType 13 14), (0, u "com/example/austere_text/austeretext/io/Utf8Encoder"), (0, u "encode"), (0, u "(I[BI)I"), (0, .integer 65535), (0, .methodref 17 18), (0, .class_ 19), (0, .nameAndType 20 21), (0, u "com/example/austere_text/austeretext/io/Utf8EncoderEncodePinLaw"), (0, u "cont"), (0, u "(I)Z"), (0, .methodref 17 23), (0, .nameAndType 24 25), (0, u "untouched"), (0, u "([BIIIB)Z"), (3, u "law"), (0, u "(III)Z")] 4

def k1m0 : Method := { name := "<init>", desc := "()V", sig := { parameters := [], returnType := none }, accessFlags := 1, code := none }
def k1c1 : Code := { maxStack := 2, maxLocals := 1, code := method_2_code, exceptionTable := #[], attributes := #[] }
def k1m1 : Method := { name := "cont", desc := "(I)Z", sig := { parameters := [.int], returnType := some .boolean }, accessFlags := 10, code := some k1c1 }
def k1c2 : Code := { maxStack := 2, maxLocals := 5, code := method_3_code, exceptionTable := #[], attributes := #[] }
def k1m2 : Method := { name := "untouched", desc := "([BIIIB)Z", sig := { parameters := [(.array .byte), .int, .int, .int, .byte], returnType := some .boolean }, accessFlags := 10, code := some k1c2 }
def k1c3 : Code := { maxStack := 5, maxLocals := 15, code := code, exceptionTable := #[], attributes := #[] }
def k1m3 : Method := { name := "law", desc := "(III)Z", sig := { parameters := [.int, .int, .int], returnType := some .boolean }, accessFlags := 9, code := some k1c3 }
/-- com/example/austere_text/austeretext/io/Utf8EncoderEncodePinLaw -/
def k1 : Class := { plain "com/example/austere_text/austeretext/io/Utf8EncoderEncodePinLaw" (some 0) with
  accessFlags := 49
  interfaces := #[]
  cf := some (fileOf pool1 17 #[] #[{ accessFlags := 1, nameIndex := 5, descriptorIndex := 6, attributes := #[] }, { accessFlags := 10, nameIndex := 20, descriptorIndex := 21, attributes := #[] }, { accessFlags := 10, nameIndex := 24, descriptorIndex := 25, attributes := #[] }, { accessFlags := 9, nameIndex := 29, descriptorIndex := 30, attributes := #[] }] 49 2 #[] #[])
  fields := #[]
  methods := #[k1m0, k1m1, k1m2, k1m3]
  instanceTypes := #[]
  staticTypes := #[]
  resolved := Array.replicate 35 none
  statics := none }

def pool2 : Array CpInfo := pool [(2, .class_ 4), (1, u "java/lang/Object"), (0, u "<init>"), (0, u "()V"), (0, .integer 65536), (0, .class_ 9), (0, u "com/example/austere_text/austeretext/io/Utf8Encoder"), (0, u "LONGEST_SEQUENCE"), (0, u "I"), (7, u "encode"), (0, u "(I[BI)I")] 2

def k2m0 : Method := { name := "<init>", desc := "()V", sig := { parameters := [], returnType := none }, accessFlags := 2, code := none }
def k2c1 : Code := { maxStack := 5, maxLocals := 4, code := prog_21_method_3_code, exceptionTable := #[], attributes := #[] }
def k2m1 : Method := { name := "encode", desc := "(I[BI)I", sig := { parameters := [.int, (.array .byte), .int], returnType := some .int }, accessFlags := 9, code := some k2c1 }
/-- com/example/austere_text/austeretext/io/Utf8Encoder -/
def k2 : Class := { plain "com/example/austere_text/austeretext/io/Utf8Encoder" (some 0) with
  accessFlags := 49
  interfaces := #[]
  cf := some (fileOf pool2 8 #[] #[{ accessFlags := 2, nameIndex := 5, descriptorIndex := 6, attributes := #[] }, { accessFlags := 9, nameIndex := 19, descriptorIndex := 20, attributes := #[] }] 49 2 #[] #[{ accessFlags := 25, nameIndex := 10, descriptorIndex := 11, attributes := #[] }])
  fields := #[{ name := "LONGEST_SEQUENCE", type := .int, accessFlags := 25, slot := 0, constantValue := 0 }]
  methods := #[k2m0, k2m1]
  instanceTypes := #[]
  staticTypes := #[.int]
  resolved := Array.replicate 23 none
  statics := none }

def pool3 : Array CpInfo := pool [(1, u "java/lang/Cloneable"), (0, .class_ 1), (0, u "java/lang/Object"), (0, .class_ 3)] 3

/-- java/lang/Cloneable -/
def k3 : Class := { plain "java/lang/Cloneable" (some 0) with
  accessFlags := 1537
  interfaces := #[]
  cf := some (fileOf pool3 2 #[] #[] 1537 4 #[] #[])
  fields := #[]
  methods := #[]
  instanceTypes := #[]
  staticTypes := #[]
  resolved := Array.replicate 8 none
  statics := none }

def pool4 : Array CpInfo := pool [(1, u "java/io/Serializable"), (0, .class_ 1), (0, u "java/lang/Object"), (0, .class_ 3)] 3

/-- java/io/Serializable -/
def k4 : Class := { plain "java/io/Serializable" (some 0) with
  accessFlags := 1537
  interfaces := #[]
  cf := some (fileOf pool4 2 #[] #[] 1537 4 #[] #[])
  fields := #[]
  methods := #[]
  instanceTypes := #[]
  staticTypes := #[]
  resolved := Array.replicate 8 none
  statics := none }

/-- the primitive byte -/
def k5 : Class := { plain "byte" none with kind := .primitive 'B', accessFlags := 0x411 }
/-- [B -/
def k6 : Class := { plain "[B" (some 0) with kind := .array 5 .byte, interfaces := #[3, 4], accessFlags := 1041 }

/-- the primitive int -/
def k7 : Class := { plain "int" none with kind := .primitive 'I', accessFlags := 0x411 }
/-- [I -/
def k8 : Class := { plain "[I" (some 0) with kind := .array 7 .int, interfaces := #[3, 4], accessFlags := 1041 }

def heap : Heap := #[]
def classes : Array Class := #[k0, k1, k2, k3, k4, k5, k6, k7, k8]
def interned : List (Array UInt16 × Addr) := []
def slotsUsed : Nat := 0
def theMethod : MethodId := ⟨1, 3⟩
def args0 : Array Value := #[.int 5, .int 7, .int 3]
def aboutOver (below : List Frame) : State where
  vm := { classes := classes, interned := interned.toArray }
  heap := heap
  slotsUsed := slotsUsed
  threads := #[{ frames := .invoking theMethod args0 :: below }]
def below0 : List Frame := [.native { method := ⟨0, 0⟩, args := #[] }]
def about1 : State := aboutOver below0
def p0 : Program := .bare "" "" ""
def e0 : Env := launch0.env 0 0 0
theorem w_frames : about1.frames = Frame.invoking theMethod args0 :: below0 := rfl
set_option maxRecDepth 65536 in
theorem w_args : argsFit about1.vm theMethod args0 = true := by decide +kernel
set_option maxRecDepth 65536 in
theorem w_heap : heapFits about1 = true := by decide +kernel
set_option maxRecDepth 65536 in
theorem w_runnable : about1.curStatus? = some .runnable := by decide +kernel
set_option maxRecDepth 65536 in
theorem w_alone : about1.alone = true := by decide +kernel
set_option maxRecDepth 65536 in
theorem w_named : about1.methodNamed? x = some theMethod := by decide +kernel
set_option maxRecDepth 65536 in
theorem w_hears : about1.hears theMethod below0 = true := by decide +kernel
set_option maxRecDepth 65536 in
theorem w_ripe : about1.ripe theMethod args0 below0 = true := by decide +kernel
theorem w_running : about1.status = .running := rfl
set_option maxRecDepth 65536 in
theorem w_room : about1.hasRoom e0.platform room_1 = true :=
  launch0.hasRoom_least _ room_1 (by decide +kernel) (by decide +kernel) (by decide +kernel) (by decide +kernel) (by decide +kernel) (by decide +kernel)
theorem allAtoms_all (ts : List Jvm.Cond) (a : Array Jvm.Value) (st : Jvm.State) : (allAtoms ts).before a st = ts.all (fun c => c.before a st) := by
  induction ts with
  | nil => rfl
  | cons c t ih =>
    show (Jvm.Cond.and c (allAtoms t)).before a st = _
    rw [Jvm.Cond.before_and, ih, List.all_cons]
def words1 : List Jvm.Cond := Jvm.Cond.code x code maxLocals ret :: tables_1
/-- a 'code' word, met by the world's own term for the bytes: nothing is compared byte by byte -/
theorem code_word {y : MethodName} {bytes : ByteArray} {mx : Nat} {rt : Option FieldType} {a : Array Value} {s : State} {m : MethodId} {meth : Method} {c : Code} (h1 : s.methodNamed? y = some m) (h2 : s.vm.method? m = some meth) (h3 : meth.code = some c) (h4 : c.code = bytes)
    (h5 : (c.maxLocals == mx && c.exceptionTable.isEmpty && decide (c.maxStack ≤ mostOperands) && decide (meth.sig.returnType = rt) && !meth.locks && decide (parseMethodDescriptor y.desc = some meth.sig)) = true) : (Jvm.Cond.code y bytes mx rt).before a s = true := by
  simp only [Bool.and_eq_true, beq_iff_eq, Bool.not_eq_true', decide_eq_true_eq] at h5
  obtain ⟨⟨⟨⟨⟨g1, g2⟩, g3⟩, g4⟩, g5⟩, g6⟩ := h5
  simp [Cond.before, Cond.holds, Cond.value, h1, h2, h3, h4, g1, g2, g3, g4, g5, g6]
def isCode : Jvm.Cond → Bool
  | .code _ _ _ _ => true
  | _ => false
theorem all_split {L : List Jvm.Cond} {P : Jvm.Cond → Bool} (h1 : L.all (fun c => isCode c || P c) = true) (h2 : ∀ c ∈ L.filter isCode, P c = true) : L.all P = true := by
  refine List.all_eq_true.mpr fun c hc => ?_
  have h := List.all_eq_true.mp h1 c hc
  rcases Bool.eq_false_or_eq_true (isCode c) with hi | hi
  · exact h2 c (List.mem_filter.mpr ⟨hc, hi⟩)
  · simpa [hi] using h
set_option maxRecDepth 65536 in
theorem w_c0 : (Jvm.Cond.code x code maxLocals ret).before args0 about1 = true := code_word (m := ⟨1, 3⟩) (meth := k1m3) (c := k1c3) (by decide +kernel) rfl rfl rfl (by decide +kernel)
set_option maxRecDepth 65536 in
theorem w_c1 : (Jvm.Cond.code ({ cls := "com/example/austere_text/austeretext/io/Utf8Encoder", name := "encode", desc := "(I[BI)I" } : Jvm.MethodName) prog_21_method_3_code (4 : Nat) (Option.some Jvm.ClassFile.FieldType.int)).before args0 about1 = true := code_word (m := ⟨2, 1⟩) (meth := k2m1) (c := k2c1) (by decide +kernel) rfl rfl rfl (by decide +kernel)
set_option maxRecDepth 65536 in
theorem w_c2 : (Jvm.Cond.code ({ cls := "com/example/austere_text/austeretext/io/Utf8EncoderEncodePinLaw", name := "untouched", desc := "([BIIIB)Z" } : Jvm.MethodName) method_3_code (5 : Nat) (Option.some Jvm.ClassFile.FieldType.boolean)).before args0 about1 = true := code_word (m := ⟨1, 2⟩) (meth := k1m2) (c := k1c2) (by decide +kernel) rfl rfl rfl (by decide +kernel)
set_option maxRecDepth 65536 in
theorem w_c3 : (Jvm.Cond.code ({ cls := "com/example/austere_text/austeretext/io/Utf8EncoderEncodePinLaw", name := "cont", desc := "(I)Z" } : Jvm.MethodName) method_2_code (1 : Nat) (Option.some Jvm.ClassFile.FieldType.boolean)).before args0 about1 = true := code_word (m := ⟨1, 1⟩) (meth := k1m1) (c := k1c1) (by decide +kernel) rfl rfl rfl (by decide +kernel)
def codes1 : List Jvm.Cond := [Jvm.Cond.code x code maxLocals ret, Jvm.Cond.code ({ cls := "com/example/austere_text/austeretext/io/Utf8Encoder", name := "encode", desc := "(I[BI)I" } : Jvm.MethodName) prog_21_method_3_code (4 : Nat) (Option.some Jvm.ClassFile.FieldType.int), Jvm.Cond.code ({ cls := "com/example/austere_text/austeretext/io/Utf8EncoderEncodePinLaw", name := "untouched", desc := "([BIIIB)Z" } : Jvm.MethodName) method_3_code (5 : Nat) (Option.some Jvm.ClassFile.FieldType.boolean), Jvm.Cond.code ({ cls := "com/example/austere_text/austeretext/io/Utf8EncoderEncodePinLaw", name := "cont", desc := "(I)Z" } : Jvm.MethodName) method_2_code (1 : Nat) (Option.some Jvm.ClassFile.FieldType.boolean)]
set_option maxRecDepth 65536 in
theorem codes_eq : words1.filter isCode = codes1 := rfl
theorem w_codes : ∀ c ∈ words1.filter isCode, c.before args0 about1 = true := by
  rw [codes_eq]
  intro c hc
  simp only [codes1, List.mem_cons, List.not_mem_nil, or_false] at hc
  rcases hc with rfl | rfl | rfl | rfl
  · exact w_c0
  · exact w_c1
  · exact w_c2
  · exact w_c3
set_option maxRecDepth 65536 in
theorem w_t1 : words1.all (fun c => isCode c || c.before args0 about1) = true := by decide +kernel
theorem w_tables : (allAtoms (Jvm.Cond.code x code maxLocals ret :: tables_1)).before args0 about1 = true := by
  rw [allAtoms_all]
  show words1.all (fun c => c.before args0 about1) = true
  refine all_split ?_ w_codes
  rw [w_t1]
set_option maxRecDepth 65536 in
theorem w_case : (Jvm.Cond.and given_1 narrow_1).before args0 about1 = true := by decide +kernel
theorem w_applies : (headSpec (Jvm.Cond.code x code maxLocals ret :: tables_1) room_1).applies x e0.platform about1 = true :=
  (Spec.applies_iff w_frames).mpr ⟨w_running, w_runnable, w_alone, w_named, w_hears, w_ripe, w_room, w_tables⟩
theorem atStart : AtStart classFile x code maxLocals ret World_1 tables_1 room_1 Calls_1 rest_1 Pre_1 launch0 p0 e0 about1 theMethod args0 below0 :=
  ⟨lists_1, trivial, launch0.admits_env _ _ _, launch0.least_env, fairChoices_fair.cas, fairChoices_fair.clock, w_frames, w_args, w_heap, w_applies, trivial, trivial, w_case⟩
end start1
theorem witness_1 : WitnessClaimed_1 := ⟨start1.p0, start1.e0, start1.about1, start1.theMethod, start1.args0, start1.below0, start1.atStart⟩
end Jvm.Pilot.@@N@@
