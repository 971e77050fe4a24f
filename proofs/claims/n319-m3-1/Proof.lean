import JvmDerived
import JvmDerived.Pilot.@@N@@Statement
import JvmDerived.Pilot.@@N@@Code
set_option linter.unusedVariables false
set_option linter.unusedSimpArgs false
namespace Jvm.Pilot.@@N@@
open Jvm Jvm.ClassFile Sem Op Lib Jvm.Free Jvm.Stand Jvm.LawKit Jvm.RoadKit Bundle Jvm.Pilot.@@N@@.Jvm.D
section OwnWalk
/-- what a walk still owes from where it stands -/
def Go (p : Program) (e : Env) (below : List Frame) (Q : Outcome → State → Prop) (T : State) (g : JFrame) : Prop :=
  ∃ s₂ o, Steps p.tables e below (T.setTop g) s₂ ∧ s₂.status = .running ∧ Ended s₂ below o ∧ Q o s₂
/-- what a body owes at its end -/
def Qend (s : State) (Qf : Option Value → Heap → List Loc → Prop) (kc ks : Nat) (o : Outcome) (U : State) : Prop :=
  ∃ v L, o = .returned v ∧ Qf v U.heap L ∧ FrameEnd s o U L kc ks
variable {p : Program} {l : Launch} {e : Env} {R : Room} {s : State} {m : MethodId} {args : Array Value} {below : List Frame} {meth : Method} {c : Code} {T : State} {locs : List Loc} {cells slots : Nat} {Q : Outcome → State → Prop} {pc : Nat} {Ls : Array Slot} {rest : List Value}
theorem Go.step {T' : State} {g g' : JFrame} (k : ∀ t, Steps p.tables e below (T'.setTop g') t → Steps p.tables e below (T.setTop g) t) (h : Go p e below Q T' g') : Go p e below Q T g := by
  obtain ⟨t, o, h1, h2⟩ := h
  exact ⟨t, o, k t h1, h2⟩
theorem Go.cast {g g' : JFrame} (q : g = g') (h : Go p e below Q T g') : Go p e below Q T g := q ▸ h
theorem g_iadd (X : Stand p l e R s m args below meth c T locs cells slots) (hx : p.tables.exec = Jvm.exec) {x y : Int32} (pc' : Nat) (hd : decode c.code pc = .ok (.iadd, 1))  (hp : pc + 1 = pc')
    (k : Go p e below Q T (mkF m pc' Ls (.int (x + y) :: rest))) : Go p e below Q T (mkF m pc Ls (.int y :: .int x :: rest)) := by
  subst hp; exact Go.step (fun t k => XS.iadd X.here hx rfl hd rfl k) k
theorem g_isub (X : Stand p l e R s m args below meth c T locs cells slots) (hx : p.tables.exec = Jvm.exec) {x y : Int32} (pc' : Nat) (hd : decode c.code pc = .ok (.isub, 1))  (hp : pc + 1 = pc')
    (k : Go p e below Q T (mkF m pc' Ls (.int (x - y) :: rest))) : Go p e below Q T (mkF m pc Ls (.int y :: .int x :: rest)) := by
  subst hp; exact Go.step (fun t k => XS.isub X.here hx rfl hd rfl k) k
theorem g_imul (X : Stand p l e R s m args below meth c T locs cells slots) (hx : p.tables.exec = Jvm.exec) {x y : Int32} (pc' : Nat) (hd : decode c.code pc = .ok (.imul, 1))  (hp : pc + 1 = pc')
    (k : Go p e below Q T (mkF m pc' Ls (.int (x * y) :: rest))) : Go p e below Q T (mkF m pc Ls (.int y :: .int x :: rest)) := by
  subst hp; exact Go.step (fun t k => XS.imul X.here hx rfl hd rfl k) k
theorem g_iand (X : Stand p l e R s m args below meth c T locs cells slots) (hx : p.tables.exec = Jvm.exec) {x y : Int32} (pc' : Nat) (hd : decode c.code pc = .ok (.iand, 1))  (hp : pc + 1 = pc')
    (k : Go p e below Q T (mkF m pc' Ls (.int (x &&& y) :: rest))) : Go p e below Q T (mkF m pc Ls (.int y :: .int x :: rest)) := by
  subst hp; exact Go.step (fun t k => XS.iand X.here hx rfl hd rfl k) k
theorem g_ior (X : Stand p l e R s m args below meth c T locs cells slots) (hx : p.tables.exec = Jvm.exec) {x y : Int32} (pc' : Nat) (hd : decode c.code pc = .ok (.ior, 1))  (hp : pc + 1 = pc')
    (k : Go p e below Q T (mkF m pc' Ls (.int (x ||| y) :: rest))) : Go p e below Q T (mkF m pc Ls (.int y :: .int x :: rest)) := by
  subst hp; exact Go.step (fun t k => XS.ior X.here hx rfl hd rfl k) k
theorem g_ixor (X : Stand p l e R s m args below meth c T locs cells slots) (hx : p.tables.exec = Jvm.exec) {x y : Int32} (pc' : Nat) (hd : decode c.code pc = .ok (.ixor, 1))  (hp : pc + 1 = pc')
    (k : Go p e below Q T (mkF m pc' Ls (.int (x ^^^ y) :: rest))) : Go p e below Q T (mkF m pc Ls (.int y :: .int x :: rest)) := by
  subst hp; exact Go.step (fun t k => XS.ixor X.here hx rfl hd rfl k) k
theorem g_ishl (X : Stand p l e R s m args below meth c T locs cells slots) (hx : p.tables.exec = Jvm.exec) {x y : Int32} (pc' : Nat) (hd : decode c.code pc = .ok (.ishl, 1))  (hp : pc + 1 = pc')
    (k : Go p e below Q T (mkF m pc' Ls (.int (x <<< (y &&& 31)) :: rest))) : Go p e below Q T (mkF m pc Ls (.int y :: .int x :: rest)) := by
  subst hp; exact Go.step (fun t k => XS.ishl X.here hx rfl hd rfl k) k
theorem g_ishr (X : Stand p l e R s m args below meth c T locs cells slots) (hx : p.tables.exec = Jvm.exec) {x y : Int32} (pc' : Nat) (hd : decode c.code pc = .ok (.ishr, 1))  (hp : pc + 1 = pc')
    (k : Go p e below Q T (mkF m pc' Ls (.int (x >>> (y &&& 31)) :: rest))) : Go p e below Q T (mkF m pc Ls (.int y :: .int x :: rest)) := by
  subst hp; exact Go.step (fun t k => XS.ishr X.here hx rfl hd rfl k) k
theorem g_iushr (X : Stand p l e R s m args below meth c T locs cells slots) (hx : p.tables.exec = Jvm.exec) {x y : Int32} (pc' : Nat) (hd : decode c.code pc = .ok (.iushr, 1))  (hp : pc + 1 = pc')
    (k : Go p e below Q T (mkF m pc' Ls (.int ((x.toUInt32 >>> (y &&& 31).toUInt32).toInt32) :: rest))) : Go p e below Q T (mkF m pc Ls (.int y :: .int x :: rest)) := by
  subst hp; exact Go.step (fun t k => XS.iushr X.here hx rfl hd rfl k) k
theorem g_irem (X : Stand p l e R s m args below meth c T locs cells slots) (hx : p.tables.exec = Jvm.exec) {x y : Int32} (pc' : Nat) (hd : decode c.code pc = .ok (.irem, 1)) (hy : y ≠ 0) (hp : pc + 1 = pc')
    (k : Go p e below Q T (mkF m pc' Ls (.int (x % y) :: rest))) : Go p e below Q T (mkF m pc Ls (.int y :: .int x :: rest)) := by
  subst hp; exact Go.step (fun t k => iremM X hx rfl hd rfl hy k) k
theorem g_idiv (X : Stand p l e R s m args below meth c T locs cells slots) (hx : p.tables.exec = Jvm.exec) {x y : Int32} (pc' : Nat) (hd : decode c.code pc = .ok (.idiv, 1)) (hy : y ≠ 0) (hp : pc + 1 = pc')
    (k : Go p e below Q T (mkF m pc' Ls (.int (x / y) :: rest))) : Go p e below Q T (mkF m pc Ls (.int y :: .int x :: rest)) := by
  subst hp; exact Go.step (fun t k => XS.idiv X.here hx rfl hd rfl hy k) k
theorem g_ladd (X : Stand p l e R s m args below meth c T locs cells slots) (hx : p.tables.exec = Jvm.exec) {x y : Int64} (pc' : Nat) (hd : decode c.code pc = .ok (.ladd, 1))  (hp : pc + 1 = pc')
    (k : Go p e below Q T (mkF m pc' Ls (.long (x + y) :: rest))) : Go p e below Q T (mkF m pc Ls (.long y :: .long x :: rest)) := by
  subst hp; exact Go.step (fun t k => XS.ladd X.here hx rfl hd rfl k) k
theorem g_lsub (X : Stand p l e R s m args below meth c T locs cells slots) (hx : p.tables.exec = Jvm.exec) {x y : Int64} (pc' : Nat) (hd : decode c.code pc = .ok (.lsub, 1))  (hp : pc + 1 = pc')
    (k : Go p e below Q T (mkF m pc' Ls (.long (x - y) :: rest))) : Go p e below Q T (mkF m pc Ls (.long y :: .long x :: rest)) := by
  subst hp; exact Go.step (fun t k => XS.lsub X.here hx rfl hd rfl k) k
theorem g_lmul (X : Stand p l e R s m args below meth c T locs cells slots) (hx : p.tables.exec = Jvm.exec) {x y : Int64} (pc' : Nat) (hd : decode c.code pc = .ok (.lmul, 1))  (hp : pc + 1 = pc')
    (k : Go p e below Q T (mkF m pc' Ls (.long (x * y) :: rest))) : Go p e below Q T (mkF m pc Ls (.long y :: .long x :: rest)) := by
  subst hp; exact Go.step (fun t k => XS.lmul X.here hx rfl hd rfl k) k
theorem g_land (X : Stand p l e R s m args below meth c T locs cells slots) (hx : p.tables.exec = Jvm.exec) {x y : Int64} (pc' : Nat) (hd : decode c.code pc = .ok (.land, 1))  (hp : pc + 1 = pc')
    (k : Go p e below Q T (mkF m pc' Ls (.long (x &&& y) :: rest))) : Go p e below Q T (mkF m pc Ls (.long y :: .long x :: rest)) := by
  subst hp; exact Go.step (fun t k => XS.land X.here hx rfl hd rfl k) k
theorem g_lor (X : Stand p l e R s m args below meth c T locs cells slots) (hx : p.tables.exec = Jvm.exec) {x y : Int64} (pc' : Nat) (hd : decode c.code pc = .ok (.lor, 1))  (hp : pc + 1 = pc')
    (k : Go p e below Q T (mkF m pc' Ls (.long (x ||| y) :: rest))) : Go p e below Q T (mkF m pc Ls (.long y :: .long x :: rest)) := by
  subst hp; exact Go.step (fun t k => XS.lor X.here hx rfl hd rfl k) k
theorem g_lxor (X : Stand p l e R s m args below meth c T locs cells slots) (hx : p.tables.exec = Jvm.exec) {x y : Int64} (pc' : Nat) (hd : decode c.code pc = .ok (.lxor, 1))  (hp : pc + 1 = pc')
    (k : Go p e below Q T (mkF m pc' Ls (.long (x ^^^ y) :: rest))) : Go p e below Q T (mkF m pc Ls (.long y :: .long x :: rest)) := by
  subst hp; exact Go.step (fun t k => XS.lxor X.here hx rfl hd rfl k) k
theorem g_ldiv (X : Stand p l e R s m args below meth c T locs cells slots) (hx : p.tables.exec = Jvm.exec) {x y : Int64} (pc' : Nat) (hd : decode c.code pc = .ok (.ldiv, 1)) (hy : y ≠ 0) (hp : pc + 1 = pc')
    (k : Go p e below Q T (mkF m pc' Ls (.long (x / y) :: rest))) : Go p e below Q T (mkF m pc Ls (.long y :: .long x :: rest)) := by
  subst hp; exact Go.step (fun t k => XS.ldiv X.here hx rfl hd rfl hy k) k
theorem g_lshl (X : Stand p l e R s m args below meth c T locs cells slots) (hx : p.tables.exec = Jvm.exec) {x : Int64} {y : Int32} (pc' : Nat) (hd : decode c.code pc = .ok (.lshl, 1))  (hp : pc + 1 = pc')
    (k : Go p e below Q T (mkF m pc' Ls (.long (x <<< (y &&& 0x3f).toInt64) :: rest))) : Go p e below Q T (mkF m pc Ls (.int y :: .long x :: rest)) := by
  subst hp; exact Go.step (fun t k => XS.lshl X.here hx rfl hd rfl k) k
theorem g_lshr (X : Stand p l e R s m args below meth c T locs cells slots) (hx : p.tables.exec = Jvm.exec) {x : Int64} {y : Int32} (pc' : Nat) (hd : decode c.code pc = .ok (.lshr, 1))  (hp : pc + 1 = pc')
    (k : Go p e below Q T (mkF m pc' Ls (.long (x >>> (y &&& 0x3f).toInt64) :: rest))) : Go p e below Q T (mkF m pc Ls (.int y :: .long x :: rest)) := by
  subst hp; exact Go.step (fun t k => XS.lshr X.here hx rfl hd rfl k) k
theorem g_lushr (X : Stand p l e R s m args below meth c T locs cells slots) (hx : p.tables.exec = Jvm.exec) {x : Int64} {y : Int32} (pc' : Nat) (hd : decode c.code pc = .ok (.lushr, 1))  (hp : pc + 1 = pc')
    (k : Go p e below Q T (mkF m pc' Ls (.long ((x.toUInt64 >>> (y &&& 0x3f).toInt64.toUInt64).toInt64) :: rest))) : Go p e below Q T (mkF m pc Ls (.int y :: .long x :: rest)) := by
  subst hp; exact Go.step (fun t k => XS.lushr X.here hx rfl hd rfl k) k
theorem g_i2b (X : Stand p l e R s m args below meth c T locs cells slots) (hx : p.tables.exec = Jvm.exec) {x : Int32} (pc' : Nat) (hd : decode c.code pc = .ok (.i2b, 1))  (hp : pc + 1 = pc')
    (k : Go p e below Q T (mkF m pc' Ls (.int (x.toInt8.toInt32) :: rest))) : Go p e below Q T (mkF m pc Ls (.int x :: rest)) := by
  subst hp; exact Go.step (fun t k => XS.i2b X.here hx rfl hd rfl k) k
theorem g_i2c (X : Stand p l e R s m args below meth c T locs cells slots) (hx : p.tables.exec = Jvm.exec) {x : Int32} (pc' : Nat) (hd : decode c.code pc = .ok (.i2c, 1))  (hp : pc + 1 = pc')
    (k : Go p e below Q T (mkF m pc' Ls (.int (x.toUInt32.toUInt16.toUInt32.toInt32) :: rest))) : Go p e below Q T (mkF m pc Ls (.int x :: rest)) := by
  subst hp; exact Go.step (fun t k => XS.i2c X.here hx rfl hd rfl k) k
theorem g_i2s (X : Stand p l e R s m args below meth c T locs cells slots) (hx : p.tables.exec = Jvm.exec) {x : Int32} (pc' : Nat) (hd : decode c.code pc = .ok (.i2s, 1))  (hp : pc + 1 = pc')
    (k : Go p e below Q T (mkF m pc' Ls (.int (x.toInt16.toInt32) :: rest))) : Go p e below Q T (mkF m pc Ls (.int x :: rest)) := by
  subst hp; exact Go.step (fun t k => XS.i2s X.here hx rfl hd rfl k) k
theorem g_i2l (X : Stand p l e R s m args below meth c T locs cells slots) (hx : p.tables.exec = Jvm.exec) {x : Int32} (pc' : Nat) (hd : decode c.code pc = .ok (.i2l, 1))  (hp : pc + 1 = pc')
    (k : Go p e below Q T (mkF m pc' Ls (.long (x.toInt64) :: rest))) : Go p e below Q T (mkF m pc Ls (.int x :: rest)) := by
  subst hp; exact Go.step (fun t k => XS.i2l X.here hx rfl hd rfl k) k
theorem g_l2i (X : Stand p l e R s m args below meth c T locs cells slots) (hx : p.tables.exec = Jvm.exec) {x : Int64} (pc' : Nat) (hd : decode c.code pc = .ok (.l2i, 1))  (hp : pc + 1 = pc')
    (k : Go p e below Q T (mkF m pc' Ls (.int (x.toInt32) :: rest))) : Go p e below Q T (mkF m pc Ls (.long x :: rest)) := by
  subst hp; exact Go.step (fun t k => XS.l2i X.here hx rfl hd rfl k) k
theorem g_ineg (X : Stand p l e R s m args below meth c T locs cells slots) (hx : p.tables.exec = Jvm.exec) {x : Int32} (pc' : Nat) (hd : decode c.code pc = .ok (.ineg, 1))  (hp : pc + 1 = pc')
    (k : Go p e below Q T (mkF m pc' Ls (.int (-x) :: rest))) : Go p e below Q T (mkF m pc Ls (.int x :: rest)) := by
  subst hp; exact Go.step (fun t k => XS.ineg X.here hx rfl hd rfl k) k
theorem g_lneg (X : Stand p l e R s m args below meth c T locs cells slots) (hx : p.tables.exec = Jvm.exec) {x : Int64} (pc' : Nat) (hd : decode c.code pc = .ok (.lneg, 1))  (hp : pc + 1 = pc')
    (k : Go p e below Q T (mkF m pc' Ls (.long (-x) :: rest))) : Go p e below Q T (mkF m pc Ls (.long x :: rest)) := by
  subst hp; exact Go.step (fun t k => XS.lneg X.here hx rfl hd rfl k) k
theorem g_lcmp (X : Stand p l e R s m args below meth c T locs cells slots) (hx : p.tables.exec = Jvm.exec) {x y : Int64} (pc' : Nat) (hd : decode c.code pc = .ok (.lcmp, 1))  (hp : pc + 1 = pc')
    (k : Go p e below Q T (mkF m pc' Ls (.int (Jvm.Free.XT.cmpL x y) :: rest))) : Go p e below Q T (mkF m pc Ls (.long y :: .long x :: rest)) := by
  subst hp; exact Go.step (fun t k => Jvm.Free.XT.lcmp X.here hx rfl hd rfl k) k
theorem g_iloadN (X : Stand p l e R s m args below meth c T locs cells slots) (hx : p.tables.exec = Jvm.exec) {k' : Fin 4} {v : Int32} (pc' : Nat) (hd : decode c.code pc = .ok (.iload_n k', 1)) (hl : Ls[k'.val]? = some (.val (.int v))) (hp : pc + 1 = pc')
    (k : Go p e below Q T (mkF m pc' Ls (.int v :: rest))) : Go p e below Q T (mkF m pc Ls (rest)) := by
  subst hp; exact Go.step (fun t k => XS.iloadN X.here hx rfl hd hl k) k
theorem g_iload (X : Stand p l e R s m args below meth c T locs cells slots) (hx : p.tables.exec = Jvm.exec) {k' : Nat} {v : Int32} (pc' : Nat) (hd : decode c.code pc = .ok (.iload k', 2)) (hl : Ls[k']? = some (.val (.int v))) (hp : pc + 2 = pc')
    (k : Go p e below Q T (mkF m pc' Ls (.int v :: rest))) : Go p e below Q T (mkF m pc Ls (rest)) := by
  subst hp; exact Go.step (fun t k => XS.iload X.here hx rfl hd hl k) k
theorem g_lloadN (X : Stand p l e R s m args below meth c T locs cells slots) (hx : p.tables.exec = Jvm.exec) {k' : Fin 4} {v : Int64} (pc' : Nat) (hd : decode c.code pc = .ok (.lload_n k', 1)) (hl : Ls[k'.val]? = some (.val (.long v))) (hp : pc + 1 = pc')
    (k : Go p e below Q T (mkF m pc' Ls (.long v :: rest))) : Go p e below Q T (mkF m pc Ls (rest)) := by
  subst hp; exact Go.step (fun t k => XS.lloadN X.here hx rfl hd hl k) k
theorem g_lload (X : Stand p l e R s m args below meth c T locs cells slots) (hx : p.tables.exec = Jvm.exec) {k' : Nat} {v : Int64} (pc' : Nat) (hd : decode c.code pc = .ok (.lload k', 2)) (hl : Ls[k']? = some (.val (.long v))) (hp : pc + 2 = pc')
    (k : Go p e below Q T (mkF m pc' Ls (.long v :: rest))) : Go p e below Q T (mkF m pc Ls (rest)) := by
  subst hp; exact Go.step (fun t k => XS.lload X.here hx rfl hd hl k) k
theorem g_aloadN (X : Stand p l e R s m args below meth c T locs cells slots) (hx : p.tables.exec = Jvm.exec) {k' : Fin 4} {v : Value} (pc' : Nat) (hd : decode c.code pc = .ok (.aload_n k', 1)) (hl : Ls[k'.val]? = some (.val v)) (hv : v.isRef = true) (hp : pc + 1 = pc')
    (k : Go p e below Q T (mkF m pc' Ls (v :: rest))) : Go p e below Q T (mkF m pc Ls (rest)) := by
  subst hp; exact Go.step (fun t k => XS.aloadN X.here hx rfl hd hl hv k) k
theorem g_aload (X : Stand p l e R s m args below meth c T locs cells slots) (hx : p.tables.exec = Jvm.exec) {k' : Nat} {v : Value} (pc' : Nat) (hd : decode c.code pc = .ok (.aload k', 2)) (hl : Ls[k']? = some (.val v)) (hv : v.isRef = true) (hp : pc + 2 = pc')
    (k : Go p e below Q T (mkF m pc' Ls (v :: rest))) : Go p e below Q T (mkF m pc Ls (rest)) := by
  subst hp; exact Go.step (fun t k => XS.aload X.here hx rfl hd hl hv k) k
theorem g_istoreN (X : Stand p l e R s m args below meth c T locs cells slots) (hx : p.tables.exec = Jvm.exec) {k' : Fin 4} {x : Int32} (pc' : Nat) (hd : decode c.code pc = .ok (.istore_n k', 1)) (Ls' : Array Slot) (hl : storeLocals Ls k'.val (.int x) = some Ls') (hp : pc + 1 = pc')
    (k : Go p e below Q T (mkF m pc' Ls' (rest))) : Go p e below Q T (mkF m pc Ls (.int x :: rest)) := by
  subst hp; exact Go.step (fun t k => XS.istoreN X.here hx rfl hd rfl hl k) k
theorem g_istore (X : Stand p l e R s m args below meth c T locs cells slots) (hx : p.tables.exec = Jvm.exec) {k' : Nat} {x : Int32} (pc' : Nat) (hd : decode c.code pc = .ok (.istore k', 2)) (Ls' : Array Slot) (hl : storeLocals Ls k' (.int x) = some Ls') (hp : pc + 2 = pc')
    (k : Go p e below Q T (mkF m pc' Ls' (rest))) : Go p e below Q T (mkF m pc Ls (.int x :: rest)) := by
  subst hp; exact Go.step (fun t k => XS.istore X.here hx rfl hd rfl hl k) k
theorem g_lstoreN (X : Stand p l e R s m args below meth c T locs cells slots) (hx : p.tables.exec = Jvm.exec) {k' : Fin 4} {x : Int64} (pc' : Nat) (hd : decode c.code pc = .ok (.lstore_n k', 1)) (Ls' : Array Slot) (hl : storeLocals Ls k'.val (.long x) = some Ls') (hp : pc + 1 = pc')
    (k : Go p e below Q T (mkF m pc' Ls' (rest))) : Go p e below Q T (mkF m pc Ls (.long x :: rest)) := by
  subst hp; exact Go.step (fun t k => XS.lstoreN X.here hx rfl hd rfl hl k) k
theorem g_lstore (X : Stand p l e R s m args below meth c T locs cells slots) (hx : p.tables.exec = Jvm.exec) {k' : Nat} {x : Int64} (pc' : Nat) (hd : decode c.code pc = .ok (.lstore k', 2)) (Ls' : Array Slot) (hl : storeLocals Ls k' (.long x) = some Ls') (hp : pc + 2 = pc')
    (k : Go p e below Q T (mkF m pc' Ls' (rest))) : Go p e below Q T (mkF m pc Ls (.long x :: rest)) := by
  subst hp; exact Go.step (fun t k => XS.lstore X.here hx rfl hd rfl hl k) k
theorem g_astoreN (X : Stand p l e R s m args below meth c T locs cells slots) (hx : p.tables.exec = Jvm.exec) {k' : Fin 4} {x : Value} (pc' : Nat) (hd : decode c.code pc = .ok (.astore_n k', 1)) (hv : x.isRef = true) (Ls' : Array Slot) (hl : storeLocals Ls k'.val x = some Ls') (hp : pc + 1 = pc')
    (k : Go p e below Q T (mkF m pc' Ls' (rest))) : Go p e below Q T (mkF m pc Ls (x :: rest)) := by
  subst hp; exact Go.step (fun t k => XS.astoreN X.here hx rfl hd rfl hv hl k) k
theorem g_astore (X : Stand p l e R s m args below meth c T locs cells slots) (hx : p.tables.exec = Jvm.exec) {k' : Nat} {x : Value} (pc' : Nat) (hd : decode c.code pc = .ok (.astore k', 2)) (hv : x.isRef = true) (Ls' : Array Slot) (hl : storeLocals Ls k' x = some Ls') (hp : pc + 2 = pc')
    (k : Go p e below Q T (mkF m pc' Ls' (rest))) : Go p e below Q T (mkF m pc Ls (x :: rest)) := by
  subst hp; exact Go.step (fun t k => XS.astore X.here hx rfl hd rfl hv hl k) k
theorem g_iinc (X : Stand p l e R s m args below meth c T locs cells slots) (hx : p.tables.exec = Jvm.exec) {k' : Nat} {cst : Int} {x : Int32} (pc' : Nat) (hd : decode c.code pc = .ok (.iinc k' cst, 3)) (v : Int32) (hv : Int32.ofInt cst = v) (hl : Ls[k']? = some (.val (.int x))) (Ls' : Array Slot) (hl' : storeLocals Ls k' (.int (x + v)) = some Ls') (hp : pc + 3 = pc')
    (k : Go p e below Q T (mkF m pc' Ls' (rest))) : Go p e below Q T (mkF m pc Ls (rest)) := by
  subst hp; exact Go.step (fun t k => XS.iinc X.here hx rfl hd hl (by rw [hv]; exact hl') k) k
theorem g_iincC (X : Stand p l e R s m args below meth c T locs cells slots) (hx : p.tables.exec = Jvm.exec) {k' : Nat} {cst : Int} {x : Int32} (pc' : Nat) (hd : decode c.code pc = .ok (.iinc k' cst, 3)) (v w : Int32) (hv : Int32.ofInt cst = v) (hw : x + v = w) (hl : Ls[k']? = some (.val (.int x))) (Ls' : Array Slot) (hl' : storeLocals Ls k' (.int w) = some Ls') (hp : pc + 3 = pc')
    (k : Go p e below Q T (mkF m pc' Ls' (rest))) : Go p e below Q T (mkF m pc Ls (rest)) := by
  subst hp; exact Go.step (fun t k => XS.iinc X.here hx rfl hd hl (by rw [hv, hw]; exact hl') k) k
theorem g_iconst (X : Stand p l e R s m args below meth c T locs cells slots) (hx : p.tables.exec = Jvm.exec) {i : Int} (pc' : Nat) (hd : decode c.code pc = .ok (.iconst i, 1)) (v : Int32) (hv : Int32.ofInt i = v) (hp : pc + 1 = pc')
    (k : Go p e below Q T (mkF m pc' Ls (.int v :: rest))) : Go p e below Q T (mkF m pc Ls (rest)) := by
  subst hp; exact Go.step (fun t k => XS.iconst X.here hx rfl hd (by rw [hv]; exact k)) k
theorem g_bipush (X : Stand p l e R s m args below meth c T locs cells slots) (hx : p.tables.exec = Jvm.exec) {i : Int} (pc' : Nat) (hd : decode c.code pc = .ok (.bipush i, 2)) (v : Int32) (hv : (Int8.ofInt i).toInt32 = v) (hp : pc + 2 = pc')
    (k : Go p e below Q T (mkF m pc' Ls (.int v :: rest))) : Go p e below Q T (mkF m pc Ls (rest)) := by
  subst hp; exact Go.step (fun t k => XS.bipush X.here hx rfl hd (by rw [hv]; exact k)) k
theorem g_sipush (X : Stand p l e R s m args below meth c T locs cells slots) (hx : p.tables.exec = Jvm.exec) {i : Int} (pc' : Nat) (hd : decode c.code pc = .ok (.sipush i, 3)) (v : Int32) (hv : (Int16.ofInt i).toInt32 = v) (hp : pc + 3 = pc')
    (k : Go p e below Q T (mkF m pc' Ls (.int v :: rest))) : Go p e below Q T (mkF m pc Ls (rest)) := by
  subst hp; exact Go.step (fun t k => XS.sipush X.here hx rfl hd (by rw [hv]; exact k)) k
theorem g_lconst (X : Stand p l e R s m args below meth c T locs cells slots) (hx : p.tables.exec = Jvm.exec) {i : Fin 2} (pc' : Nat) (hd : decode c.code pc = .ok (.lconst i, 1)) (v : Int64) (hv : Int64.ofNat i = v) (hp : pc + 1 = pc')
    (k : Go p e below Q T (mkF m pc' Ls (.long v :: rest))) : Go p e below Q T (mkF m pc Ls (rest)) := by
  subst hp; exact Go.step (fun t k => XS.lconst X.here hx rfl hd (by rw [hv]; exact k)) k
theorem g_null (X : Stand p l e R s m args below meth c T locs cells slots) (hx : p.tables.exec = Jvm.exec)  (pc' : Nat) (hd : decode c.code pc = .ok (.aconst_null, 1))  (hp : pc + 1 = pc')
    (k : Go p e below Q T (mkF m pc' Ls (.null :: rest))) : Go p e below Q T (mkF m pc Ls (rest)) := by
  subst hp; exact Go.step (fun t k => XS.aconstNull X.here hx rfl hd k) k
theorem g_dup (X : Stand p l e R s m args below meth c T locs cells slots) (hx : p.tables.exec = Jvm.exec) {x : Value} (pc' : Nat) (hd : decode c.code pc = .ok (.dup, 1)) (hc : x.category = 1) (hp : pc + 1 = pc')
    (k : Go p e below Q T (mkF m pc' Ls (x :: x :: rest))) : Go p e below Q T (mkF m pc Ls (x :: rest)) := by
  subst hp; exact Go.step (fun t k => XS.dup X.here hx rfl hd rfl hc k) k
theorem g_pop (X : Stand p l e R s m args below meth c T locs cells slots) (hx : p.tables.exec = Jvm.exec) {x : Value} (pc' : Nat) (hd : decode c.code pc = .ok (.pop, 1)) (hc : x.category = 1) (hp : pc + 1 = pc')
    (k : Go p e below Q T (mkF m pc' Ls (rest))) : Go p e below Q T (mkF m pc Ls (x :: rest)) := by
  subst hp; exact Go.step (fun t k => XS.pop X.here hx rfl hd rfl hc k) k
theorem g_dup2 (X : Stand p l e R s m args below meth c T locs cells slots) (hx : p.tables.exec = Jvm.exec) {x y : Value} (pc' : Nat) (hd : decode c.code pc = .ok (.dup2, 1)) (hc : x.category = 1) (hc' : y.category = 1) (hp : pc + 1 = pc')
    (k : Go p e below Q T (mkF m pc' Ls (x :: y :: x :: y :: rest))) : Go p e below Q T (mkF m pc Ls (x :: y :: rest)) := by
  subst hp; exact Go.step (fun t k => Jvm.Free.XT.dup2 X.here hx rfl hd rfl hc hc' k) k
theorem g_dupX1 (X : Stand p l e R s m args below meth c T locs cells slots) (hx : p.tables.exec = Jvm.exec) {x y : Value} (pc' : Nat) (hd : decode c.code pc = .ok (.dup_x1, 1)) (hc : x.category = 1) (hc' : y.category = 1) (hp : pc + 1 = pc')
    (k : Go p e below Q T (mkF m pc' Ls (x :: y :: x :: rest))) : Go p e below Q T (mkF m pc Ls (x :: y :: rest)) := by
  subst hp; exact Go.step (fun t k => XS.dupX1 X.here hx rfl hd rfl hc hc' k) k
theorem g_ldcI (X : Stand p l e R s m args below meth c T locs cells slots) (hx : p.tables.exec = Jvm.exec) {Z : State} {a0 : Array Value} (hZ : Z.Warmed39 s.vm) {own : String} {index : Nat} (v : Int32) (hown : s.vm.findClass own = some m.cls) (w : (Jvm.Cond.constant own index v).before a0 Z = true) (pc' : Nat) (hd : decode c.code pc = .ok (.ldc index, 2))  (hp : pc + 2 = pc')
    (k : Go p e below Q T (mkF m pc' Ls (.int v :: rest))) : Go p e below Q T (mkF m pc Ls (rest)) := by
  subst hp; exact Go.step (fun t k => X.ldcI hx hown (mv hZ w) rfl hd k) k
theorem g_ldcWI (X : Stand p l e R s m args below meth c T locs cells slots) (hx : p.tables.exec = Jvm.exec) {Z : State} {a0 : Array Value} (hZ : Z.Warmed39 s.vm) {own : String} {index : Nat} (v : Int32) (hown : s.vm.findClass own = some m.cls) (w : (Jvm.Cond.constant own index v).before a0 Z = true) (pc' : Nat) (hd : decode c.code pc = .ok (.ldc_w index, 3))  (hp : pc + 3 = pc')
    (k : Go p e below Q T (mkF m pc' Ls (.int v :: rest))) : Go p e below Q T (mkF m pc Ls (rest)) := by
  subst hp; exact Go.step (fun t k => X.ldcWI hx hown (mv hZ w) rfl hd k) k
theorem g_ldc2J (X : Stand p l e R s m args below meth c T locs cells slots) (hx : p.tables.exec = Jvm.exec) {Z : State} {a0 : Array Value} (hZ : Z.Warmed39 s.vm) {own : String} {index : Nat} (v : Int64) (hown : s.vm.findClass own = some m.cls) (w : (Jvm.Cond.constantLong own index v).before a0 Z = true) (pc' : Nat) (hd : decode c.code pc = .ok (.ldc2_w index, 3))  (hp : pc + 3 = pc')
    (k : Go p e below Q T (mkF m pc' Ls (.long v :: rest))) : Go p e below Q T (mkF m pc Ls (rest)) := by
  subst hp; exact Go.step (fun t k => X.ldc2J hx hown (mv hZ w) rfl hd k) k
theorem g_goto (X : Stand p l e R s m args below meth c T locs cells slots) (hx : p.tables.exec = Jvm.exec) (pc' : Nat) {o : Int} (hd : decode c.code pc = .ok (.goto o, 3)) (ho : 0 ≤ (pc : Int) + o) (hp : ((pc : Int) + o).toNat = pc') {st : List Value}
    (k : Go p e below Q T (mkF m pc' Ls st)) : Go p e below Q T (mkF m pc Ls st) := Go.step (fun t k => XS.goto X.here hx rfl rfl hd ho hp k) k
theorem g_ifT (X : Stand p l e R s m args below meth c T locs cells slots) (hx : p.tables.exec = Jvm.exec) (pc' : Nat) {o : Int} {cd : ClassFile.Cond} {x : Int32} (hd : decode c.code pc = .ok (.ifCond cd o, 3)) (hc : ifCond.holds cd x = true) (ho : 0 ≤ (pc : Int) + o) (hp : ((pc : Int) + o).toNat = pc')
    (k : Go p e below Q T (mkF m pc' Ls rest)) : Go p e below Q T (mkF m pc Ls (.int x :: rest)) := Go.step (fun t k => XS.ifYes X.here hx rfl rfl hd rfl hc ho hp k) k
theorem g_ifF (X : Stand p l e R s m args below meth c T locs cells slots) (hx : p.tables.exec = Jvm.exec) (pc' : Nat) {o : Int} {cd : ClassFile.Cond} {x : Int32} (hd : decode c.code pc = .ok (.ifCond cd o, 3)) (hc : ifCond.holds cd x = false) (hp : pc + 3 = pc')
    (k : Go p e below Q T (mkF m pc' Ls rest)) : Go p e below Q T (mkF m pc Ls (.int x :: rest)) := by subst hp; exact Go.step (fun t k => XS.ifNo X.here hx rfl hd rfl hc k) k
theorem g_icT (X : Stand p l e R s m args below meth c T locs cells slots) (hx : p.tables.exec = Jvm.exec) (pc' : Nat) {o : Int} {cd : ClassFile.Cond} {x y : Int32} (hd : decode c.code pc = .ok (.if_icmp cd o, 3)) (hc : if_icmp.holds cd x y = true) (ho : 0 ≤ (pc : Int) + o) (hp : ((pc : Int) + o).toNat = pc')
    (k : Go p e below Q T (mkF m pc' Ls rest)) : Go p e below Q T (mkF m pc Ls (.int y :: .int x :: rest)) := Go.step (fun t k => XS.icmpYes X.here hx rfl rfl hd rfl hc ho hp k) k
theorem g_icF (X : Stand p l e R s m args below meth c T locs cells slots) (hx : p.tables.exec = Jvm.exec) (pc' : Nat) {o : Int} {cd : ClassFile.Cond} {x y : Int32} (hd : decode c.code pc = .ok (.if_icmp cd o, 3)) (hc : if_icmp.holds cd x y = false) (hp : pc + 3 = pc')
    (k : Go p e below Q T (mkF m pc' Ls rest)) : Go p e below Q T (mkF m pc Ls (.int y :: .int x :: rest)) := by subst hp; exact Go.step (fun t k => XS.icmpNo X.here hx rfl hd rfl hc k) k
theorem g_swIn (X : Stand p l e R s m args below meth c T locs cells slots) (hx : p.tables.exec = Jvm.exec) (pc' : Nat) {dflt low high : Int} {offs : Array Int} {len : Nat} {o : Int} {i : Int32} (hd : decode c.code pc = .ok (.tableswitch dflt low high offs, len)) (hin : ¬ (i.toInt < low ∨ i.toInt > high)) (hoff : offs[(i.toInt - low).toNat]? = some o) (ho : 0 ≤ (pc : Int) + o) (hp : ((pc : Int) + o).toNat = pc')
    (k : Go p e below Q T (mkF m pc' Ls rest)) : Go p e below Q T (mkF m pc Ls (.int i :: rest)) := Go.step (fun t k => XS.tswIn X.here hx rfl rfl hd rfl hin hoff ho hp k) k
theorem g_swOut (X : Stand p l e R s m args below meth c T locs cells slots) (hx : p.tables.exec = Jvm.exec) (pc' : Nat) {dflt low high : Int} {offs : Array Int} {len : Nat} {i : Int32} (hd : decode c.code pc = .ok (.tableswitch dflt low high offs, len)) (hout : i.toInt < low ∨ i.toInt > high) (ho : 0 ≤ (pc : Int) + dflt) (hp : ((pc : Int) + dflt).toNat = pc')
    (k : Go p e below Q T (mkF m pc' Ls rest)) : Go p e below Q T (mkF m pc Ls (.int i :: rest)) := Go.step (fun t k => XS.tswOut X.here hx rfl rfl hd rfl hout ho hp k) k
theorem g_nullT (X : Stand p l e R s m args below meth c T locs cells slots) (hx : p.tables.exec = Jvm.exec) (pc' : Nat) {o : Int} (hd : decode c.code pc = .ok (.ifnull o, 3)) (ho : 0 ≤ (pc : Int) + o) (hp : ((pc : Int) + o).toNat = pc')
    (k : Go p e below Q T (mkF m pc' Ls rest)) : Go p e below Q T (mkF m pc Ls (.null :: rest)) := Go.step (fun t k => XS.ifnullYes X.here hx rfl rfl hd rfl ho hp k) k
theorem g_nullF (X : Stand p l e R s m args below meth c T locs cells slots) (hx : p.tables.exec = Jvm.exec) (pc' : Nat) {o : Int} {b : Addr} (hd : decode c.code pc = .ok (.ifnull o, 3)) (hp : pc + 3 = pc')
    (k : Go p e below Q T (mkF m pc' Ls rest)) : Go p e below Q T (mkF m pc Ls (.ref b :: rest)) := by subst hp; exact Go.step (fun t k => XS.ifnullNo X.here hx rfl hd rfl k) k
theorem g_nonnullT (X : Stand p l e R s m args below meth c T locs cells slots) (hx : p.tables.exec = Jvm.exec) (pc' : Nat) {o : Int} {b : Addr} (hd : decode c.code pc = .ok (.ifnonnull o, 3)) (ho : 0 ≤ (pc : Int) + o) (hp : ((pc : Int) + o).toNat = pc')
    (k : Go p e below Q T (mkF m pc' Ls rest)) : Go p e below Q T (mkF m pc Ls (.ref b :: rest)) := Go.step (fun t k => XS.ifnonnullYes X.here hx rfl rfl hd rfl ho hp k) k
theorem g_nonnullF (X : Stand p l e R s m args below meth c T locs cells slots) (hx : p.tables.exec = Jvm.exec) (pc' : Nat) {o : Int} (hd : decode c.code pc = .ok (.ifnonnull o, 3)) (hp : pc + 3 = pc')
    (k : Go p e below Q T (mkF m pc' Ls rest)) : Go p e below Q T (mkF m pc Ls (.null :: rest)) := by subst hp; exact Go.step (fun t k => XS.ifnonnullNo X.here hx rfl hd rfl k) k
theorem own_end {Qf : Option Value → Heap → List Loc → Prop} {kc ks : Nat} {g : JFrame} (X : Stand p l e R s m args below meth c T locs cells slots) (hx : p.tables.exec = Jvm.exec) (v : Option Value) (hv : meth.sig.returnType = none → v = none) (hlocks : meth.locks = false)
    (st : ∀ fs, (∀ (f : JFrame) (acts : List Action), f.method = m → f.locked = none → f.entered = [] → (doReturn e (T.setTop f) acts v).1 = T.setFrames fs) → Steps p.tables e below (T.setTop g) (T.setFrames fs))
    (hc : cells ≤ kc) (hs : slots ≤ ks) (hQ : Qf v T.heap locs) : Go p e below (Qend s Qf kc ks) T g := by
  obtain ⟨fs, hr, hrun, hended, hW, hsame⟩ := X.leave (v := v) hv hlocks
  exact ⟨_, _, st fs hr, hrun, hended, _, _, rfl, hQ, ⟨_, rfl⟩, hW, hsame.mono hc hs⟩
theorem g_iret {Qf : Option Value → Heap → List Loc → Prop} {kc ks : Nat} (X : Stand p l e R s m args below meth c T locs cells slots) (hx : p.tables.exec = Jvm.exec) {z : Int32} (hret : meth.sig.returnType = some .int) (hlocks : meth.locks = false) (hd : decode c.code pc = .ok (.ireturn, 1)) (hc : cells ≤ kc) (hs : slots ≤ ks)
    (hQ : Qf (some (.int z)) T.heap locs) : Go p e below (Qend s Qf kc ks) T (mkF m pc Ls (.int z :: rest)) :=
  own_end X hx _ (fun h => by rw [hret] at h; cases h) hlocks (fun fs hr => retOut X hx hret rfl (Or.inl ⟨rfl, Or.inl rfl, _, rfl⟩) hd hr) hc hs hQ
theorem g_lret {Qf : Option Value → Heap → List Loc → Prop} {kc ks : Nat} (X : Stand p l e R s m args below meth c T locs cells slots) (hx : p.tables.exec = Jvm.exec) {z : Int64} (hret : meth.sig.returnType = some .long) (hlocks : meth.locks = false) (hd : decode c.code pc = .ok (.lreturn, 1)) (hc : cells ≤ kc) (hs : slots ≤ ks)
    (hQ : Qf (some (.long z)) T.heap locs) : Go p e below (Qend s Qf kc ks) T (mkF m pc Ls (.long z :: rest)) :=
  own_end X hx _ (fun h => by rw [hret] at h; cases h) hlocks (fun fs hr => retOut X hx hret rfl (Or.inr (Or.inl ⟨rfl, rfl, _, rfl⟩)) hd hr) hc hs hQ
theorem g_nret {Qf : Option Value → Heap → List Loc → Prop} {kc ks : Nat} (X : Stand p l e R s m args below meth c T locs cells slots) (hx : p.tables.exec = Jvm.exec) {z : Int32} {t : FieldType} (ht : t = .boolean ∨ t = .byte ∨ t = .char ∨ t = .short) (hret : meth.sig.returnType = some t) (hlocks : meth.locks = false) (hd : decode c.code pc = .ok (.ireturn, 1)) (hc : cells ≤ kc) (hs : slots ≤ ks)
    (hQ : Qf (some (.int (nar t z))) T.heap locs) : Go p e below (Qend s Qf kc ks) T (mkF m pc Ls (.int z :: rest)) :=
  own_end X hx _ (fun h => by rw [hret] at h; cases h) hlocks (fun fs hr => retN X hx hret ht hd hr) hc hs hQ
theorem g_aret {Qf : Option Value → Heap → List Loc → Prop} {kc ks : Nat} (X : Stand p l e R s m args below meth c T locs cells slots) (hx : p.tables.exec = Jvm.exec) {w : Value} {t : FieldType} (ht : t.isReference = true) (hw : w.isRef = true) (hn : narrow t w = w) (hret : meth.sig.returnType = some t) (hlocks : meth.locks = false) (hd : decode c.code pc = .ok (.areturn, 1)) (hc : cells ≤ kc) (hs : slots ≤ ks)
    (hQ : Qf (some w) T.heap locs) : Go p e below (Qend s Qf kc ks) T (mkF m pc Ls (w :: rest)) :=
  own_end X hx _ (fun h => by rw [hret] at h; cases h) hlocks (fun fs hr => retOut X hx hret hn (Or.inr (Or.inr (Or.inr (Or.inr ⟨rfl, ht, hw⟩)))) hd hr) hc hs hQ
theorem g_ret0 {Qf : Option Value → Heap → List Loc → Prop} {kc ks : Nat} (X : Stand p l e R s m args below meth c T locs cells slots) (hx : p.tables.exec = Jvm.exec) (hret : meth.sig.returnType = none) (hlocks : meth.locks = false) (hd : decode c.code pc = .ok (.return_, 1)) (hc : cells ≤ kc) (hs : slots ≤ ks)
    (hQ : Qf none T.heap locs) : Go p e below (Qend s Qf kc ks) T (mkF m pc Ls []) :=
  own_end X hx _ (fun _ => rfl) hlocks (fun fs hr => X.returnOut hx hret hd hr) hc hs hQ
/-- from a body's first row -/
theorem own_start {y : MethodName} {bytes : ByteArray} {maxL : Nat} {ret : Option FieldType} {ws : List Jvm.Cond} {rm : Room} {as' : Array Value} {Z : State} {h0 : Heap} {Qf : Option Value → Heap → List Loc → Prop} (hp : plainFor y = true)
    (body : ∀ (p : Program) (e : Env) (s : State) (m : MethodId) (below : List Frame) (meth : Method) (c : Code) (T : State), Stand p l e rm s m as' below meth c T [] 0 0 → p.tables.exec = Jvm.exec → c.code = bytes → c.maxLocals = maxL → s.vm.findClass y.cls = some m.cls →
      meth.name = y.name → meth.sig.returnType = ret → meth.locks = false → Z.Warmed39 s.vm → T.heap = h0 → Go p e below (Qend s Qf rm.cells rm.slots) T (entryFrame m as' maxL)) :
    MetFree l y (head1 (Jvm.Cond.code y bytes maxL ret :: ws) rm) (fun a U => a = as' ∧ Z.Warmed39 U.vm ∧ U.heap = h0) (fun _ _ _ _ _ => True) (fun _ U o U' => ∃ v L, o = .returned v ∧ Qf v U'.heap L ∧ FrameEnd U o U' L rm.cells rm.slots) := by
  refine MetFree.of_bodySF hp hisR ?_
  intro p e s m args below meth c s₁ Bd hml0 hP hK
  obtain ⟨rfl, hZ, hh⟩ := hP
  exact body p e s m below meth c s₁ (Stand.of_body Bd) Bd.exec Bd.bytes hml0 (findClass_of_methodNamed Bd.named) (name_of_methodNamed Bd.named Bd.method).1 Bd.returns Bd.notSynchronized hZ (by rw [← hh, Bd.state]; rfl)
/-- a static call, paid by the callee's own contract -/
theorem g_callS (X : Stand p l e R s m args below meth c T locs cells slots) (hx : p.tables.exec = Jvm.exec) {Z : State} {a0 : Array Value} (hZ : Z.Warmed39 s.vm) {own : String} {index : Nat} {y : MethodName} {bytes : ByteArray} {maxL : Nat} {ret' : Option FieldType} {rm : Room} {Qc : Option Value → Heap → List Loc → Prop} {h : Heap} (pc' : Nat) (argsL : List Value) (rest : List Value) (W : Nat)
    (hown : s.vm.findClass own = some m.cls) (w1 : (Jvm.Cond.methodLink own index y).before a0 Z = true) (w2 : (Jvm.Cond.static y).before a0 Z = true) (w3 : (Jvm.Cond.initialized y.cls).before a0 Z = true) (w4 : (Jvm.Cond.code y bytes maxL ret').before a0 Z = true) (hy : y.cls ≠ "java/lang/invoke/MethodHandle" ∧ y.cls ≠ "java/lang/invoke/VarHandle")
    (eT : T.heap = h)
    (hM : MetFree l y (head1 [Jvm.Cond.code y bytes maxL ret'] rm) (fun a U => a = argsL.toArray ∧ Z.Warmed39 U.vm ∧ U.heap = h) (fun _ _ _ _ _ => True) (fun _ U o U' => ∃ v L, o = .returned v ∧ Qc v U'.heap L ∧ FrameEnd U o U' L rm.cells rm.slots))
    (hf : rm.frames + 1 ≤ R.frames) (hl : W + (maxL + 11) + rm.locals ≤ R.locals) (hcl : cells + rm.cells ≤ R.cells) (hsl : slots + rm.slots ≤ R.slots)
    (hsize : Ls.size = c.maxLocals) {st : List Value} (hstack : st = argsL.reverse ++ rest) {ps : List FieldType} {r : Option FieldType} (hdesc : parseMethodDescriptor y.desc = some ⟨ps, r⟩) (hlen : argsL.length = ps.length) (hW : (rest.map fun v => v.category).sum ≤ W) (hd : decode c.code pc = .ok (.invokestatic index, 3)) (hp : pc + 3 = pc')
    (k : ∀ (v : Option Value) (T' : State) (L : List Loc), Stand p l e R s m args below meth c T' (locs ++ L) (cells + rm.cells) (slots + rm.slots) → Qc v T'.heap L → Go p e below Q T' (mkF m pc' Ls (v.toList ++ rest))) : Go p e below Q T (mkF m pc Ls st) := by
  subst hp hstack
  obtain ⟨v, _, ⟨T', L', k', n'⟩, -, X', ⟨L, hQ, l1, y1, z1⟩, st⟩ := Jvm.LawKit.callS X hx (y := y) hown (mvT hZ w1) (mvT hZ w2) (mvT hZ w3) (mvT hZ w4) hy (backOf (W := W) hM hZ w4 w3 hf hl) (g := mkF m pc Ls (argsL.reverse ++ rest)) rfl hsize (argsL := argsL) (rest := rest) (lenOf hdesc hlen) rfl (by show 2 * 0 + _ ≤ _; omega) hd (fun _ _ => ⟨rfl, eT, hcl, hsl⟩)
  dsimp only [Pt.U, Pt.locs, Pt.cells, Pt.slots] at X' l1 y1 z1 st hQ
  subst l1 y1 z1
  exact Go.step (fun t k => st _ k) (k v T' L X' hQ)
end OwnWalk
section OwnArr
variable {p : Program} {l : Launch} {e : Env} {R : Room} {s : State} {m : MethodId} {args : Array Value} {below : List Frame} {meth : Method} {c : Code} {T : State} {locs : List Loc} {cells slots : Nat} {Q : Outcome → State → Prop} {pc : Nat} {Ls : Array Slot} {rest : List Value} {Z : State} {a0 : Array Value} {h h' : Heap} {a b : Addr} {ty : FieldType} {n : Nat} {f f' : Nat → Value} {ws : List Addr} {sl : Nat} {v : Value}
/-- in heap h the array at a has n places; place i holds f i -/
def AV (Z : State) (h : Heap) (a : Addr) (ty : FieldType) (n : Nat) (f : Nat → Value) : Prop := ∃ c : Cell, Arr Z h a c ty ∧ c.slots.size = n ∧ ∀ i, i < n → c.slots[i]? = some (f i)
theorem AV.lt (F : AV Z h a ty n f) : a < h.size := by obtain ⟨c, A, -⟩ := F; exact A.lt
theorem AV.ext (F : AV Z h a ty n f) (E : Ext h h') : AV Z h' a ty n f := by obtain ⟨c, A, r⟩ := F; exact ⟨c, A.ext E, r⟩
theorem AV.keep (F : AV Z h a ty n f) (K : Keep h h' ws) (q : a ∉ ws) : AV Z h' a ty n f := by obtain ⟨c, A, r⟩ := F; exact ⟨c, ⟨K.2.1 a c A.1 q, A.2⟩, r⟩
theorem AV.other (F : AV Z h b ty n f) (W : Wr h h' a sl v) (q : b ≠ a) : AV Z h' b ty n f := by obtain ⟨c, A, r⟩ := F; exact ⟨c, A.other W q, r⟩
theorem AV.set (F : AV Z h a ty n f) (W : Wr h h' a sl v) : AV Z h' a ty n (fun i => if i = sl then v else f i) := by
  obtain ⟨c, A, S, H⟩ := F
  refine ⟨c.setSlot sl v, A.same W, by rw [sz_set]; exact S, fun i hi => ?_⟩
  by_cases q : i = sl
  · subst q
    simp [Cell.setSlot, S, hi]
  · show (c.slots.setIfInBounds sl v)[i]? = some (if i = sl then v else f i)
    rw [Array.getElem?_setIfInBounds_ne (Ne.symm q), if_neg q]
    exact H i hi
theorem AV.congr (F : AV Z h a ty n f) (q : ∀ i, i < n → f i = f' i) : AV Z h a ty n f' := by obtain ⟨c, A, S, H⟩ := F; exact ⟨c, A, S, fun i hi => by rw [← q i hi]; exact H i hi⟩
theorem own_ix {j : Int32} {i : Nat} (hi : j.toInt = i) : j.toNatClampNeg = i := by show j.toInt.toNat = i; omega
theorem own_nn {j : Int32} {i : Nat} (hi : j.toInt = i) : ¬ j < 0 := by rw [Int32.lt_iff_toInt_lt, hi]; show ¬ (i : Int) < 0; omega
theorem own_in {c : Cell} {j : Int32} {i : Nat} (S : c.slots.size = n) (hi : j.toInt = i) (hin : i < n) : ¬ (j < 0 ∨ c.slots.size ≤ j.toNatClampNeg) := by
  rw [own_ix hi, S]; exact fun q => q.elim (own_nn hi) (fun q => by omega)
theorem g_newarr (X : Stand p l e R s m args below meth c T locs cells slots) (hx : p.tables.exec = Jvm.exec) (hZ : Z.Warmed39 s.vm) {aty : ArrayType} (pc' : Nat) (w : (Jvm.Cond.arrayClass (newarray.typeOf aty)).before a0 Z = true) (eT : T.heap = h) {z : Int32} (hd : decode c.code pc = .ok (.newarray aty, 2)) (nn : Nat) (hn : z.toInt = nn) (cap : Nat) (hcap : nn ≤ cap) (hb8 : cap * 8 ≤ 536870912) (hc : cells + 1 ≤ R.cells) (hl : slots + cap ≤ R.slots) (hp : pc + 2 = pc')
    (k : ∀ (T' : State) (a : Addr), Stand p l e R s m args below meth c T' locs (cells + 1) (slots + cap) → Ext h T'.heap → a = h.size → AV Z T'.heap a (newarray.typeOf aty) nn (fun _ => defaultValue (newarray.typeOf aty)) → Go p e below Q T' (mkF m pc' Ls (.ref a :: rest))) : Go p e below Q T (mkF m pc Ls (.int z :: rest)) := by
  subst hp
  obtain ⟨T', h', cA, X', e', E, A, st⟩ := newP X hx hZ w eT (g := mkF m pc Ls (.int z :: rest)) rfl hd rfl (own_nn hn) (cap := cap) (by rw [own_ix hn]; exact hcap) hb8 hc hl
  subst e'
  refine Go.step (fun t k => st t k) (k T' _ X' E rfl ⟨_, A, by rw [sz_new, own_ix hn], fun i hi => ?_⟩)
  simp [newA, own_ix hn, hi]
theorem g_arrlen (X : Stand p l e R s m args below meth c T locs cells slots) (hx : p.tables.exec = Jvm.exec) (hZ : Z.Warmed39 s.vm) (pc' : Nat) (eT : T.heap = h) (F : AV Z h a ty n f) (z : Int32) (hz : z.toInt = n) (hd : decode c.code pc = .ok (.arraylength, 1)) (hp : pc + 1 = pc')
    (k : Go p e below Q T (mkF m pc' Ls (.int z :: rest))) : Go p e below Q T (mkF m pc Ls (.ref a :: rest)) := by
  subst hp
  obtain ⟨cl, A, S, H⟩ := F
  have q : cl.slots.size.toInt32 = z := len_of (by rw [own_ix hz]; exact S) (own_nn hz)
  rw [← q] at k
  have st := X.arraylength hx (cell := cl) (ty := ty) (by rw [eT]; exact A.1) (State.isArrayOf_alike hZ.alike A.2.1) (g := mkF m pc Ls (.ref a :: rest)) rfl rfl hd
  exact Go.step (fun t k => st t k) k
theorem g_bastore (X : Stand p l e R s m args below meth c T locs cells slots) (hx : p.tables.exec = Jvm.exec) (hZ : Z.Warmed39 s.vm) (pc' : Nat) (eT : T.heap = h) (F : AV Z h a .byte n f) {j : Int32} {x : Int32} (hd : decode c.code pc = .ok (.bastore, 1)) (i : Nat) (hi : j.toInt = i) (hin : i < n) (hp : pc + 1 = pc')
    (k : ∀ (T' : State), Stand p l e R s m args below meth c T' (locs ++ [⟨a, i⟩]) cells slots → Wr h T'.heap a i (.int (nar .byte x)) → AV Z T'.heap a .byte n (fun q => if q = i then .int (nar .byte x) else f q) → Go p e below Q T' (mkF m pc' Ls rest)) : Go p e below Q T (mkF m pc Ls (.int x :: .int j :: .ref a :: rest)) := by
  subst hp
  obtain ⟨cl, A, S, H⟩ := F
  obtain ⟨T', h', X', e', W, st⟩ := stB X hx hZ eT A (own_in S hi hin) (g := mkF m pc Ls (.int x :: .int j :: .ref a :: rest)) rfl rfl hd
  subst e'
  rw [own_ix hi] at X' W
  exact Go.step (fun t k => st t k) (k T' X' W (AV.set ⟨cl, A, S, H⟩ W))
theorem g_iastore (X : Stand p l e R s m args below meth c T locs cells slots) (hx : p.tables.exec = Jvm.exec) (hZ : Z.Warmed39 s.vm) (pc' : Nat) (eT : T.heap = h) (F : AV Z h a .int n f) {j : Int32} {x : Int32} (hd : decode c.code pc = .ok (.iastore, 1)) (i : Nat) (hi : j.toInt = i) (hin : i < n) (hp : pc + 1 = pc')
    (k : ∀ (T' : State), Stand p l e R s m args below meth c T' (locs ++ [⟨a, i⟩]) cells slots → Wr h T'.heap a i (.int x) → AV Z T'.heap a .int n (fun q => if q = i then .int x else f q) → Go p e below Q T' (mkF m pc' Ls rest)) : Go p e below Q T (mkF m pc Ls (.int x :: .int j :: .ref a :: rest)) := by
  subst hp
  obtain ⟨cl, A, S, H⟩ := F
  obtain ⟨T', h', X', e', W, st⟩ := stI X hx hZ eT A (own_in S hi hin) (g := mkF m pc Ls (.int x :: .int j :: .ref a :: rest)) rfl rfl hd
  subst e'
  rw [own_ix hi] at X' W
  exact Go.step (fun t k => st t k) (k T' X' W (AV.set ⟨cl, A, S, H⟩ W))
theorem g_lastore (X : Stand p l e R s m args below meth c T locs cells slots) (hx : p.tables.exec = Jvm.exec) (hZ : Z.Warmed39 s.vm) (pc' : Nat) (eT : T.heap = h) (F : AV Z h a .long n f) {j : Int32} {x : Int64} (hd : decode c.code pc = .ok (.lastore, 1)) (i : Nat) (hi : j.toInt = i) (hin : i < n) (hp : pc + 1 = pc')
    (k : ∀ (T' : State), Stand p l e R s m args below meth c T' (locs ++ [⟨a, i⟩]) cells slots → Wr h T'.heap a i (.long x) → AV Z T'.heap a .long n (fun q => if q = i then .long x else f q) → Go p e below Q T' (mkF m pc' Ls rest)) : Go p e below Q T (mkF m pc Ls (.long x :: .int j :: .ref a :: rest)) := by
  subst hp
  obtain ⟨cl, A, S, H⟩ := F
  obtain ⟨T', h', X', e', W, st⟩ := stJ X hx hZ eT A (own_in S hi hin) (g := mkF m pc Ls (.long x :: .int j :: .ref a :: rest)) rfl rfl hd
  subst e'
  rw [own_ix hi] at X' W
  exact Go.step (fun t k => st t k) (k T' X' W (AV.set ⟨cl, A, S, H⟩ W))
theorem g_baload (X : Stand p l e R s m args below meth c T locs cells slots) (hx : p.tables.exec = Jvm.exec) (hZ : Z.Warmed39 s.vm) (pc' : Nat) (eT : T.heap = h) (F : AV Z h a .byte n f) {j : Int32} (hd : decode c.code pc = .ok (.baload, 1)) (i : Nat) (hi : j.toInt = i) (hin : i < n) (v : Value) (hv : f i = v) (hp : pc + 1 = pc')
    (k : Go p e below Q T (mkF m pc' Ls (v :: rest))) : Go p e below Q T (mkF m pc Ls (.int j :: .ref a :: rest)) := by
  subst hp hv
  obtain ⟨cl, A, S, H⟩ := F
  have st := X.baloadBytes hx (cell := cl) (j := j) (v := f i) (by rw [eT]; exact A.1) (State.isArrayOf_alike hZ.alike A.2.1) A.2.2 (own_in S hi hin) (by rw [own_ix hi]; exact H i hin) (g := mkF m pc Ls (.int j :: .ref a :: rest)) rfl rfl hd
  exact Go.step (fun t k => st t k) k
theorem g_iaload (X : Stand p l e R s m args below meth c T locs cells slots) (hx : p.tables.exec = Jvm.exec) (hZ : Z.Warmed39 s.vm) (pc' : Nat) (eT : T.heap = h) (F : AV Z h a .int n f) {j : Int32} (hd : decode c.code pc = .ok (.iaload, 1)) (i : Nat) (hi : j.toInt = i) (hin : i < n) (v : Value) (hv : f i = v) (hp : pc + 1 = pc')
    (k : Go p e below Q T (mkF m pc' Ls (v :: rest))) : Go p e below Q T (mkF m pc Ls (.int j :: .ref a :: rest)) := by
  subst hp hv
  obtain ⟨cl, A, S, H⟩ := F
  have st := X.iaload hx (cell := cl) (j := j) (v := f i) (by rw [eT]; exact A.1) (State.isArrayOf_alike hZ.alike A.2.1) A.2.2 (own_in S hi hin) (by rw [own_ix hi]; exact H i hin) (g := mkF m pc Ls (.int j :: .ref a :: rest)) rfl rfl hd
  exact Go.step (fun t k => st t k) k
theorem g_laload (X : Stand p l e R s m args below meth c T locs cells slots) (hx : p.tables.exec = Jvm.exec) (hZ : Z.Warmed39 s.vm) (pc' : Nat) (eT : T.heap = h) (F : AV Z h a .long n f) {j : Int32} (hd : decode c.code pc = .ok (.laload, 1)) (i : Nat) (hi : j.toInt = i) (hin : i < n) (v : Value) (hv : f i = v) (hp : pc + 1 = pc')
    (k : Go p e below Q T (mkF m pc' Ls (v :: rest))) : Go p e below Q T (mkF m pc Ls (.int j :: .ref a :: rest)) := by
  subst hp hv
  obtain ⟨cl, A, S, H⟩ := F
  have st := X.laload hx (cell := cl) (j := j) (v := f i) (by rw [eT]; exact A.1) (State.isArrayOf_alike hZ.alike A.2.1) A.2.2 (own_in S hi hin) (by rw [own_ix hi]; exact H i hin) (g := mkF m pc Ls (.int j :: .ref a :: rest)) rfl rfl hd
  exact Go.step (fun t k => st t k) k
end OwnArr
section OwnCopy
variable {p : Program} {l : Launch} {e : Env} {R : Room} {s : State} {m : MethodId} {args : Array Value} {below : List Frame} {meth : Method} {c : Code} {T : State} {locs : List Loc} {cells slots : Nat} {Q : Outcome → State → Prop} {pc : Nat} {Ls : Array Slot} {rest : List Value} {Z : State} {a0 : Array Value} {h h' : Heap} {a b : Addr} {ty : FieldType} {own : String} {index : Nat}
theorem AV.arv {n : Nat} {f : Nat → Value} (F : AV Z h a ty n f) (dv : Value) (hn : n < 2 ^ 31) (hf : ∀ i, i < n → fits ty (f i) = true) : ∃ k, Arv Z h a k ty (Int32.ofNat n) ((List.range n).map f) dv := by
  obtain ⟨cl, A, S, H⟩ := F
  have e : (Int32.ofNat n).toInt = n := Int32.toInt_ofNat_of_lt hn
  have g : ∀ i, i < n → ((List.range n).map f).getD i dv = f i := fun i hi => by simp [List.getD, hi]
  refine ⟨cl.cls, cl, A, rfl, by rw [own_ix e]; exact S, own_nn e, fun i hi => ?_, fun i hi => ?_⟩
  · rw [S] at hi; rw [g i hi]; exact H i hi
  · rw [S] at hi; rw [g i hi]; exact hf i hi
theorem g_copy (X : Stand p l e R s m args below meth c T locs cells slots) (hx : p.tables.exec = Jvm.exec) (hZ : Z.Warmed39 s.vm) (pc' : Nat) (W : Nat) {n n' : Nat} {f f' : Nat → Value} {n0 : Nat} {sp dp nn : Int32} (i j q : Nat) (hown : s.vm.findClass own = some m.cls)
    (w1 : (Jvm.Cond.methodLink own index Jvm.Stand.acN).before a0 Z = true) (w2 : (Jvm.Cond.native Jvm.Stand.acN).before a0 Z = true) (w3 : (Jvm.Cond.static Jvm.Stand.acN).before a0 Z = true) (w4 : (Jvm.Cond.initialized "java/lang/System").before a0 Z = true) (eT : T.heap = h)
    (A : AV Z h a ty n f) (B : AV Z h b ty n' f') (hr : refKind ty = false) (fa : ∀ i, i < n → fits ty (f i) = true) (fb : ∀ i, i < n' → fits ty (f' i) = true) (hn : n < 2 ^ 31) (hn' : n' < 2 ^ 31) (hi : sp.toInt = i) (hj : dp.toInt = j) (hq : nn.toInt = q) (h4 : i + q ≤ n) (h5 : j + q ≤ n') (N : Fr n0 locs) (ge : n0 ≤ b)
    (hsize : Ls.size = c.maxLocals) (hd : decode c.code pc = .ok (.invokestatic index, 3)) (hf : 1 ≤ R.frames) (hW : (rest.map fun v => v.category).sum ≤ W) (hlo : W + (nativeFrameWords "java/lang/System" "arraycopy" 5 + 11) ≤ R.locals) (hp : pc + 3 = pc')
    (k : ∀ (T' : State) (L : List Loc), Stand p l e R s m args below meth c T' L cells slots → Fr n0 L → Keep h T'.heap [b] → AV Z T'.heap b ty n' (fun x => if j ≤ x ∧ x < j + q then f (i + (x - j)) else f' x) → Go p e below Q T' (mkF m pc' Ls rest)) :
    Go p e below Q T (mkF m pc Ls (.int nn :: .int dp :: .ref b :: .int sp :: .ref a :: rest)) := by
  subst hp
  obtain ⟨k1, A'⟩ := A.arv .null hn fa
  obtain ⟨k2, B'⟩ := B.arv .null hn' fb
  have en : (Int32.ofNat n).toInt = n := Int32.toInt_ofNat_of_lt hn
  have en' : (Int32.ofNat n').toInt = n' := Int32.toInt_ofNat_of_lt hn'
  obtain ⟨T', h', L, X', e', N', K, B2, st⟩ := cpA X hx hZ hown w1 w2 w3 w4 eT A' B' (Or.inl ⟨rfl, hr⟩) (own_nn hi) (own_nn hj) (own_nn hq) (by rw [own_ix hi, own_ix hq, own_ix en]; exact h4) (by rw [own_ix hj, own_ix hq, own_ix en']; exact h5) rfl (by rw [own_ix hj, own_ix hq]; simpa using h5) N ge (g := mkF m pc Ls (.int nn :: .int dp :: .ref b :: .int sp :: .ref a :: rest)) rfl hsize rfl hd hf (W := W) (by show 2 * 0 + _ ≤ _; omega) hlo
  subst e'
  refine Go.step (fun t k => st t k) (k T' L X' N' K ?_)
  obtain ⟨cl, Ac, -, S, -, H, -⟩ := B2
  rw [own_ix en'] at S
  refine ⟨cl, Ac, S, fun x hx => ?_⟩
  have hx' : x < cl.slots.size := by rw [S]; exact hx
  rw [H x hx', own_ix hj, own_ix hq, own_ix hi]
  congr 1
  simp only [List.getD_eq_getElem?_getD, List.getElem?_append, List.length_append, List.length_take, List.length_map, List.length_range, List.getElem?_take, List.getElem?_drop, List.getElem?_map]
  have m1 : min j n' = j := by omega
  rw [m1]
  by_cases c1 : x < j
  · have d1 : x < j + q := by omega
    rw [if_neg (show ¬ (j ≤ x ∧ x < j + q) by omega)]
    simp [c1, d1, hx]
  · by_cases c2 : x < j + q
    · have e1 : i + (x - j) < n := by omega
      have e2 : x - j < q := by omega
      rw [if_pos (show j ≤ x ∧ x < j + q by omega)]
      simp [c1, c2, e1, e2]
    · have e1 : j + q + (x - (j + q)) = x := by omega
      rw [if_neg (show ¬ (j ≤ x ∧ x < j + q) by omega)]
      simp [c2, e1, hx]
end OwnCopy
section OwnObj
variable {p : Program} {l : Launch} {e : Env} {R : Room} {s : State} {m : MethodId} {args : Array Value} {below : List Frame} {meth : Method} {c : Code} {T : State} {locs : List Loc} {cells slots : Nat} {Q : Outcome → State → Prop} {pc : Nat} {Ls : Array Slot} {rest : List Value} {Z : State} {a0 : Array Value} {h h' : Heap} {a : Addr} {v : Value} {own C O fn fd : String} {index kk : Nat}
theorem g_new (X : Stand p l e R s m args below meth c T locs cells slots) (hx : p.tables.exec = Jvm.exec) (hZ : Z.Warmed39 s.vm) (pc' : Nat) (hown : s.vm.findClass own = some m.cls) (w : (Jvm.Cond.classLink own index C).before a0 Z = true) (wi : (Jvm.Cond.instantiable C kk).before a0 Z = true) (wz : (Jvm.Cond.initialized C).before a0 Z = true) (eT : T.heap = h) (hd : decode c.code pc = .ok (.new index, 3)) (hc : cells + 1 ≤ R.cells) (hl : slots + kk ≤ R.slots) (hp : pc + 3 = pc')
    (k : ∀ (T' : State) (a : Addr), Stand p l e R s m args below meth c T' locs (cells + 1) (slots + kk) → Ext h T'.heap → a = h.size → Exa Z T'.heap a C → (∀ {O nm d : String} {ty : FieldType}, Laid Z a0 C O nm d → parseFieldDescriptor d = some ty → Fld Z T'.heap a O nm d (defaultValue ty)) → Go p e below Q T' (mkF m pc' Ls (.ref a :: rest))) : Go p e below Q T (mkF m pc Ls rest) := by
  subst hp
  obtain ⟨T', h', X', e', E, A, D, -, st⟩ := newO X hx hZ hown w wi wz eT (g := mkF m pc Ls rest) rfl hd hc hl
  subst e'
  exact Go.step (fun t k => st t k) (k T' _ X' E rfl A D)
theorem g_initO (X : Stand p l e R s m args below meth c T locs cells slots) (hx : p.tables.exec = Jvm.exec) (hZ : Z.Warmed39 s.vm) (pc' : Nat) (W : Nat) (hown : s.vm.findClass own = some m.cls) (w1 : (Jvm.Cond.methodLink own index Lib.objectInit).before a0 Z = true) (w2 : (Jvm.Cond.instanceMethod Lib.objectInit).before a0 Z = true) (w3 : (Jvm.Cond.code Lib.objectInit ⟨#[0xb1]⟩ 1 none).before a0 Z = true) (eT : T.heap = h) (hsize : Ls.size = c.maxLocals) (hd : decode c.code pc = .ok (.invokespecial index, 3)) (hf : 1 ≤ R.frames) (hW : (rest.map fun v => v.category).sum ≤ W) (hl : W + 12 ≤ R.locals) (hp : pc + 3 = pc')
    (k : ∀ (T' : State), Stand p l e R s m args below meth c T' locs cells slots → T'.heap = h → Go p e below Q T' (mkF m pc' Ls rest)) : Go p e below Q T (mkF m pc Ls (.ref a :: rest)) := by
  subst hp
  obtain ⟨T', X', e', st⟩ := initO X hx hZ hown w1 w2 w3 eT (g := mkF m pc Ls (.ref a :: rest)) rfl hsize rfl hd hf (W := W) (by show 2 * 0 + _ ≤ _; omega) hl
  exact Go.step (fun t k => st t k) (k T' X' e')
theorem g_putF (X : Stand p l e R s m args below meth c T locs cells slots) (hx : p.tables.exec = Jvm.exec) (hZ : Z.Warmed39 s.vm) (pc' : Nat) {ty : FieldType} {old : Value} (hown : s.vm.findClass own = some m.cls) (w : (Jvm.Cond.fieldLink own index O fn fd).before a0 Z = true) (eT : T.heap = h) (F : Fld Z h a O fn fd old) (E : Exa Z h a C) (L : (Jvm.Cond.lays C O fn fd).before a0 Z = true ∨ ((Jvm.Cond.laysFinal C O fn fd).before a0 Z = true ∧ own = O ∧ meth.name = "<init>")) (wi : (Jvm.Cond.instantiable C kk).before a0 Z = true)
    (hty : parseFieldDescriptor fd = some ty) (hn : narrow ty v = v) (hf : fits ty v = true) (hd : decode c.code pc = .ok (.putfield index, 3)) (hp : pc + 3 = pc')
    (k : ∀ (T' : State), Stand p l e R s m args below meth c T' (locs ++ [⟨a, Jvm.RoadKit.slotOf Z O fn fd⟩]) cells slots → Wr h T'.heap a (Jvm.RoadKit.slotOf Z O fn fd) v → Go p e below Q T' (mkF m pc' Ls rest)) : Go p e below Q T (mkF m pc Ls (v :: .ref a :: rest)) := by
  subst hp
  obtain ⟨T', h', X', e', W, st⟩ := putF X hx hZ hown (host := "") (Or.inl w) Via.refl eT F E L wi hty hn hf (g := mkF m pc Ls (v :: .ref a :: rest)) rfl rfl hd
  subst e'
  exact Go.step (fun t k => st t k) (k T' X' W)
theorem g_getF (X : Stand p l e R s m args below meth c T locs cells slots) (hx : p.tables.exec = Jvm.exec) (hZ : Z.Warmed39 s.vm) (pc' : Nat) (hown : s.vm.findClass own = some m.cls) (w : (Jvm.Cond.fieldLink own index O fn fd).before a0 Z = true) (eT : T.heap = h) (F : Fld Z h a O fn fd v) (hd : decode c.code pc = .ok (.getfield index, 3)) (hp : pc + 3 = pc')
    (k : ∀ (T' : State), Stand p l e R s m args below meth c T' locs cells slots → T'.heap = h → Go p e below Q T' (mkF m pc' Ls (v :: rest))) : Go p e below Q T (mkF m pc Ls (.ref a :: rest)) := by
  subst hp
  obtain ⟨T', X', e', st⟩ := getF X hx hZ hown (host := "") (Or.inl w) Via.refl eT F (g := mkF m pc Ls (.ref a :: rest)) rfl rfl hd
  exact Go.step (fun t k => st t k) (k T' X' e')
/-- a constructor, paid by its contract -/
theorem g_special (X : Stand p l e R s m args below meth c T locs cells slots) (hx : p.tables.exec = Jvm.exec) (hZ : Z.Warmed39 s.vm) {y : MethodName} {bytes : ByteArray} {maxL : Nat} {rm : Room} {Qc : Option Value → Heap → List Loc → Prop} (pc' : Nat) (a : Addr) (argsL : List Value) (rest : List Value) (W : Nat) (hy1 : y.name = "<init>")
    (hown : s.vm.findClass own = some m.cls) (w1 : (Jvm.Cond.methodLink own index y).before a0 Z = true) (w2 : (Jvm.Cond.instanceMethod y).before a0 Z = true) (w3 : (Jvm.Cond.initialized y.cls).before a0 Z = true) (w4 : (Jvm.Cond.code y bytes maxL none).before a0 Z = true) (hy : y.cls ≠ "java/lang/invoke/MethodHandle" ∧ y.cls ≠ "java/lang/invoke/VarHandle")
    (eT : T.heap = h)
    (hM : MetFree l y (head1 [Jvm.Cond.code y bytes maxL none] rm) (fun a' U => a' = (Value.ref a :: argsL).toArray ∧ Z.Warmed39 U.vm ∧ U.heap = h) (fun _ _ _ _ _ => True) (fun _ U o U' => ∃ v L, o = .returned v ∧ Qc v U'.heap L ∧ FrameEnd U o U' L rm.cells rm.slots))
    (hf : rm.frames + 1 ≤ R.frames) (hl : W + (maxL + 11) + rm.locals ≤ R.locals) (hcl : cells + rm.cells ≤ R.cells) (hsl : slots + rm.slots ≤ R.slots)
    (hsize : Ls.size = c.maxLocals) {st : List Value} (hstack : st = argsL.reverse ++ .ref a :: rest) {ps : List FieldType} {r : Option FieldType} (hdesc : parseMethodDescriptor y.desc = some ⟨ps, r⟩) (hlen : argsL.length = ps.length) (hW : (rest.map fun v => v.category).sum ≤ W) (hd : decode c.code pc = .ok (.invokespecial index, 3)) (hp : pc + 3 = pc')
    (k : ∀ (v : Option Value) (T' : State) (L : List Loc), Stand p l e R s m args below meth c T' (locs ++ L) (cells + rm.cells) (slots + rm.slots) → Qc v T'.heap L → Go p e below Q T' (mkF m pc' Ls (v.toList ++ rest))) : Go p e below Q T (mkF m pc Ls st) := by
  subst hp hstack
  obtain ⟨v, _, ⟨T', L', k', n'⟩, -, X', ⟨L, hQ, l1, y1, z1⟩, st⟩ := X.specialBack hx (y := y) hy1 hown (mvT hZ w1) (mvT hZ w2) (mvT hZ w4) hy (backOf (W := W) hM hZ w4 w3 hf hl) (g := mkF m pc Ls (argsL.reverse ++ .ref a :: rest)) rfl hsize (Steps.refl _) (a := a) (argsL := argsL) (rest := rest) (lenOf hdesc hlen) rfl (by show 2 * 0 + _ ≤ _; omega) hd (fun _ _ => ⟨rfl, eT, hcl, hsl⟩)
  dsimp only [Pt.U, Pt.locs, Pt.cells, Pt.slots] at X' l1 y1 z1 st hQ
  subst l1 y1 z1
  exact Go.step (fun t k => st.trans k) (k v T' L X' hQ)
/-- an instance method, paid by its contract -/
theorem g_virtual (X : Stand p l e R s m args below meth c T locs cells slots) (hx : p.tables.exec = Jvm.exec) (hZ : Z.Warmed39 s.vm) {y : MethodName} {bytes : ByteArray} {maxL : Nat} {ret' : Option FieldType} {rm : Room} {Qc : Option Value → Heap → List Loc → Prop} (pc' : Nat) (a : Addr) (argsL : List Value) (rest : List Value) (W : Nat) (E : Exa Z h a C)
    (hown : s.vm.findClass own = some m.cls) (w1 : (Jvm.Cond.methodLink own index y).before a0 Z = true) (w2 : (Jvm.Cond.declares y).before a0 Z = true) (w5 : (Jvm.Cond.selects C y y).before a0 Z = true) (w6 : (Jvm.Cond.instanceMethod y).before a0 Z = true) (w3 : (Jvm.Cond.initialized y.cls).before a0 Z = true) (w4 : (Jvm.Cond.code y bytes maxL ret').before a0 Z = true) (hy : y.cls ≠ "java/lang/invoke/MethodHandle" ∧ y.cls ≠ "java/lang/invoke/VarHandle")
    (eT : T.heap = h)
    (hM : MetFree l y (head1 [Jvm.Cond.code y bytes maxL ret'] rm) (fun a' U => a' = (Value.ref a :: argsL).toArray ∧ Z.Warmed39 U.vm ∧ U.heap = h) (fun _ _ _ _ _ => True) (fun _ U o U' => ∃ v L, o = .returned v ∧ Qc v U'.heap L ∧ FrameEnd U o U' L rm.cells rm.slots))
    (hf : rm.frames + 1 ≤ R.frames) (hl : W + (maxL + 11) + rm.locals ≤ R.locals) (hcl : cells + rm.cells ≤ R.cells) (hsl : slots + rm.slots ≤ R.slots)
    (hsize : Ls.size = c.maxLocals) {st : List Value} (hstack : st = argsL.reverse ++ .ref a :: rest) {ps : List FieldType} {r : Option FieldType} (hdesc : parseMethodDescriptor y.desc = some ⟨ps, r⟩) (hlen : argsL.length = ps.length) (hW : (rest.map fun v => v.category).sum ≤ W) (hd : decode c.code pc = .ok (.invokevirtual index, 3)) (hp : pc + 3 = pc')
    (k : ∀ (v : Option Value) (T' : State) (L : List Loc), Stand p l e R s m args below meth c T' (locs ++ L) (cells + rm.cells) (slots + rm.slots) → Qc v T'.heap L → Go p e below Q T' (mkF m pc' Ls (v.toList ++ rest))) : Go p e below Q T (mkF m pc Ls st) := by
  subst hp hstack
  obtain ⟨cB, kB, q1, q2, q3⟩ := isOf (T := T) hZ eT E
  obtain ⟨v, _, ⟨T', L', k', n'⟩, -, X', ⟨L, hQ, l1, y1, z1⟩, st⟩ := X.virtualBack hx (y := y) (z := y) hown (mvT hZ w1) (mvT hZ w2) (notFace_of_selects (args := #[]) (mvT hZ w5)) (mvT hZ w5) (mvT hZ w6) hy (backOf (W := W) hM hZ w4 w3 hf hl) q1 q3 (g := mkF m pc Ls (argsL.reverse ++ .ref a :: rest)) rfl hsize (Steps.refl _) (argsL := argsL) (rest := rest) (lenOf hdesc hlen) rfl (by show 2 * 0 + _ ≤ _; omega) hd (fun _ _ => ⟨rfl, eT, hcl, hsl⟩)
  dsimp only [Pt.U, Pt.locs, Pt.cells, Pt.slots] at X' l1 y1 z1 st hQ
  subst l1 y1 z1
  exact Go.step (fun t k => st.trans k) (k v T' L X' hQ)
/-- a private instance method, paid by its contract -/
theorem g_private (X : Stand p l e R s m args below meth c T locs cells slots) (hx : p.tables.exec = Jvm.exec) (hZ : Z.Warmed39 s.vm) {y z : MethodName} {C' : String} {bytes : ByteArray} {maxL : Nat} {ret' : Option FieldType} {rm : Room} {Qc : Option Value → Heap → List Loc → Prop} (pc' : Nat) (a : Addr) (argsL : List Value) (rest : List Value) (W : Nat) (E : Exa Z h a C)
    (hown : s.vm.findClass own = some m.cls) (w1 : (Jvm.Cond.methodLink own index y).before a0 Z = true) (wp : (Jvm.Cond.privateMethod y).before a0 Z = true) (w5 : (Jvm.Cond.selects C' z z).before a0 Z = true) (hzy : z.cls = y.cls) (w6 : (Jvm.Cond.instanceMethod y).before a0 Z = true) (w3 : (Jvm.Cond.initialized y.cls).before a0 Z = true) (w4 : (Jvm.Cond.code y bytes maxL ret').before a0 Z = true) (hy : y.cls ≠ "java/lang/invoke/MethodHandle" ∧ y.cls ≠ "java/lang/invoke/VarHandle")
    (eT : T.heap = h)
    (hM : MetFree l y (head1 [Jvm.Cond.code y bytes maxL ret'] rm) (fun a' U => a' = (Value.ref a :: argsL).toArray ∧ Z.Warmed39 U.vm ∧ U.heap = h) (fun _ _ _ _ _ => True) (fun _ U o U' => ∃ v L, o = .returned v ∧ Qc v U'.heap L ∧ FrameEnd U o U' L rm.cells rm.slots))
    (hf : rm.frames + 1 ≤ R.frames) (hl : W + (maxL + 11) + rm.locals ≤ R.locals) (hcl : cells + rm.cells ≤ R.cells) (hsl : slots + rm.slots ≤ R.slots)
    (hsize : Ls.size = c.maxLocals) {st : List Value} (hstack : st = argsL.reverse ++ .ref a :: rest) {ps : List FieldType} {r : Option FieldType} (hdesc : parseMethodDescriptor y.desc = some ⟨ps, r⟩) (hlen : argsL.length = ps.length) (hW : (rest.map fun v => v.category).sum ≤ W) (hd : decode c.code pc = .ok (.invokevirtual index, 3)) (hp : pc + 3 = pc')
    (k : ∀ (v : Option Value) (T' : State) (L : List Loc), Stand p l e R s m args below meth c T' (locs ++ L) (cells + rm.cells) (slots + rm.slots) → Qc v T'.heap L → Go p e below Q T' (mkF m pc' Ls (v.toList ++ rest))) : Go p e below Q T (mkF m pc Ls st) := by
  subst hp hstack
  have w5' : (Jvm.Cond.selects C' z z).before args s = true := mvT hZ w5
  obtain ⟨c2, r2, m2, q1, q2, q3, q4, kP, hkP, hkPi⟩ := Cond.selects_spec w5'
  have hc := findClass_of_methodNamed q3
  rw [hzy] at hc
  have hpriv := Cond.privateMethod_at (mvP hZ wp (args := #[]))
  have hsel := selects_self_of_private (args := args) hc hkP hkPi hpriv (mvT hZ w6) hy
  obtain ⟨cell, hcell, hobj⟩ := E.cell
  obtain ⟨v, _, ⟨T', L', k', n'⟩, -, X', ⟨L, hQ, l1, y1, z1⟩, st⟩ := X.privateBack hx (y := y) hown (mvT hZ w1) (mvT hZ w6) hsel hpriv (mvT hZ w4) hy (backOf (W := W) hM hZ w4 w3 hf hl) (g := mkF m pc Ls (argsL.reverse ++ .ref a :: rest)) rfl hsize (Steps.refl _) (a := a) (by rw [eT]; exact hcell) hobj (argsL := argsL) (rest := rest) (lenOf hdesc hlen) rfl (by show 2 * 0 + _ ≤ _; omega) hd (fun _ _ => ⟨rfl, eT, hcl, hsl⟩)
  dsimp only [Pt.U, Pt.locs, Pt.cells, Pt.slots] at X' l1 y1 z1 st hQ
  subst l1 y1 z1
  exact Go.step (fun t k => st.trans k) (k v T' L X' hQ)
end OwnObj

theorem d1_0 : decode method_3_code 0 = .ok (.iconst 4, 1) := by decide +kernel
theorem d1_1 : decode method_3_code 1 = .ok (.newarray .byte, 2) := by decide +kernel
theorem d1_3 : decode method_3_code 3 = .ok (.dup, 1) := by decide +kernel
theorem d1_4 : decode method_3_code 4 = .ok (.iconst 0, 1) := by decide +kernel
theorem d1_5 : decode method_3_code 5 = .ok (.iload_n 0, 1) := by decide +kernel
theorem d1_6 : decode method_3_code 6 = .ok (.i2b, 1) := by decide +kernel
theorem d1_7 : decode method_3_code 7 = .ok (.bastore, 1) := by decide +kernel
theorem d1_8 : decode method_3_code 8 = .ok (.dup, 1) := by decide +kernel
theorem d1_9 : decode method_3_code 9 = .ok (.iconst 1, 1) := by decide +kernel
theorem d1_10 : decode method_3_code 10 = .ok (.iload_n 0, 1) := by decide +kernel
theorem d1_11 : decode method_3_code 11 = .ok (.bipush 8, 2) := by decide +kernel
theorem d1_13 : decode method_3_code 13 = .ok (.iushr, 1) := by decide +kernel
theorem d1_14 : decode method_3_code 14 = .ok (.i2b, 1) := by decide +kernel
theorem d1_15 : decode method_3_code 15 = .ok (.bastore, 1) := by decide +kernel
theorem d1_16 : decode method_3_code 16 = .ok (.dup, 1) := by decide +kernel
theorem d1_17 : decode method_3_code 17 = .ok (.iconst 2, 1) := by decide +kernel
theorem d1_18 : decode method_3_code 18 = .ok (.iload_n 0, 1) := by decide +kernel
theorem d1_19 : decode method_3_code 19 = .ok (.bipush 16, 2) := by decide +kernel
theorem d1_21 : decode method_3_code 21 = .ok (.iushr, 1) := by decide +kernel
theorem d1_22 : decode method_3_code 22 = .ok (.i2b, 1) := by decide +kernel
theorem d1_23 : decode method_3_code 23 = .ok (.bastore, 1) := by decide +kernel
theorem d1_24 : decode method_3_code 24 = .ok (.dup, 1) := by decide +kernel
theorem d1_25 : decode method_3_code 25 = .ok (.iconst 3, 1) := by decide +kernel
theorem d1_26 : decode method_3_code 26 = .ok (.iload_n 0, 1) := by decide +kernel
theorem d1_27 : decode method_3_code 27 = .ok (.bipush 24, 2) := by decide +kernel
theorem d1_29 : decode method_3_code 29 = .ok (.iushr, 1) := by decide +kernel
theorem d1_30 : decode method_3_code 30 = .ok (.i2b, 1) := by decide +kernel
theorem d1_31 : decode method_3_code 31 = .ok (.bastore, 1) := by decide +kernel
theorem d1_32 : decode method_3_code 32 = .ok (.areturn, 1) := by decide +kernel
theorem d2_0 : decode prog_31_method_1_code 0 = .ok (.aload_n 0, 1) := by decide +kernel
theorem d2_1 : decode prog_31_method_1_code 1 = .ok (.invokespecial 3, 3) := by decide +kernel
theorem d2_4 : decode prog_31_method_1_code 4 = .ok (.aload_n 0, 1) := by decide +kernel
theorem d2_5 : decode prog_31_method_1_code 5 = .ok (.sipush 256, 3) := by decide +kernel
theorem d2_8 : decode prog_31_method_1_code 8 = .ok (.newarray .byte, 2) := by decide +kernel
theorem d2_10 : decode prog_31_method_1_code 10 = .ok (.putfield 11, 3) := by decide +kernel
theorem d2_13 : decode prog_31_method_1_code 13 = .ok (.return_, 1) := by decide +kernel
theorem d4_0 : decode prog_31_method_2_code 0 = .ok (.iload_n 2, 1) := by decide +kernel
theorem d4_1 : decode prog_31_method_2_code 1 = .ok (.iload_n 3, 1) := by decide +kernel
theorem d4_2 : decode prog_31_method_2_code 2 = .ok (.aload_n 1, 1) := by decide +kernel
theorem d4_3 : decode prog_31_method_2_code 3 = .ok (.arraylength, 1) := by decide +kernel
theorem d4_4 : decode prog_31_method_2_code 4 = .ok (.invokestatic 15, 3) := by decide +kernel
theorem d4_7 : decode prog_31_method_2_code 7 = .ok (.pop, 1) := by decide +kernel
theorem d4_8 : decode prog_31_method_2_code 8 = .ok (.aload_n 0, 1) := by decide +kernel
theorem d4_9 : decode prog_31_method_2_code 9 = .ok (.getfield 21, 3) := by decide +kernel
theorem d4_12 : decode prog_31_method_2_code 12 = .ok (.ifCond .eq 13, 3) := by decide +kernel
theorem d4_25 : decode prog_31_method_2_code 25 = .ok (.iload_n 3, 1) := by decide +kernel
theorem d4_26 : decode prog_31_method_2_code 26 = .ok (.aload_n 0, 1) := by decide +kernel
theorem d4_27 : decode prog_31_method_2_code 27 = .ok (.getfield 11, 3) := by decide +kernel
theorem d4_30 : decode prog_31_method_2_code 30 = .ok (.arraylength, 1) := by decide +kernel
theorem d4_31 : decode prog_31_method_2_code 31 = .ok (.aload_n 0, 1) := by decide +kernel
theorem d4_32 : decode prog_31_method_2_code 32 = .ok (.getfield 32, 3) := by decide +kernel
theorem d4_35 : decode prog_31_method_2_code 35 = .ok (.isub, 1) := by decide +kernel
theorem d4_36 : decode prog_31_method_2_code 36 = .ok (.if_icmp .le 8, 3) := by decide +kernel
theorem d4_39 : decode prog_31_method_2_code 39 = .ok (.aload_n 0, 1) := by decide +kernel
theorem d4_40 : decode prog_31_method_2_code 40 = .ok (.iload_n 3, 1) := by decide +kernel
theorem d4_41 : decode prog_31_method_2_code 41 = .ok (.invokevirtual 36, 3) := by decide +kernel
theorem d4_44 : decode prog_31_method_2_code 44 = .ok (.aload_n 1, 1) := by decide +kernel
theorem d4_45 : decode prog_31_method_2_code 45 = .ok (.iload_n 2, 1) := by decide +kernel
theorem d4_46 : decode prog_31_method_2_code 46 = .ok (.aload_n 0, 1) := by decide +kernel
theorem d4_47 : decode prog_31_method_2_code 47 = .ok (.getfield 11, 3) := by decide +kernel
theorem d4_50 : decode prog_31_method_2_code 50 = .ok (.aload_n 0, 1) := by decide +kernel
theorem d4_51 : decode prog_31_method_2_code 51 = .ok (.getfield 32, 3) := by decide +kernel
theorem d4_54 : decode prog_31_method_2_code 54 = .ok (.iload_n 3, 1) := by decide +kernel
theorem d4_55 : decode prog_31_method_2_code 55 = .ok (.invokestatic 40, 3) := by decide +kernel
theorem d4_58 : decode prog_31_method_2_code 58 = .ok (.aload_n 0, 1) := by decide +kernel
theorem d4_59 : decode prog_31_method_2_code 59 = .ok (.dup, 1) := by decide +kernel
theorem d4_60 : decode prog_31_method_2_code 60 = .ok (.getfield 32, 3) := by decide +kernel
theorem d4_63 : decode prog_31_method_2_code 63 = .ok (.iload_n 3, 1) := by decide +kernel
theorem d4_64 : decode prog_31_method_2_code 64 = .ok (.iadd, 1) := by decide +kernel
theorem d4_65 : decode prog_31_method_2_code 65 = .ok (.putfield 32, 3) := by decide +kernel
theorem d4_68 : decode prog_31_method_2_code 68 = .ok (.return_, 1) := by decide +kernel
theorem d5_0 : decode jdk_31_method_19_code 0 = .ok (.iload_n 0, 1) := by decide +kernel
theorem d5_1 : decode jdk_31_method_19_code 1 = .ok (.iload_n 1, 1) := by decide +kernel
theorem d5_2 : decode jdk_31_method_19_code 2 = .ok (.iload_n 2, 1) := by decide +kernel
theorem d5_3 : decode jdk_31_method_19_code 3 = .ok (.aconst_null, 1) := by decide +kernel
theorem d5_4 : decode jdk_31_method_19_code 4 = .ok (.invokestatic 115, 3) := by decide +kernel
theorem d5_7 : decode jdk_31_method_19_code 7 = .ok (.ireturn, 1) := by decide +kernel
theorem d6_0 : decode jdk_41_method_13_code 0 = .ok (.iload_n 2, 1) := by decide +kernel
theorem d6_1 : decode jdk_41_method_13_code 1 = .ok (.iload_n 0, 1) := by decide +kernel
theorem d6_2 : decode jdk_41_method_13_code 2 = .ok (.ior, 1) := by decide +kernel
theorem d6_3 : decode jdk_41_method_13_code 3 = .ok (.iload_n 1, 1) := by decide +kernel
theorem d6_4 : decode jdk_41_method_13_code 4 = .ok (.ior, 1) := by decide +kernel
theorem d6_5 : decode jdk_41_method_13_code 5 = .ok (.ifCond .lt 10, 3) := by decide +kernel
theorem d6_8 : decode jdk_41_method_13_code 8 = .ok (.iload_n 1, 1) := by decide +kernel
theorem d6_9 : decode jdk_41_method_13_code 9 = .ok (.iload_n 2, 1) := by decide +kernel
theorem d6_10 : decode jdk_41_method_13_code 10 = .ok (.iload_n 0, 1) := by decide +kernel
theorem d6_11 : decode jdk_41_method_13_code 11 = .ok (.isub, 1) := by decide +kernel
theorem d6_12 : decode jdk_41_method_13_code 12 = .ok (.if_icmp .le 11, 3) := by decide +kernel
theorem d6_23 : decode jdk_41_method_13_code 23 = .ok (.iload_n 0, 1) := by decide +kernel
theorem d6_24 : decode jdk_41_method_13_code 24 = .ok (.ireturn, 1) := by decide +kernel
theorem d7_0 : decode prog_31_method_3_code 0 = .ok (.iload_n 1, 1) := by decide +kernel
theorem d7_1 : decode prog_31_method_3_code 1 = .ok (.ldc 46, 2) := by decide +kernel
theorem d7_3 : decode prog_31_method_3_code 3 = .ok (.aload_n 0, 1) := by decide +kernel
theorem d7_4 : decode prog_31_method_3_code 4 = .ok (.getfield 32, 3) := by decide +kernel
theorem d7_7 : decode prog_31_method_3_code 7 = .ok (.isub, 1) := by decide +kernel
theorem d7_8 : decode prog_31_method_3_code 8 = .ok (.if_icmp .le 21, 3) := by decide +kernel
theorem d7_29 : decode prog_31_method_3_code 29 = .ok (.aload_n 0, 1) := by decide +kernel
theorem d7_30 : decode prog_31_method_3_code 30 = .ok (.getfield 32, 3) := by decide +kernel
theorem d7_33 : decode prog_31_method_3_code 33 = .ok (.iload_n 1, 1) := by decide +kernel
theorem d7_34 : decode prog_31_method_3_code 34 = .ok (.iadd, 1) := by decide +kernel
theorem d7_35 : decode prog_31_method_3_code 35 = .ok (.istore_n 2, 1) := by decide +kernel
theorem d7_36 : decode prog_31_method_3_code 36 = .ok (.aload_n 0, 1) := by decide +kernel
theorem d7_37 : decode prog_31_method_3_code 37 = .ok (.getfield 11, 3) := by decide +kernel
theorem d7_40 : decode prog_31_method_3_code 40 = .ok (.arraylength, 1) := by decide +kernel
theorem d7_41 : decode prog_31_method_3_code 41 = .ok (.ldc 51, 2) := by decide +kernel
theorem d7_43 : decode prog_31_method_3_code 43 = .ok (.if_icmp .le 8, 3) := by decide +kernel
theorem d7_51 : decode prog_31_method_3_code 51 = .ok (.aload_n 0, 1) := by decide +kernel
theorem d7_52 : decode prog_31_method_3_code 52 = .ok (.getfield 11, 3) := by decide +kernel
theorem d7_55 : decode prog_31_method_3_code 55 = .ok (.arraylength, 1) := by decide +kernel
theorem d7_56 : decode prog_31_method_3_code 56 = .ok (.iconst 2, 1) := by decide +kernel
theorem d7_57 : decode prog_31_method_3_code 57 = .ok (.imul, 1) := by decide +kernel
theorem d7_58 : decode prog_31_method_3_code 58 = .ok (.istore_n 3, 1) := by decide +kernel
theorem d7_59 : decode prog_31_method_3_code 59 = .ok (.aload_n 0, 1) := by decide +kernel
theorem d7_60 : decode prog_31_method_3_code 60 = .ok (.aload_n 0, 1) := by decide +kernel
theorem d7_61 : decode prog_31_method_3_code 61 = .ok (.getfield 11, 3) := by decide +kernel
theorem d7_64 : decode prog_31_method_3_code 64 = .ok (.iload_n 2, 1) := by decide +kernel
theorem d7_65 : decode prog_31_method_3_code 65 = .ok (.iload_n 3, 1) := by decide +kernel
theorem d7_66 : decode prog_31_method_3_code 66 = .ok (.invokestatic 52, 3) := by decide +kernel
theorem d7_69 : decode prog_31_method_3_code 69 = .ok (.invokestatic 58, 3) := by decide +kernel
theorem d7_72 : decode prog_31_method_3_code 72 = .ok (.putfield 11, 3) := by decide +kernel
theorem d7_75 : decode prog_31_method_3_code 75 = .ok (.return_, 1) := by decide +kernel
theorem d8_0 : decode jdk_29_method_65_code 0 = .ok (.iload_n 0, 1) := by decide +kernel
theorem d8_1 : decode jdk_29_method_65_code 1 = .ok (.iload_n 1, 1) := by decide +kernel
theorem d8_2 : decode jdk_29_method_65_code 2 = .ok (.if_icmp .lt 7, 3) := by decide +kernel
theorem d8_5 : decode jdk_29_method_65_code 5 = .ok (.iload_n 0, 1) := by decide +kernel
theorem d8_6 : decode jdk_29_method_65_code 6 = .ok (.goto 4, 3) := by decide +kernel
theorem d8_9 : decode jdk_29_method_65_code 9 = .ok (.iload_n 1, 1) := by decide +kernel
theorem d8_10 : decode jdk_29_method_65_code 10 = .ok (.ireturn, 1) := by decide +kernel
theorem d9_0 : decode jdk_65_method_121_code 0 = .ok (.iload_n 1, 1) := by decide +kernel
theorem d9_1 : decode jdk_65_method_121_code 1 = .ok (.aload_n 0, 1) := by decide +kernel
theorem d9_2 : decode jdk_65_method_121_code 2 = .ok (.arraylength, 1) := by decide +kernel
theorem d9_3 : decode jdk_65_method_121_code 3 = .ok (.if_icmp .ne 11, 3) := by decide +kernel
theorem d9_14 : decode jdk_65_method_121_code 14 = .ok (.iload_n 1, 1) := by decide +kernel
theorem d9_15 : decode jdk_65_method_121_code 15 = .ok (.newarray .byte, 2) := by decide +kernel
theorem d9_17 : decode jdk_65_method_121_code 17 = .ok (.astore_n 2, 1) := by decide +kernel
theorem d9_18 : decode jdk_65_method_121_code 18 = .ok (.aload_n 0, 1) := by decide +kernel
theorem d9_19 : decode jdk_65_method_121_code 19 = .ok (.iconst 0, 1) := by decide +kernel
theorem d9_20 : decode jdk_65_method_121_code 20 = .ok (.aload_n 2, 1) := by decide +kernel
theorem d9_21 : decode jdk_65_method_121_code 21 = .ok (.iconst 0, 1) := by decide +kernel
theorem d9_22 : decode jdk_65_method_121_code 22 = .ok (.aload_n 0, 1) := by decide +kernel
theorem d9_23 : decode jdk_65_method_121_code 23 = .ok (.arraylength, 1) := by decide +kernel
theorem d9_24 : decode jdk_65_method_121_code 24 = .ok (.iload_n 1, 1) := by decide +kernel
theorem d9_25 : decode jdk_65_method_121_code 25 = .ok (.invokestatic 304, 3) := by decide +kernel
theorem d9_28 : decode jdk_65_method_121_code 28 = .ok (.invokestatic 150, 3) := by decide +kernel
theorem d9_31 : decode jdk_65_method_121_code 31 = .ok (.aload_n 2, 1) := by decide +kernel
theorem d9_32 : decode jdk_65_method_121_code 32 = .ok (.areturn, 1) := by decide +kernel
theorem d10_0 : decode jdk_29_method_69_code 0 = .ok (.iload_n 0, 1) := by decide +kernel
theorem d10_1 : decode jdk_29_method_69_code 1 = .ok (.iload_n 1, 1) := by decide +kernel
theorem d10_2 : decode jdk_29_method_69_code 2 = .ok (.if_icmp .gt 7, 3) := by decide +kernel
theorem d10_5 : decode jdk_29_method_69_code 5 = .ok (.iload_n 0, 1) := by decide +kernel
theorem d10_6 : decode jdk_29_method_69_code 6 = .ok (.goto 4, 3) := by decide +kernel
theorem d10_9 : decode jdk_29_method_69_code 9 = .ok (.iload_n 1, 1) := by decide +kernel
theorem d10_10 : decode jdk_29_method_69_code 10 = .ok (.ireturn, 1) := by decide +kernel
theorem d11_0 : decode prog_31_method_5_code 0 = .ok (.aload_n 0, 1) := by decide +kernel
theorem d11_1 : decode prog_31_method_5_code 1 = .ok (.iconst 1, 1) := by decide +kernel
theorem d11_2 : decode prog_31_method_5_code 2 = .ok (.putfield 21, 3) := by decide +kernel
theorem d11_5 : decode prog_31_method_5_code 5 = .ok (.return_, 1) := by decide +kernel
theorem d12_0 : decode prog_31_method_8_code 0 = .ok (.aload_n 0, 1) := by decide +kernel
theorem d12_1 : decode prog_31_method_8_code 1 = .ok (.getfield 11, 3) := by decide +kernel
theorem d12_4 : decode prog_31_method_8_code 4 = .ok (.aload_n 0, 1) := by decide +kernel
theorem d12_5 : decode prog_31_method_8_code 5 = .ok (.getfield 32, 3) := by decide +kernel
theorem d12_8 : decode prog_31_method_8_code 8 = .ok (.invokestatic 58, 3) := by decide +kernel
theorem d12_11 : decode prog_31_method_8_code 11 = .ok (.areturn, 1) := by decide +kernel
theorem d13_0 : decode prog_31_method_7_code 0 = .ok (.aload_n 0, 1) := by decide +kernel
theorem d13_1 : decode prog_31_method_7_code 1 = .ok (.getfield 32, 3) := by decide +kernel
theorem d13_4 : decode prog_31_method_7_code 4 = .ok (.ireturn, 1) := by decide +kernel
theorem d14_0 : decode method_4_code 0 = .ok (.iload_n 1, 1) := by decide +kernel
theorem d14_1 : decode method_4_code 1 = .ok (.ifCond .lt 9, 3) := by decide +kernel
theorem d14_4 : decode method_4_code 4 = .ok (.iload_n 1, 1) := by decide +kernel
theorem d14_5 : decode method_4_code 5 = .ok (.aload_n 0, 1) := by decide +kernel
theorem d14_6 : decode method_4_code 6 = .ok (.arraylength, 1) := by decide +kernel
theorem d14_7 : decode method_4_code 7 = .ok (.if_icmp .lt 5, 3) := by decide +kernel
theorem d14_10 : decode method_4_code 10 = .ok (.iconst 1, 1) := by decide +kernel
theorem d14_11 : decode method_4_code 11 = .ok (.ireturn, 1) := by decide +kernel
theorem d14_12 : decode method_4_code 12 = .ok (.iload_n 1, 1) := by decide +kernel
theorem d14_13 : decode method_4_code 13 = .ok (.iload 4, 2) := by decide +kernel
theorem d14_15 : decode method_4_code 15 = .ok (.if_icmp .ge 13, 3) := by decide +kernel
theorem d14_18 : decode method_4_code 18 = .ok (.aload_n 2, 1) := by decide +kernel
theorem d14_19 : decode method_4_code 19 = .ok (.iload_n 3, 1) := by decide +kernel
theorem d14_20 : decode method_4_code 20 = .ok (.iload_n 1, 1) := by decide +kernel
theorem d14_21 : decode method_4_code 21 = .ok (.iadd, 1) := by decide +kernel
theorem d14_22 : decode method_4_code 22 = .ok (.baload, 1) := by decide +kernel
theorem d14_23 : decode method_4_code 23 = .ok (.istore 9, 2) := by decide +kernel
theorem d14_25 : decode method_4_code 25 = .ok (.goto 39, 3) := by decide +kernel
theorem d14_28 : decode method_4_code 28 = .ok (.iload_n 1, 1) := by decide +kernel
theorem d14_29 : decode method_4_code 29 = .ok (.iload 4, 2) := by decide +kernel
theorem d14_31 : decode method_4_code 31 = .ok (.iload 6, 2) := by decide +kernel
theorem d14_33 : decode method_4_code 33 = .ok (.iadd, 1) := by decide +kernel
theorem d14_34 : decode method_4_code 34 = .ok (.if_icmp .ge 15, 3) := by decide +kernel
theorem d14_37 : decode method_4_code 37 = .ok (.aload 5, 2) := by decide +kernel
theorem d14_39 : decode method_4_code 39 = .ok (.iload_n 1, 1) := by decide +kernel
theorem d14_40 : decode method_4_code 40 = .ok (.iload 4, 2) := by decide +kernel
theorem d14_42 : decode method_4_code 42 = .ok (.isub, 1) := by decide +kernel
theorem d14_43 : decode method_4_code 43 = .ok (.baload, 1) := by decide +kernel
theorem d14_44 : decode method_4_code 44 = .ok (.istore 9, 2) := by decide +kernel
theorem d14_46 : decode method_4_code 46 = .ok (.goto 18, 3) := by decide +kernel
theorem d14_49 : decode method_4_code 49 = .ok (.aload 7, 2) := by decide +kernel
theorem d14_51 : decode method_4_code 51 = .ok (.iload 8, 2) := by decide +kernel
theorem d14_53 : decode method_4_code 53 = .ok (.iload_n 1, 1) := by decide +kernel
theorem d14_54 : decode method_4_code 54 = .ok (.iadd, 1) := by decide +kernel
theorem d14_55 : decode method_4_code 55 = .ok (.iload 4, 2) := by decide +kernel
theorem d14_57 : decode method_4_code 57 = .ok (.isub, 1) := by decide +kernel
theorem d14_58 : decode method_4_code 58 = .ok (.iload 6, 2) := by decide +kernel
theorem d14_60 : decode method_4_code 60 = .ok (.isub, 1) := by decide +kernel
theorem d14_61 : decode method_4_code 61 = .ok (.baload, 1) := by decide +kernel
theorem d14_62 : decode method_4_code 62 = .ok (.istore 9, 2) := by decide +kernel
theorem d14_64 : decode method_4_code 64 = .ok (.aload_n 0, 1) := by decide +kernel
theorem d14_65 : decode method_4_code 65 = .ok (.iload_n 1, 1) := by decide +kernel
theorem d14_66 : decode method_4_code 66 = .ok (.baload, 1) := by decide +kernel
theorem d14_67 : decode method_4_code 67 = .ok (.iload 9, 2) := by decide +kernel
theorem d14_69 : decode method_4_code 69 = .ok (.if_icmp .ne 7, 3) := by decide +kernel
theorem d14_72 : decode method_4_code 72 = .ok (.iconst 1, 1) := by decide +kernel
theorem d14_73 : decode method_4_code 73 = .ok (.goto 4, 3) := by decide +kernel
theorem d14_77 : decode method_4_code 77 = .ok (.ireturn, 1) := by decide +kernel
theorem d15_0 : decode prog_31_method_6_code 0 = .ok (.aload_n 0, 1) := by decide +kernel
theorem d15_1 : decode prog_31_method_6_code 1 = .ok (.iconst 1, 1) := by decide +kernel
theorem d15_2 : decode prog_31_method_6_code 2 = .ok (.putfield 21, 3) := by decide +kernel
theorem d15_5 : decode prog_31_method_6_code 5 = .ok (.return_, 1) := by decide +kernel
theorem pd_0 : parseMethodDescriptor "(IIILjava/util/function/BiFunction;)I" = some ⟨[.int, .int, .int, (.object "java/util/function/BiFunction")], some .int⟩ := by decide +kernel
theorem pd_1 : parseMethodDescriptor "(II)I" = some ⟨[.int, .int], some .int⟩ := by decide +kernel
theorem pd_2 : parseMethodDescriptor "([BI)[B" = some ⟨[(.array .byte), .int], some (.array .byte)⟩ := by decide +kernel
theorem pd_3 : parseMethodDescriptor "(III)I" = some ⟨[.int, .int, .int], some .int⟩ := by decide +kernel
theorem pd_4 : parseMethodDescriptor "(I)V" = some ⟨[.int], none⟩ := by decide +kernel
theorem pd_5 : parseMethodDescriptor "(I)[B" = some ⟨[.int], some (.array .byte)⟩ := by decide +kernel
theorem pd_6 : parseMethodDescriptor "()V" = some ⟨[], none⟩ := by decide +kernel
theorem pd_7 : parseMethodDescriptor "([BII)V" = some ⟨[(.array .byte), .int, .int], none⟩ := by decide +kernel
theorem pd_8 : parseMethodDescriptor "()[B" = some ⟨[], some (.array .byte)⟩ := by decide +kernel
theorem pd_9 : parseMethodDescriptor "()I" = some ⟨[], some .int⟩ := by decide +kernel
theorem pd_10 : parseMethodDescriptor "([BI[BII[BI[BI)Z" = some ⟨[(.array .byte), .int, (.array .byte), .int, .int, (.array .byte), .int, (.array .byte), .int], some .boolean⟩ := by decide +kernel
theorem pn_0 : plainFor (⟨"java/lang/Math", "max", "(II)I"⟩ : MethodName) = true := by first | exact plainFor_of_name (by first | (simp [plainName, overriddenIn]; done) | decide +kernel) | decide +kernel
theorem pn_1 : plainFor (⟨"java/lang/Math", "min", "(II)I"⟩ : MethodName) = true := by first | exact plainFor_of_name (by first | (simp [plainName, overriddenIn]; done) | decide +kernel) | decide +kernel
theorem pn_2 : plainFor (⟨"com/example/runnel/runnel/MemorySinkToByteArrayPinLaw", "bytesOf", "(I)[B"⟩ : MethodName) = true := by first | exact plainFor_of_name (by first | (simp [plainName, overriddenIn]; done) | decide +kernel) | decide +kernel
theorem pn_3 : plainFor (⟨"jdk/internal/util/Preconditions", "checkFromIndexSize", "(IIILjava/util/function/BiFunction;)I"⟩ : MethodName) = true := by first | exact plainFor_of_name (by first | (simp [plainName, overriddenIn]; done) | decide +kernel) | decide +kernel
theorem pn_4 : plainFor (⟨"java/util/Objects", "checkFromIndexSize", "(III)I"⟩ : MethodName) = true := by first | exact plainFor_of_name (by first | (simp [plainName, overriddenIn]; done) | decide +kernel) | decide +kernel
theorem pn_5 : plainFor (⟨"java/util/Arrays", "copyOf", "([BI)[B"⟩ : MethodName) = true := by first | exact plainFor_of_name (by first | (simp [plainName, overriddenIn]; done) | decide +kernel) | decide +kernel
theorem pn_6 : plainFor (⟨"com/example/runnel/runnel/MemorySink", "<init>", "()V"⟩ : MethodName) = true := by first | exact plainFor_of_name (by first | (simp [plainName, overriddenIn]; done) | decide +kernel) | decide +kernel
theorem pn_7 : plainFor (⟨"com/example/runnel/runnel/MemorySink", "grow", "(I)V"⟩ : MethodName) = true := by first | exact plainFor_of_name (by first | (simp [plainName, overriddenIn]; done) | decide +kernel) | decide +kernel
theorem pn_8 : plainFor (⟨"com/example/runnel/runnel/MemorySink", "write", "([BII)V"⟩ : MethodName) = true := by first | exact plainFor_of_name (by first | (simp [plainName, overriddenIn]; done) | decide +kernel) | decide +kernel
theorem pn_9 : plainFor (⟨"com/example/runnel/runnel/MemorySink", "commit", "()V"⟩ : MethodName) = true := by first | exact plainFor_of_name (by first | (simp [plainName, overriddenIn]; done) | decide +kernel) | decide +kernel
theorem pn_10 : plainFor (⟨"com/example/runnel/runnel/MemorySink", "close", "()V"⟩ : MethodName) = true := by first | exact plainFor_of_name (by first | (simp [plainName, overriddenIn]; done) | decide +kernel) | decide +kernel
theorem pn_11 : plainFor (⟨"com/example/runnel/runnel/MemorySink", "toByteArray", "()[B"⟩ : MethodName) = true := by first | exact plainFor_of_name (by first | (simp [plainName, overriddenIn]; done) | decide +kernel) | decide +kernel
theorem pn_12 : plainFor (⟨"com/example/runnel/runnel/MemorySink", "size", "()I"⟩ : MethodName) = true := by first | exact plainFor_of_name (by first | (simp [plainName, overriddenIn]; done) | decide +kernel) | decide +kernel
theorem pn_13 : plainFor (⟨"com/example/runnel/runnel/MemorySinkToByteArrayPinLaw", "at", "([BI[BII[BI[BI)Z"⟩ : MethodName) = true := by first | exact plainFor_of_name (by first | (simp [plainName, overriddenIn]; done) | decide +kernel) | decide +kernel
theorem pn_14 : plainFor x = true := by first | exact plainFor_of_name (by first | (simp [plainName, overriddenIn]; done) | decide +kernel) | decide +kernel
def By (g : Nat → Int32) : Prop := ∀ i, fits .byte (.int (g i)) = true
theorem own_bytes {Z : State} {h : Heap} {a : Addr} {n : Nat} {f : Nat → Value} (F : AV Z h a .byte n f) (hf : ∀ i, i < n → ∃ z, f i = .int z ∧ fits .byte (.int z) = true) : ∃ g : Nat → Int32, By g ∧ AV Z h a .byte n (fun i => .int (g i)) := by
  refine ⟨fun i => if i < n then (match f i with | .int z => z | _ => 0) else 0, fun i => ?_, F.congr (fun i hi => ?_)⟩
  · by_cases hi : i < n
    · obtain ⟨z, q, r⟩ := hf i hi
      simp only [hi, if_true, q]; exact r
    · simp only [hi, if_false]; rfl
  · obtain ⟨z, q, r⟩ := hf i hi
    simp only [hi, if_true, q]
theorem own_fit {g : Nat → Int32} {n : Nat} (hg : By g) : ∀ i, i < n → fits .byte ((fun i => Value.int (g i)) i) = true := fun i _ => hg i
theorem own_nb (x : Int32) : fits .byte (.int (nar .byte x)) = true := fits_nar_byte x
theorem own_z {x : Int32} {k : Int32} {j : Nat} (h : x.toInt = j) (hk : k.toInt = j) : x = k := Int32.toInt_inj.mp (by rw [h, hk])
theorem own_plus {a k : Int32} {o j : Nat} (ha : a.toInt = o) (hk : k.toInt = j) (ho : o + j < 100000) : (a + k).toInt = ((o + j : Nat) : Int) := by
  have q := c_iadd a k
  have b := rng32 (a + k)
  omega
theorem own_minus {a k : Int32} {o j : Nat} (ha : a.toInt = o) (hk : k.toInt = j) (ho : j ≤ o) (h1 : o < 100000) : (a - k).toInt = ((o - j : Nat) : Int) := by
  have q := c_isub a k
  have b := rng32 (a - k)
  omega
theorem own_lt {i n : Int32} {a b : Nat} (hi : i.toInt = a) (hn : n.toInt = b) : i < n ↔ a < b := by rw [Int32.lt_iff_toInt_lt, hi, hn]; omega
def fMax (a b : Int32) : Int32 := if a < b then b else a
def fMin (a b : Int32) : Int32 := if b < a then b else a
theorem own_min {a b : Int32} {n m : Nat} (ha : a.toInt = n) (hb : b.toInt = m) : (fMin a b).toInt = ((min n m : Nat) : Int) := by
  unfold fMin
  by_cases h : b < a
  · rw [if_pos h, hb]; have := (own_lt hb ha).mp h; omega
  · rw [if_neg h, ha]; have : ¬ m < n := fun q => h ((own_lt hb ha).mpr q); omega
def QI (r : Int32) (h0 : Heap) (n0 : Nat) (v : Option Value) (h : Heap) (L : List Loc) : Prop := v = some (.int r) ∧ Fr n0 L ∧ h = h0
def QA (Z : State) (n : Nat) (f : Nat → Value) (h0 : Heap) (n0 : Nat) (v : Option Value) (h : Heap) (L : List Loc) : Prop := ∃ a, v = some (.ref a) ∧ Fr n0 L ∧ n0 ≤ a ∧ h0.size ≤ a ∧ Keep h0 h [] ∧ AV Z h a .byte n f
def QB (Z : State) (n : Nat) (h0 : Heap) (n0 : Nat) (v : Option Value) (h : Heap) (L : List Loc) : Prop := ∃ a g, v = some (.ref a) ∧ Fr n0 L ∧ n0 ≤ a ∧ h0.size ≤ a ∧ Keep h0 h [] ∧ By g ∧ AV Z h a .byte n (fun i => .int (g i))
set_option maxRecDepth 65536 in
set_option maxHeartbeats 40000000 in
theorem rm8 (l : Launch) (Z : State) (a0 : Array Value) (hw : ∀ d ∈ tables_1, d.before a0 Z = true) (ws : List Jvm.Cond) (a b : Int32) (h0 : Heap) (n0 : Nat) (Z0 : n0 ≤ h0.size)  :
    MetFree l (⟨"java/lang/Math", "max", "(II)I"⟩ : MethodName) (head1 (Jvm.Cond.code (⟨"java/lang/Math", "max", "(II)I"⟩ : MethodName) jdk_29_method_65_code 2 (some .int) :: ws) ({ frames := 0, cells := 0, slots := 0, locals := 0 } : Room)) (fun av_ U_ => av_ = #[(.int a), (.int b)] ∧ Z.Warmed39 U_.vm ∧ U_.heap = h0) (fun _ _ _ _ _ => True) (fun _ U_ o_ W_ => ∃ v_ L_, o_ = .returned v_ ∧ QI (fMax a b) h0 n0 v_ W_.heap L_ ∧ FrameEnd U_ o_ W_ L_ ({ frames := 0, cells := 0, slots := 0, locals := 0 } : Room).cells ({ frames := 0, cells := 0, slots := 0, locals := 0 } : Room).slots) := by
  refine own_start pn_0 ?_
  intro p e s m below meth c T0 X0 hx hby hml hown hnm hret hlk hZ e0
  have N0 := Fr.nil n0
  have M0 := Z0
  refine Go.cast (show entryFrame m #[(.int a), (.int b)] 2 = (mkF m 0 #[.val (.int a), .val (.int b)] []) from (by first | (simp [entryFrame, mkF, argsToLocals, Value.category, maxLocals]; done) | rfl)) ?_
  refine g_iloadN X0 hx 1 (hb hby d8_0) rfl rfl ?_
  refine g_iloadN X0 hx 2 (hb hby d8_1) rfl rfl ?_
  by_cases c2 : a < b
  · refine g_icT X0 hx 9 (hb hby d8_2) (Jvm.Free.XT.ii_lt_t c2) (by decide) (by decide) ?_
    refine g_iloadN X0 hx 10 (hb hby d8_9) rfl rfl ?_
    refine g_iret X0 hx hret hlk (hb hby d8_10) (by decide) (by decide) ?_
    exact ⟨by simp [fMax, c2], N0, e0⟩
  · refine g_icF X0 hx 5 (hb hby d8_2) (Jvm.Free.XT.ii_lt_f c2) rfl ?_
    refine g_iloadN X0 hx 6 (hb hby d8_5) rfl rfl ?_
    refine g_goto X0 hx 10 (hb hby d8_6) (by decide) (by decide) ?_
    refine g_iret X0 hx hret hlk (hb hby d8_10) (by decide) (by decide) ?_
    exact ⟨by simp [fMax, c2], N0, e0⟩
set_option maxRecDepth 65536 in
set_option maxHeartbeats 40000000 in
theorem rm10 (l : Launch) (Z : State) (a0 : Array Value) (hw : ∀ d ∈ tables_1, d.before a0 Z = true) (ws : List Jvm.Cond) (a b : Int32) (h0 : Heap) (n0 : Nat) (Z0 : n0 ≤ h0.size)  :
    MetFree l (⟨"java/lang/Math", "min", "(II)I"⟩ : MethodName) (head1 (Jvm.Cond.code (⟨"java/lang/Math", "min", "(II)I"⟩ : MethodName) jdk_29_method_69_code 2 (some .int) :: ws) ({ frames := 0, cells := 0, slots := 0, locals := 0 } : Room)) (fun av_ U_ => av_ = #[(.int a), (.int b)] ∧ Z.Warmed39 U_.vm ∧ U_.heap = h0) (fun _ _ _ _ _ => True) (fun _ U_ o_ W_ => ∃ v_ L_, o_ = .returned v_ ∧ QI (fMin a b) h0 n0 v_ W_.heap L_ ∧ FrameEnd U_ o_ W_ L_ ({ frames := 0, cells := 0, slots := 0, locals := 0 } : Room).cells ({ frames := 0, cells := 0, slots := 0, locals := 0 } : Room).slots) := by
  refine own_start pn_1 ?_
  intro p e s m below meth c T0 X0 hx hby hml hown hnm hret hlk hZ e0
  have N0 := Fr.nil n0
  have M0 := Z0
  refine Go.cast (show entryFrame m #[(.int a), (.int b)] 2 = (mkF m 0 #[.val (.int a), .val (.int b)] []) from (by first | (simp [entryFrame, mkF, argsToLocals, Value.category, maxLocals]; done) | rfl)) ?_
  refine g_iloadN X0 hx 1 (hb hby d10_0) rfl rfl ?_
  refine g_iloadN X0 hx 2 (hb hby d10_1) rfl rfl ?_
  by_cases c2 : b < a
  · refine g_icT X0 hx 9 (hb hby d10_2) (Jvm.Free.XT.ii_gt_t c2) (by decide) (by decide) ?_
    refine g_iloadN X0 hx 10 (hb hby d10_9) rfl rfl ?_
    refine g_iret X0 hx hret hlk (hb hby d10_10) (by decide) (by decide) ?_
    exact ⟨by simp [fMin, c2], N0, e0⟩
  · refine g_icF X0 hx 5 (hb hby d10_2) (Jvm.Free.XT.ii_gt_f c2) rfl ?_
    refine g_iloadN X0 hx 6 (hb hby d10_5) rfl rfl ?_
    refine g_goto X0 hx 10 (hb hby d10_6) (by decide) (by decide) ?_
    refine g_iret X0 hx hret hlk (hb hby d10_10) (by decide) (by decide) ?_
    exact ⟨by simp [fMin, c2], N0, e0⟩
set_option maxRecDepth 65536 in
set_option maxHeartbeats 40000000 in
theorem rm1 (l : Launch) (Z : State) (a0 : Array Value) (hw : ∀ d ∈ tables_1, d.before a0 Z = true) (ws : List Jvm.Cond) (x : Int32) (h0 : Heap) (n0 : Nat) (Z0 : n0 ≤ h0.size)  :
    MetFree l (⟨"com/example/runnel/runnel/MemorySinkToByteArrayPinLaw", "bytesOf", "(I)[B"⟩ : MethodName) (head1 (Jvm.Cond.code (⟨"com/example/runnel/runnel/MemorySinkToByteArrayPinLaw", "bytesOf", "(I)[B"⟩ : MethodName) method_3_code 1 (some (.array .byte)) :: ws) ({ frames := 0, cells := 1, slots := 4, locals := 0 } : Room)) (fun av_ U_ => av_ = #[(.int x)] ∧ Z.Warmed39 U_.vm ∧ U_.heap = h0) (fun _ _ _ _ _ => True) (fun _ U_ o_ W_ => ∃ v_ L_, o_ = .returned v_ ∧ QB Z 4 h0 n0 v_ W_.heap L_ ∧ FrameEnd U_ o_ W_ L_ ({ frames := 0, cells := 1, slots := 4, locals := 0 } : Room).cells ({ frames := 0, cells := 1, slots := 4, locals := 0 } : Room).slots) := by
  refine own_start pn_2 ?_
  intro p e s m below meth c T0 X0 hx hby hml hown hnm hret hlk hZ e0
  have N0 := Fr.nil n0
  have M0 := Z0
  have K0 : Keep h0 h0 [] := Keep.refl _ _
  refine Go.cast (show entryFrame m #[(.int x)] 1 = (mkF m 0 #[.val (.int x)] []) from (by first | (simp [entryFrame, mkF, argsToLocals, Value.category, maxLocals]; done) | rfl)) ?_
  refine g_iconst X0 hx 1 (hb hby d1_0) (4 : Int32) (by decide) rfl ?_
  refine g_newarr X0 hx hZ 3 (hw _ (List.mem_of_getElem? (i := 4) rfl)) e0 (hb hby d1_1) (4) (by decide) 4 (by decide) (by decide) (by decide) (by decide) rfl ?_
  intro T1 a X1 E1 g_a F_a
  have e1 : T1.heap = T1.heap := rfl
  have N1 := N0
  have Z_a : n0 ≤ a := by rw [g_a]; exact M0
  have M1 : n0 ≤ T1.heap.size := Nat.le_trans M0 E1.1
  have G_a : h0.size ≤ a := by rw [g_a]; exact K0.1
  have K1 : Keep h0 T1.heap [] := K0.ext E1
  refine g_dup X1 hx 4 (hb hby d1_3) rfl rfl ?_
  refine g_iconst X1 hx 5 (hb hby d1_4) (0 : Int32) (by decide) rfl ?_
  refine g_iloadN X1 hx 6 (hb hby d1_5) rfl rfl ?_
  refine g_i2b X1 hx 7 (hb hby d1_6) rfl ?_
  refine g_bastore X1 hx hZ 8 e1 F_a (hb hby d1_7) (0) (by decide) (by decide) rfl ?_
  intro T2 X2 W2 G2
  replace F_a := G2
  have e2 : T2.heap = T2.heap := rfl
  have N2 := Fr.snoc X2 N1 Z_a
  have M2 : n0 ≤ T2.heap.size := by rw [W2.size]; exact M1
  have K2 : Keep h0 T2.heap [] := K1.wr W2 (Or.inr G_a)
  refine g_dup X2 hx 9 (hb hby d1_8) rfl rfl ?_
  refine g_iconst X2 hx 10 (hb hby d1_9) (1 : Int32) (by decide) rfl ?_
  refine g_iloadN X2 hx 11 (hb hby d1_10) rfl rfl ?_
  refine g_bipush X2 hx 13 (hb hby d1_11) (8 : Int32) (by decide) rfl ?_
  refine g_iushr X2 hx 14 (hb hby d1_13) rfl ?_
  refine g_i2b X2 hx 15 (hb hby d1_14) rfl ?_
  refine g_bastore X2 hx hZ 16 e2 F_a (hb hby d1_15) (1) (by decide) (by decide) rfl ?_
  intro T3 X3 W3 G3
  replace F_a := G3
  have e3 : T3.heap = T3.heap := rfl
  have N3 := Fr.snoc X3 N2 Z_a
  have M3 : n0 ≤ T3.heap.size := by rw [W3.size]; exact M2
  have K3 : Keep h0 T3.heap [] := K2.wr W3 (Or.inr G_a)
  refine g_dup X3 hx 17 (hb hby d1_16) rfl rfl ?_
  refine g_iconst X3 hx 18 (hb hby d1_17) (2 : Int32) (by decide) rfl ?_
  refine g_iloadN X3 hx 19 (hb hby d1_18) rfl rfl ?_
  refine g_bipush X3 hx 21 (hb hby d1_19) (16 : Int32) (by decide) rfl ?_
  refine g_iushr X3 hx 22 (hb hby d1_21) rfl ?_
  refine g_i2b X3 hx 23 (hb hby d1_22) rfl ?_
  refine g_bastore X3 hx hZ 24 e3 F_a (hb hby d1_23) (2) (by decide) (by decide) rfl ?_
  intro T4 X4 W4 G4
  replace F_a := G4
  have e4 : T4.heap = T4.heap := rfl
  have N4 := Fr.snoc X4 N3 Z_a
  have M4 : n0 ≤ T4.heap.size := by rw [W4.size]; exact M3
  have K4 : Keep h0 T4.heap [] := K3.wr W4 (Or.inr G_a)
  refine g_dup X4 hx 25 (hb hby d1_24) rfl rfl ?_
  refine g_iconst X4 hx 26 (hb hby d1_25) (3 : Int32) (by decide) rfl ?_
  refine g_iloadN X4 hx 27 (hb hby d1_26) rfl rfl ?_
  refine g_bipush X4 hx 29 (hb hby d1_27) (24 : Int32) (by decide) rfl ?_
  refine g_iushr X4 hx 30 (hb hby d1_29) rfl ?_
  refine g_i2b X4 hx 31 (hb hby d1_30) rfl ?_
  refine g_bastore X4 hx hZ 32 e4 F_a (hb hby d1_31) (3) (by decide) (by decide) rfl ?_
  intro T5 X5 W5 G5
  replace F_a := G5
  have e5 : T5.heap = T5.heap := rfl
  have N5 := Fr.snoc X5 N4 Z_a
  have M5 : n0 ≤ T5.heap.size := by rw [W5.size]; exact M4
  have K5 : Keep h0 T5.heap [] := K4.wr W5 (Or.inr G_a)
  refine g_aret X5 hx rfl rfl rfl hret hlk (hb hby d1_32) (by decide) (by decide) ?_
  obtain ⟨g, hg, Fg⟩ := own_bytes F_a (fun i hi => by rcases (show i = 0 ∨ i = 1 ∨ i = 2 ∨ i = 3 by omega) with rfl | rfl | rfl | rfl <;> exact ⟨_, rfl, own_nb _⟩)
  exact ⟨a, g, rfl, N5, Z_a, G_a, K5, hg, Fg⟩
set_option maxRecDepth 65536 in
set_option maxHeartbeats 40000000 in
theorem rm6 (l : Launch) (Z : State) (a0 : Array Value) (hw : ∀ d ∈ tables_1, d.before a0 Z = true) (ws : List Jvm.Cond) (f_ sz_ ln_ : Int32) (o k n : Nat) (h0 : Heap) (n0 : Nat) (Z0 : n0 ≤ h0.size) (hf : f_.toInt = o) (hs : sz_.toInt = k) (hl : ln_.toInt = n) (hok : o + k ≤ n) (hn : n < 100000) :
    MetFree l (⟨"jdk/internal/util/Preconditions", "checkFromIndexSize", "(IIILjava/util/function/BiFunction;)I"⟩ : MethodName) (head1 (Jvm.Cond.code (⟨"jdk/internal/util/Preconditions", "checkFromIndexSize", "(IIILjava/util/function/BiFunction;)I"⟩ : MethodName) jdk_41_method_13_code 4 (some .int) :: ws) ({ frames := 0, cells := 0, slots := 0, locals := 0 } : Room)) (fun av_ U_ => av_ = #[(.int f_), (.int sz_), (.int ln_), (.null)] ∧ Z.Warmed39 U_.vm ∧ U_.heap = h0) (fun _ _ _ _ _ => True) (fun _ U_ o_ W_ => ∃ v_ L_, o_ = .returned v_ ∧ QI f_ h0 n0 v_ W_.heap L_ ∧ FrameEnd U_ o_ W_ L_ ({ frames := 0, cells := 0, slots := 0, locals := 0 } : Room).cells ({ frames := 0, cells := 0, slots := 0, locals := 0 } : Room).slots) := by
  refine own_start pn_3 ?_
  intro p e s m below meth c T0 X0 hx hby hml hown hnm hret hlk hZ e0
  have N0 := Fr.nil n0
  have M0 := Z0
  refine Go.cast (show entryFrame m #[(.int f_), (.int sz_), (.int ln_), (.null)] 4 = (mkF m 0 #[.val (.int f_), .val (.int sz_), .val (.int ln_), .val (.null)] []) from (by first | (simp [entryFrame, mkF, argsToLocals, Value.category, maxLocals]; done) | rfl)) ?_
  refine g_iloadN X0 hx 1 (hb hby d6_0) rfl rfl ?_
  refine g_iloadN X0 hx 2 (hb hby d6_1) rfl rfl ?_
  refine g_ior X0 hx 3 (hb hby d6_2) rfl ?_
  refine g_iloadN X0 hx 4 (hb hby d6_3) rfl rfl ?_
  refine g_ior X0 hx 5 (hb hby d6_4) rfl ?_
  refine g_ifF X0 hx 8 (hb hby d6_5) (Jvm.Free.XT.i0_lt_f (show ¬ (((ln_ ||| f_) ||| sz_) < (0 : Int32)) from (fun q => by rw [Int32.lt_iff_toInt_lt] at q; have z : (0 : Int32).toInt = 0 := (by decide); have a1 := (c_orS ln_ f_).1 (by omega) (by omega); have a2 := (c_orS (ln_ ||| f_) sz_).1 a1 (by omega); omega))) rfl ?_
  refine g_iloadN X0 hx 9 (hb hby d6_8) rfl rfl ?_
  refine g_iloadN X0 hx 10 (hb hby d6_9) rfl rfl ?_
  refine g_iloadN X0 hx 11 (hb hby d6_10) rfl rfl ?_
  refine g_isub X0 hx 12 (hb hby d6_11) rfl ?_
  refine g_icT X0 hx 23 (hb hby d6_12) (Jvm.Free.XT.ii_le_t (show ¬ ((ln_ - f_) < sz_) from (fun q => by have u := own_minus hl hf (by omega) (by omega); have v := (own_lt u hs).mp q; omega))) (by decide) (by decide) ?_
  refine g_iloadN X0 hx 24 (hb hby d6_23) rfl rfl ?_
  refine g_iret X0 hx hret hlk (hb hby d6_24) (by decide) (by decide) ?_
  exact ⟨rfl, N0, e0⟩
set_option maxRecDepth 65536 in
set_option maxHeartbeats 40000000 in
theorem rm5 (l : Launch) (Z : State) (a0 : Array Value) (hw : ∀ d ∈ tables_1, d.before a0 Z = true) (ws : List Jvm.Cond) (f_ sz_ ln_ : Int32) (o k n : Nat) (h0 : Heap) (n0 : Nat) (Z0 : n0 ≤ h0.size) (hf : f_.toInt = o) (hs : sz_.toInt = k) (hl : ln_.toInt = n) (hok : o + k ≤ n) (hn : n < 100000) :
    MetFree l (⟨"java/util/Objects", "checkFromIndexSize", "(III)I"⟩ : MethodName) (head1 (Jvm.Cond.code (⟨"java/util/Objects", "checkFromIndexSize", "(III)I"⟩ : MethodName) jdk_31_method_19_code 3 (some .int) :: ws) ({ frames := 1, cells := 0, slots := 0, locals := 15 } : Room)) (fun av_ U_ => av_ = #[(.int f_), (.int sz_), (.int ln_)] ∧ Z.Warmed39 U_.vm ∧ U_.heap = h0) (fun _ _ _ _ _ => True) (fun _ U_ o_ W_ => ∃ v_ L_, o_ = .returned v_ ∧ QI f_ h0 n0 v_ W_.heap L_ ∧ FrameEnd U_ o_ W_ L_ ({ frames := 1, cells := 0, slots := 0, locals := 15 } : Room).cells ({ frames := 1, cells := 0, slots := 0, locals := 15 } : Room).slots) := by
  refine own_start pn_4 ?_
  intro p e s m below meth c T0 X0 hx hby hml hown hnm hret hlk hZ e0
  have N0 := Fr.nil n0
  have M0 := Z0
  refine Go.cast (show entryFrame m #[(.int f_), (.int sz_), (.int ln_)] 3 = (mkF m 0 #[.val (.int f_), .val (.int sz_), .val (.int ln_)] []) from (by first | (simp [entryFrame, mkF, argsToLocals, Value.category, maxLocals]; done) | rfl)) ?_
  refine g_iloadN X0 hx 1 (hb hby d5_0) rfl rfl ?_
  refine g_iloadN X0 hx 2 (hb hby d5_1) rfl rfl ?_
  refine g_iloadN X0 hx 3 (hb hby d5_2) rfl rfl ?_
  refine g_null X0 hx 4 (hb hby d5_3) rfl ?_
  refine g_callS X0 hx hZ 7 [(.int f_), (.int sz_), (.int ln_), (.null)] [] 0 hown (hw _ (List.mem_of_getElem? (i := 25) rfl)) (hw _ (List.mem_of_getElem? (i := 26) rfl)) (hw _ (List.mem_of_getElem? (i := 27) rfl)) (hw _ (List.mem_of_getElem? (i := 28) rfl)) (by decide) e0 (rm6 l Z a0 hw [] f_ sz_ ln_ o k n h0 n0 M0 hf hs hl hok hn) (by decide) (by decide) (by decide) (by decide) (by rw [hml]; rfl) rfl pd_0 rfl (Nat.le_of_eq rfl) (hb hby d5_4) rfl ?_
  intro v1 T1 L1 X1 q1
  obtain ⟨rfl, Nq1, e1⟩ := q1
  have N1 := Fr.app N0 Nq1
  have M1 := M0
  refine g_iret X1 hx hret hlk (hb hby d5_7) (by decide) (by decide) ?_
  exact ⟨rfl, N1, e1⟩
theorem own_cp {g : Nat → Int32} {n mN i : Nat} (hi : i < mN) : (if 0 ≤ i ∧ i < 0 + min n mN then Value.int (g (0 + (i - 0))) else defaultValue (newarray.typeOf ArrayType.byte)) = .int (if i < n then g i else 0) := by
  by_cases q : i < n
  · rw [if_pos (by omega), if_pos q]; simp
  · rw [if_neg (by omega), if_neg q]; rfl
set_option maxRecDepth 65536 in
set_option maxHeartbeats 40000000 in
theorem rm9 (l : Launch) (Z : State) (a0 : Array Value) (hw : ∀ d ∈ tables_1, d.before a0 Z = true) (ws : List Jvm.Cond) (a : Addr) (z nz : Int32) (n mN : Nat) (g : Nat → Int32) (h0 : Heap) (n0 : Nat) (Z0 : n0 ≤ h0.size) (hz : z.toInt = mN) (hn : nz.toInt = n) (hne : ¬ mN = n) (hm : mN ≤ 512) (hn5 : n ≤ 512) (hg : By g) (F_a : AV Z h0 a .byte n (fun i => .int (g i))) :
    MetFree l (⟨"java/util/Arrays", "copyOf", "([BI)[B"⟩ : MethodName) (head1 (Jvm.Cond.code (⟨"java/util/Arrays", "copyOf", "([BI)[B"⟩ : MethodName) jdk_65_method_121_code 3 (some (.array .byte)) :: ws) ({ frames := 1, cells := 1, slots := 512, locals := 60 } : Room)) (fun av_ U_ => av_ = #[(.ref a), (.int z)] ∧ Z.Warmed39 U_.vm ∧ U_.heap = h0) (fun _ _ _ _ _ => True) (fun _ U_ o_ W_ => ∃ v_ L_, o_ = .returned v_ ∧ QA Z mN (fun i => .int (if i < n then g i else 0)) h0 n0 v_ W_.heap L_ ∧ FrameEnd U_ o_ W_ L_ ({ frames := 1, cells := 1, slots := 512, locals := 60 } : Room).cells ({ frames := 1, cells := 1, slots := 512, locals := 60 } : Room).slots) := by
  refine own_start pn_5 ?_
  intro p e s m below meth c T0 X0 hx hby hml hown hnm hret hlk hZ e0
  have N0 := Fr.nil n0
  have M0 := Z0
  have K0 : Keep h0 h0 [] := Keep.refl _ _
  refine Go.cast (show entryFrame m #[(.ref a), (.int z)] 3 = (mkF m 0 #[.val (.ref a), .val (.int z), .unset] []) from (by first | (simp [entryFrame, mkF, argsToLocals, Value.category, maxLocals]; done) | rfl)) ?_
  refine g_iloadN X0 hx 1 (hb hby d9_0) rfl rfl ?_
  refine g_aloadN X0 hx 2 (hb hby d9_1) rfl rfl rfl ?_
  refine g_arrlen X0 hx hZ 3 e0 F_a nz hn (hb hby d9_2) rfl ?_
  refine g_icT X0 hx 14 (hb hby d9_3) (Jvm.Free.XT.ii_ne_t (show ¬ (z = nz) from (fun q => by rw [q, hn] at hz; omega))) (by decide) (by decide) ?_
  refine g_iloadN X0 hx 15 (hb hby d9_14) rfl rfl ?_
  refine g_newarr X0 hx hZ 17 (hw _ (List.mem_of_getElem? (i := 4) rfl)) e0 (hb hby d9_15) (mN) hz 512 hm (by decide) (by decide) (by decide) rfl ?_
  intro T1 t X1 E1 g_t F_t
  have e1 : T1.heap = T1.heap := rfl
  have N1 := N0
  have Z_t : n0 ≤ t := by rw [g_t]; exact M0
  have M1 : n0 ≤ T1.heap.size := Nat.le_trans M0 E1.1
  have ne_a_t : a ≠ t := by rw [g_t]; exact Nat.ne_of_lt F_a.lt
  replace F_a := F_a.ext E1
  have G_t : h0.size ≤ t := by rw [g_t]; exact K0.1
  have K1 : Keep h0 T1.heap [] := K0.ext E1
  refine g_astoreN X1 hx 18 (hb hby d9_17) rfl #[.val (.ref a), .val (.int z), .val (.ref t)] rfl rfl ?_
  refine g_aloadN X1 hx 19 (hb hby d9_18) rfl rfl rfl ?_
  refine g_iconst X1 hx 20 (hb hby d9_19) (0 : Int32) (by decide) rfl ?_
  refine g_aloadN X1 hx 21 (hb hby d9_20) rfl rfl rfl ?_
  refine g_iconst X1 hx 22 (hb hby d9_21) (0 : Int32) (by decide) rfl ?_
  refine g_aloadN X1 hx 23 (hb hby d9_22) rfl rfl rfl ?_
  refine g_arrlen X1 hx hZ 24 e1 F_a nz hn (hb hby d9_23) rfl ?_
  refine g_iloadN X1 hx 25 (hb hby d9_24) rfl rfl ?_
  refine g_callS X1 hx hZ 28 [(.int nz), (.int z)] [(.int (0 : Int32)), (.ref t), (.int (0 : Int32)), (.ref a)] 4 hown (hw _ (List.mem_of_getElem? (i := 51) rfl)) (hw _ (List.mem_of_getElem? (i := 52) rfl)) (hw _ (List.mem_of_getElem? (i := 45) rfl)) (hw _ (List.mem_of_getElem? (i := 53) rfl)) (by decide) e1 (rm10 l Z a0 hw [] nz z T1.heap n0 M1) (by decide) (by decide) (by decide) (by decide) (by rw [hml]; rfl) rfl pd_1 rfl (Nat.le_of_eq rfl) (hb hby d9_25) rfl ?_
  intro v2 T2 L2 X2 q2
  obtain ⟨rfl, Nq2, e2⟩ := q2
  have N2 := Fr.app N1 Nq2
  have M2 := M1
  have K2 := K1
  have hmin := own_min hn hz
  generalize fMin nz z = mi at *
  refine g_copy X2 hx hZ 31 0 (0) (0) (min n mN) hown (hw _ (List.mem_of_getElem? (i := 54) rfl)) (hw _ (List.mem_of_getElem? (i := 36) rfl)) (hw _ (List.mem_of_getElem? (i := 34) rfl)) (hw _ (List.mem_of_getElem? (i := 35) rfl)) e2 F_a F_t rfl (own_fit hg) (fun _ _ => rfl) (by omega) (by omega) (by decide) (by decide) hmin (by omega) (by omega) N2 Z_t (by rw [hml]; rfl) (hb hby d9_28) (by decide) (Nat.le_of_eq rfl) (by decide) rfl ?_
  intro T3 L3 X3 N3 Kc3 G3
  have e3 : T3.heap = T3.heap := rfl
  have M3 : n0 ≤ T3.heap.size := Nat.le_trans M2 Kc3.1
  replace F_a := F_a.keep Kc3 (ninS ne_a_t nin0)
  replace F_t := G3
  have K3 : Keep h0 T3.heap [] := K2.trans Kc3 (allS (Or.inr G_t) all0)
  refine g_aloadN X3 hx 32 (hb hby d9_31) rfl rfl rfl ?_
  refine g_aret X3 hx rfl rfl rfl hret hlk (hb hby d9_32) (by decide) (by decide) ?_
  exact ⟨t, rfl, N3, Z_t, G_t, K3, F_t.congr (f' := fun i => .int (if i < n then g i else 0)) (fun i hi => own_cp hi)⟩
/-- the sink's fields -/
def Snk (Z : State) (h : Heap) (b t : Addr) (sz c : Int32) : Prop := Exa Z h b "com/example/runnel/runnel/MemorySink" ∧ Fld Z h b "com/example/runnel/runnel/MemorySink" "bytes" "[B" (.ref t) ∧ Fld Z h b "com/example/runnel/runnel/MemorySink" "size" "I" (.int sz) ∧ Fld Z h b "com/example/runnel/runnel/MemorySink" "closed" "Z" (.int c)
def Q1 (Z : State) (b : Addr) (h0 : Heap) (n0 : Nat) (v : Option Value) (h : Heap) (L : List Loc) : Prop :=
  v = none ∧ Fr n0 L ∧ Keep h0 h [b] ∧ ∃ t, n0 ≤ t ∧ h0.size ≤ t ∧ Snk Z h b t 0 0 ∧ AV Z h t .byte 256 (fun _ => .int 0)
set_option maxRecDepth 65536 in
set_option maxHeartbeats 40000000 in
theorem rm2 (l : Launch) (Z : State) (a0 : Array Value) (hw : ∀ d ∈ tables_1, d.before a0 Z = true) (ws : List Jvm.Cond) (b : Addr) (h0 : Heap) (n0 : Nat) (Z0 : n0 ≤ h0.size) (E_b : Exa Z h0 b "com/example/runnel/runnel/MemorySink") (Z_b : n0 ≤ b) (f_b_bytes : Fld Z h0 b "com/example/runnel/runnel/MemorySink" "bytes" "[B" .null) (f_b_size : Fld Z h0 b "com/example/runnel/runnel/MemorySink" "size" "I" (.int 0)) (f_b_closed : Fld Z h0 b "com/example/runnel/runnel/MemorySink" "closed" "Z" (.int 0)) :
    MetFree l (⟨"com/example/runnel/runnel/MemorySink", "<init>", "()V"⟩ : MethodName) (head1 (Jvm.Cond.code (⟨"com/example/runnel/runnel/MemorySink", "<init>", "()V"⟩ : MethodName) prog_31_method_1_code 1 none :: ws) ({ frames := 1, cells := 1, slots := 256, locals := 12 } : Room)) (fun av_ U_ => av_ = #[(.ref b)] ∧ Z.Warmed39 U_.vm ∧ U_.heap = h0) (fun _ _ _ _ _ => True) (fun _ U_ o_ W_ => ∃ v_ L_, o_ = .returned v_ ∧ Q1 Z b h0 n0 v_ W_.heap L_ ∧ FrameEnd U_ o_ W_ L_ ({ frames := 1, cells := 1, slots := 256, locals := 12 } : Room).cells ({ frames := 1, cells := 1, slots := 256, locals := 12 } : Room).slots) := by
  refine own_start pn_6 ?_
  intro p e s m below meth c T0 X0 hx hby hml hown hnm hret hlk hZ e0
  have N0 := Fr.nil n0
  have M0 := Z0
  have K0 : Keep h0 h0 [b] := Keep.refl _ _
  refine Go.cast (show entryFrame m #[(.ref b)] 1 = (mkF m 0 #[.val (.ref b)] []) from (by first | (simp [entryFrame, mkF, argsToLocals, Value.category, maxLocals]; done) | rfl)) ?_
  refine g_aloadN X0 hx 1 (hb hby d2_0) rfl rfl rfl ?_
  refine g_initO X0 hx hZ 4 0 hown (hw _ (List.mem_of_getElem? (i := 11) rfl)) (hw _ (List.mem_of_getElem? (i := 12) rfl)) (hw _ (List.mem_of_getElem? (i := 13) rfl)) e0 (by rw [hml]; rfl) (hb hby d2_1) (by decide) (Nat.le_of_eq rfl) (by decide) rfl ?_
  intro T1 X1 e1
  have N1 := N0
  have M1 := M0
  have K1 := K0
  refine g_aloadN X1 hx 5 (hb hby d2_4) rfl rfl rfl ?_
  refine g_sipush X1 hx 8 (hb hby d2_5) (256 : Int32) (by decide) rfl ?_
  refine g_newarr X1 hx hZ 10 (hw _ (List.mem_of_getElem? (i := 4) rfl)) e1 (hb hby d2_8) (256) (by decide) 256 (by decide) (by decide) (by decide) (by decide) rfl ?_
  intro T2 t X2 E2 g_t F_t
  have e2 : T2.heap = T2.heap := rfl
  have N2 := N1
  have Z_t : n0 ≤ t := by rw [g_t]; exact M1
  have M2 : n0 ≤ T2.heap.size := Nat.le_trans M1 E2.1
  have ne_b_t : b ≠ t := by rw [g_t]; exact Nat.ne_of_lt E_b.lt
  replace E_b := E_b.ext E2
  replace f_b_bytes := f_b_bytes.ext E2
  replace f_b_size := f_b_size.ext E2
  replace f_b_closed := f_b_closed.ext E2
  have G_t : h0.size ≤ t := by rw [g_t]; exact K1.1
  have K2 : Keep h0 T2.heap [b] := K1.ext E2
  refine g_putF X2 hx hZ 13 (ty := (.array .byte)) hown (hw _ (List.mem_of_getElem? (i := 14) rfl)) e2 f_b_bytes E_b (Or.inl (hw _ (List.mem_of_getElem? (i := 15) rfl))) (hw _ (List.mem_of_getElem? (i := 6) rfl)) (by decide) rfl rfl (hb hby d2_10) rfl ?_
  intro T3 X3 W3
  have e3 : T3.heap = T3.heap := rfl
  have N3 := Fr.snoc X3 N2 Z_b
  have M3 : n0 ≤ T3.heap.size := by rw [W3.size]; exact M2
  replace E_b := E_b.wr W3
  replace f_b_bytes := f_b_bytes.same W3
  replace f_b_size := f_b_size.other W3 (Or.inr (slot_ne (t := .int) (t' := (.array .byte)) (show Laid Z a0 "com/example/runnel/runnel/MemorySink" "com/example/runnel/runnel/MemorySink" "size" "I" from Or.inl (hw _ (List.mem_of_getElem? (i := 32) rfl))) (show Laid Z a0 "com/example/runnel/runnel/MemorySink" "com/example/runnel/runnel/MemorySink" "bytes" "[B" from Or.inl (hw _ (List.mem_of_getElem? (i := 15) rfl))) (by decide) (by decide) (by decide)))
  replace f_b_closed := f_b_closed.other W3 (Or.inr (slot_ne (t := .boolean) (t' := (.array .byte)) (show Laid Z a0 "com/example/runnel/runnel/MemorySink" "com/example/runnel/runnel/MemorySink" "closed" "Z" from Or.inl (hw _ (List.mem_of_getElem? (i := 30) rfl))) (show Laid Z a0 "com/example/runnel/runnel/MemorySink" "com/example/runnel/runnel/MemorySink" "bytes" "[B" from Or.inl (hw _ (List.mem_of_getElem? (i := 15) rfl))) (by decide) (by decide) (by decide)))
  replace F_t := F_t.other W3 (Ne.symm ne_b_t)
  have K3 : Keep h0 T3.heap [b] := K2.wr W3 (Or.inl (List.mem_of_getElem? (i := 0) rfl))
  refine g_ret0 X3 hx hret hlk (hb hby d2_13) (by decide) (by decide) ?_
  exact ⟨rfl, N3, K3, t, Z_t, G_t, ⟨E_b, f_b_bytes, f_b_size, f_b_closed⟩, F_t⟩
def QG (Z : State) (b : Addr) (sz c : Int32) (g : Nat → Int32) (h0 : Heap) (n0 : Nat) (v : Option Value) (h : Heap) (L : List Loc) : Prop :=
  v = none ∧ Fr n0 L ∧ Keep h0 h [b] ∧ ∃ t, n0 ≤ t ∧ h0.size ≤ t ∧ Snk Z h b t sz c ∧ AV Z h t .byte 512 (fun i => .int (if i < 256 then g i else 0))
set_option maxRecDepth 65536 in
set_option maxHeartbeats 40000000 in
theorem rm7 (l : Launch) (Z : State) (a0 : Array Value) (hw : ∀ d ∈ tables_1, d.before a0 Z = true) (ws : List Jvm.Cond) (b t : Addr) (sz c_ xx : Int32) (sN : Nat) (g : Nat → Int32) (h0 : Heap) (n0 : Nat) (Z0 : n0 ≤ h0.size) (E_b : Exa Z h0 b "com/example/runnel/runnel/MemorySink") (f_b_bytes : Fld Z h0 b "com/example/runnel/runnel/MemorySink" "bytes" "[B" (.ref t)) (f_b_size : Fld Z h0 b "com/example/runnel/runnel/MemorySink" "size" "I" (.int sz)) (f_b_closed : Fld Z h0 b "com/example/runnel/runnel/MemorySink" "closed" "Z" (.int c_)) (F_t : AV Z h0 t .byte 256 (fun i => .int (g i))) (hg : By g) (hsz : sz.toInt = sN) (hs4 : sN ≤ 4) (hx_ : xx.toInt = 300) (Z_b : n0 ≤ b) (ne_b_t : b ≠ t) :
    MetFree l (⟨"com/example/runnel/runnel/MemorySink", "grow", "(I)V"⟩ : MethodName) (head1 (Jvm.Cond.code (⟨"com/example/runnel/runnel/MemorySink", "grow", "(I)V"⟩ : MethodName) prog_31_method_3_code 4 none :: ws) ({ frames := 2, cells := 1, slots := 512, locals := 80 } : Room)) (fun av_ U_ => av_ = #[(.ref b), (.int xx)] ∧ Z.Warmed39 U_.vm ∧ U_.heap = h0) (fun _ _ _ _ _ => True) (fun _ U_ o_ W_ => ∃ v_ L_, o_ = .returned v_ ∧ QG Z b sz c_ g h0 n0 v_ W_.heap L_ ∧ FrameEnd U_ o_ W_ L_ ({ frames := 2, cells := 1, slots := 512, locals := 80 } : Room).cells ({ frames := 2, cells := 1, slots := 512, locals := 80 } : Room).slots) := by
  refine own_start pn_7 ?_
  intro p e s m below meth c T0 X0 hx hby hml hown hnm hret hlk hZ e0
  have N0 := Fr.nil n0
  have M0 := Z0
  have K0 : Keep h0 h0 [b] := Keep.refl _ _
  refine Go.cast (show entryFrame m #[(.ref b), (.int xx)] 4 = (mkF m 0 #[.val (.ref b), .val (.int xx), .unset, .unset] []) from (by first | (simp [entryFrame, mkF, argsToLocals, Value.category, maxLocals]; done) | rfl)) ?_
  refine g_iloadN X0 hx 1 (hb hby d7_0) rfl rfl ?_
  refine g_ldcI X0 hx hZ (2147483639 : Int32) hown (hw _ (List.mem_of_getElem? (i := 41) rfl)) 3 (hb hby d7_1) rfl ?_
  refine g_aloadN X0 hx 4 (hb hby d7_3) rfl rfl rfl ?_
  refine g_getF X0 hx hZ 7 hown (hw _ (List.mem_of_getElem? (i := 31) rfl)) e0 f_b_size (hb hby d7_4) rfl ?_
  intro T1 X1 e1
  have N1 := N0
  have M1 := M0
  have K1 := K0
  refine g_isub X1 hx 8 (hb hby d7_7) rfl ?_
  refine g_icT X1 hx 29 (hb hby d7_8) (Jvm.Free.XT.ii_le_t (show ¬ (((2147483639 : Int32) - sz) < xx) from (fun q => by have z : (2147483639 : Int32).toInt = 2147483639 := (by decide); have u := c_isub 2147483639 sz; have v := rng32 ((2147483639 : Int32) - sz); rw [Int32.lt_iff_toInt_lt, hx_] at q; omega))) (by decide) (by decide) ?_
  refine g_aloadN X1 hx 30 (hb hby d7_29) rfl rfl rfl ?_
  refine g_getF X1 hx hZ 33 hown (hw _ (List.mem_of_getElem? (i := 31) rfl)) e1 f_b_size (hb hby d7_30) rfl ?_
  intro T2 X2 e2
  have N2 := N1
  have M2 := M1
  have K2 := K1
  refine g_iloadN X2 hx 34 (hb hby d7_33) rfl rfl ?_
  refine g_iadd X2 hx 35 (hb hby d7_34) rfl ?_
  refine g_istoreN X2 hx 36 (hb hby d7_35) #[.val (.ref b), .val (.int xx), .val (.int (sz + xx)), .unset] rfl rfl ?_
  generalize h_need : (sz + xx) = need
  have hneed : need.toInt = ((sN + 300 : Nat) : Int) := by rw [← h_need]; exact own_plus hsz hx_ (by omega)
  refine g_aloadN X2 hx 37 (hb hby d7_36) rfl rfl rfl ?_
  refine g_getF X2 hx hZ 40 hown (hw _ (List.mem_of_getElem? (i := 14) rfl)) e2 f_b_bytes (hb hby d7_37) rfl ?_
  intro T3 X3 e3
  have N3 := N2
  have M3 := M2
  have K3 := K2
  refine g_arrlen X3 hx hZ 41 e3 F_t (256 : Int32) (by decide) (hb hby d7_40) rfl ?_
  refine g_ldcI X3 hx hZ (1073741819 : Int32) hown (hw _ (List.mem_of_getElem? (i := 42) rfl)) 43 (hb hby d7_41) rfl ?_
  refine g_icT X3 hx 51 (hb hby d7_43) (by decide) (by decide) (by decide) ?_
  refine g_aloadN X3 hx 52 (hb hby d7_51) rfl rfl rfl ?_
  refine g_getF X3 hx hZ 55 hown (hw _ (List.mem_of_getElem? (i := 14) rfl)) e3 f_b_bytes (hb hby d7_52) rfl ?_
  intro T4 X4 e4
  have N4 := N3
  have M4 := M3
  have K4 := K3
  refine g_arrlen X4 hx hZ 56 e4 F_t (256 : Int32) (by decide) (hb hby d7_55) rfl ?_
  refine g_iconst X4 hx 57 (hb hby d7_56) (2 : Int32) (by decide) rfl ?_
  refine g_imul X4 hx 58 (hb hby d7_57) rfl ?_
  rw [show ((256 : Int32) * (2 : Int32)) = (512 : Int32) from by decide]
  refine g_istoreN X4 hx 59 (hb hby d7_58) #[.val (.ref b), .val (.int xx), .val (.int need), .val (.int (512 : Int32))] rfl rfl ?_
  refine g_aloadN X4 hx 60 (hb hby d7_59) rfl rfl rfl ?_
  refine g_aloadN X4 hx 61 (hb hby d7_60) rfl rfl rfl ?_
  refine g_getF X4 hx hZ 64 hown (hw _ (List.mem_of_getElem? (i := 14) rfl)) e4 f_b_bytes (hb hby d7_61) rfl ?_
  intro T5 X5 e5
  have N5 := N4
  have M5 := M4
  have K5 := K4
  refine g_iloadN X5 hx 65 (hb hby d7_64) rfl rfl ?_
  refine g_iloadN X5 hx 66 (hb hby d7_65) rfl rfl ?_
  refine g_callS X5 hx hZ 69 [(.int need), (.int (512 : Int32))] [(.ref t), (.ref b)] 2 hown (hw _ (List.mem_of_getElem? (i := 43) rfl)) (hw _ (List.mem_of_getElem? (i := 44) rfl)) (hw _ (List.mem_of_getElem? (i := 45) rfl)) (hw _ (List.mem_of_getElem? (i := 46) rfl)) (by decide) e5 (rm8 l Z a0 hw [] need (512 : Int32) h0 n0 M5) (by decide) (by decide) (by decide) (by decide) (by rw [hml]; rfl) rfl pd_1 rfl (Nat.le_of_eq rfl) (hb hby d7_66) rfl ?_
  intro v6 T6 L6 X6 q6
  obtain ⟨rfl, Nq6, e6⟩ := q6
  have N6 := Fr.app N5 Nq6
  have M6 := M5
  have K6 := K5
  rw [show fMax need (512 : Int32) = 512 from if_pos (by rw [Int32.lt_iff_toInt_lt, hneed]; have z : (512 : Int32).toInt = 512 := (by decide); omega)]
  refine g_callS X6 hx hZ 72 [(.ref t), (.int (512 : Int32))] [(.ref b)] 1 hown (hw _ (List.mem_of_getElem? (i := 47) rfl)) (hw _ (List.mem_of_getElem? (i := 48) rfl)) (hw _ (List.mem_of_getElem? (i := 49) rfl)) (hw _ (List.mem_of_getElem? (i := 50) rfl)) (by decide) e6 (rm9 l Z a0 hw [] t (512 : Int32) (256 : Int32) 256 512 g h0 n0 M6 (by decide) (by decide) (by decide) (by decide) (by decide) hg F_t) (by decide) (by decide) (by decide) (by decide) (by rw [hml]; rfl) rfl pd_2 rfl (Nat.le_of_eq rfl) (hb hby d7_69) rfl ?_
  intro v7 T7 L7 X7 q7
  obtain ⟨t2, rfl, Nq7, Z_t2, G0_t2, Kc7, F_t2⟩ := q7
  have N7 := Fr.app N6 Nq7
  have M7 : n0 ≤ T7.heap.size := Nat.le_trans M6 Kc7.1
  have e7 : T7.heap = T7.heap := rfl
  have ne_b_t2 : b ≠ t2 := Nat.ne_of_lt (Nat.lt_of_lt_of_le E_b.lt G0_t2)
  have ne_t_t2 : t ≠ t2 := Nat.ne_of_lt (Nat.lt_of_lt_of_le F_t.lt G0_t2)
  have G_t2 : h0.size ≤ t2 := Nat.le_trans K6.1 G0_t2
  replace E_b := E_b.keep Kc7
  replace f_b_bytes := f_b_bytes.keep Kc7 nin0
  replace f_b_size := f_b_size.keep Kc7 nin0
  replace f_b_closed := f_b_closed.keep Kc7 nin0
  replace F_t := F_t.keep Kc7 nin0
  have K7 : Keep h0 T7.heap [b] := K6.trans Kc7 all0
  refine g_putF X7 hx hZ 75 (ty := (.array .byte)) hown (hw _ (List.mem_of_getElem? (i := 14) rfl)) e7 f_b_bytes E_b (Or.inl (hw _ (List.mem_of_getElem? (i := 15) rfl))) (hw _ (List.mem_of_getElem? (i := 6) rfl)) (by decide) rfl rfl (hb hby d7_72) rfl ?_
  intro T8 X8 W8
  have e8 : T8.heap = T8.heap := rfl
  have N8 := Fr.snoc X8 N7 Z_b
  have M8 : n0 ≤ T8.heap.size := by rw [W8.size]; exact M7
  replace E_b := E_b.wr W8
  replace f_b_bytes := f_b_bytes.same W8
  replace f_b_size := f_b_size.other W8 (Or.inr (slot_ne (t := .int) (t' := (.array .byte)) (show Laid Z a0 "com/example/runnel/runnel/MemorySink" "com/example/runnel/runnel/MemorySink" "size" "I" from Or.inl (hw _ (List.mem_of_getElem? (i := 32) rfl))) (show Laid Z a0 "com/example/runnel/runnel/MemorySink" "com/example/runnel/runnel/MemorySink" "bytes" "[B" from Or.inl (hw _ (List.mem_of_getElem? (i := 15) rfl))) (by decide) (by decide) (by decide)))
  replace f_b_closed := f_b_closed.other W8 (Or.inr (slot_ne (t := .boolean) (t' := (.array .byte)) (show Laid Z a0 "com/example/runnel/runnel/MemorySink" "com/example/runnel/runnel/MemorySink" "closed" "Z" from Or.inl (hw _ (List.mem_of_getElem? (i := 30) rfl))) (show Laid Z a0 "com/example/runnel/runnel/MemorySink" "com/example/runnel/runnel/MemorySink" "bytes" "[B" from Or.inl (hw _ (List.mem_of_getElem? (i := 15) rfl))) (by decide) (by decide) (by decide)))
  replace F_t := F_t.other W8 (Ne.symm ne_b_t)
  replace F_t2 := F_t2.other W8 (Ne.symm ne_b_t2)
  have K8 : Keep h0 T8.heap [b] := K7.wr W8 (Or.inl (List.mem_of_getElem? (i := 0) rfl))
  refine g_ret0 X8 hx hret hlk (hb hby d7_75) (by decide) (by decide) ?_
  exact ⟨rfl, N8, K8, t2, Z_t2, G_t2, ⟨E_b, f_b_bytes, f_b_size, f_b_closed⟩, F_t2⟩
def QW (Z : State) (b t : Addr) (s k o : Nat) (g gs : Nat → Int32) (h0 : Heap) (n0 : Nat) (v : Option Value) (h : Heap) (L : List Loc) : Prop :=
  v = none ∧ Fr n0 L ∧ Keep h0 h [b, t] ∧ ∃ (t' : Addr) (cap' : Nat) (sz' : Int32) (g' : Nat → Int32), n0 ≤ t' ∧ (t' = t ∨ h0.size ≤ t') ∧ b ≠ t' ∧ Snk Z h b t' sz' 0 ∧ AV Z h t' .byte cap' (fun i => .int (g' i)) ∧ By g' ∧ sz'.toInt = ((s + k : Nat) : Int) ∧ ((cap' = 256 ∧ s + k ≤ 8) ∨ (cap' = 512 ∧ s + k ≤ 308)) ∧ (∀ i, i < s → g' i = g i) ∧ (∀ i, i < k → g' (s + i) = gs (o + i))
theorem own_by {g gs : Nat → Int32} (hg : By g) (hs : By gs) {P : Nat → Prop} [DecidablePred P] {e : Nat → Nat} : By (fun i => if P i then gs (e i) else g i) := fun i => by
  by_cases q : P i
  · simp only [q, if_true]; exact hs _
  · simp only [q, if_false]; exact hg i
theorem own_by0 {g : Nat → Int32} (hg : By g) {P : Nat → Prop} [DecidablePred P] : By (fun i => if P i then g i else 0) := fun i => by
  by_cases q : P i
  · simp only [q, if_true]; exact hg _
  · simp only [q, if_false]; rfl
theorem own_ite {P : Prop} [Decidable P] {a b : Int32} : (if P then Value.int a else Value.int b) = .int (if P then a else b) := by split <;> rfl
set_option maxRecDepth 65536 in
set_option maxHeartbeats 40000000 in
theorem rm4 (l : Launch) (Z : State) (a0 : Array Value) (hw : ∀ d ∈ tables_1, d.before a0 Z = true) (ws : List Jvm.Cond) (b t src : Addr) (off len sz nz : Int32) (o kN sN n cap : Nat) (g gs : Nat → Int32) (h0 : Heap) (n0 : Nat) (Z0 : n0 ≤ h0.size) (E_b : Exa Z h0 b "com/example/runnel/runnel/MemorySink") (f_b_bytes : Fld Z h0 b "com/example/runnel/runnel/MemorySink" "bytes" "[B" (.ref t)) (f_b_size : Fld Z h0 b "com/example/runnel/runnel/MemorySink" "size" "I" (.int sz)) (f_b_closed : Fld Z h0 b "com/example/runnel/runnel/MemorySink" "closed" "Z" (.int 0)) (F_t : AV Z h0 t .byte cap (fun i => .int (g i))) (hg : By g) (F_src : AV Z h0 src .byte n (fun i => .int (gs i))) (hgs : By gs) (hsz : sz.toInt = sN) (hoff : off.toInt = o) (hk : len.toInt = kN) (hnz : nz.toInt = n) (hn3 : n ≤ 300) (hok : o + kN ≤ n) (hcap : (cap = 256 ∧ sN + kN ≤ 8) ∨ (cap = 256 ∧ sN ≤ 4 ∧ kN = 300) ∨ (cap = 512 ∧ sN + kN ≤ 308)) (Z_b : n0 ≤ b) (Z_t : n0 ≤ t) (ne_src_b : src ≠ b) (ne_src_t : src ≠ t) (ne_b_t : b ≠ t) :
    MetFree l (⟨"com/example/runnel/runnel/MemorySink", "write", "([BII)V"⟩ : MethodName) (head1 (Jvm.Cond.code (⟨"com/example/runnel/runnel/MemorySink", "write", "([BII)V"⟩ : MethodName) prog_31_method_2_code 4 none :: ws) ({ frames := 3, cells := 1, slots := 512, locals := 95 } : Room)) (fun av_ U_ => av_ = #[(.ref b), (.ref src), (.int off), (.int len)] ∧ Z.Warmed39 U_.vm ∧ U_.heap = h0) (fun _ _ _ _ _ => True) (fun _ U_ o_ W_ => ∃ v_ L_, o_ = .returned v_ ∧ QW Z b t sN kN o g gs h0 n0 v_ W_.heap L_ ∧ FrameEnd U_ o_ W_ L_ ({ frames := 3, cells := 1, slots := 512, locals := 95 } : Room).cells ({ frames := 3, cells := 1, slots := 512, locals := 95 } : Room).slots) := by
  refine own_start pn_8 ?_
  intro p e s m below meth c T0 X0 hx hby hml hown hnm hret hlk hZ e0
  have N0 := Fr.nil n0
  have M0 := Z0
  have K0 : Keep h0 h0 [b, t] := Keep.refl _ _
  refine Go.cast (show entryFrame m #[(.ref b), (.ref src), (.int off), (.int len)] 4 = (mkF m 0 #[.val (.ref b), .val (.ref src), .val (.int off), .val (.int len)] []) from (by first | (simp [entryFrame, mkF, argsToLocals, Value.category, maxLocals]; done) | rfl)) ?_
  rcases hcap with ⟨rfl, hs8⟩ | ⟨rfl, hs8, hk300⟩ | ⟨rfl, hs8⟩
  · have hdif : ((256 : Int32) - sz).toInt = ((256 - sN : Nat) : Int) := own_minus (by decide) hsz (by omega) (by omega)
    refine g_iloadN X0 hx 1 (hb hby d4_0) rfl rfl ?_
    refine g_iloadN X0 hx 2 (hb hby d4_1) rfl rfl ?_
    refine g_aloadN X0 hx 3 (hb hby d4_2) rfl rfl rfl ?_
    refine g_arrlen X0 hx hZ 4 e0 F_src nz hnz (hb hby d4_3) rfl ?_
    refine g_callS X0 hx hZ 7 [(.int off), (.int len), (.int nz)] [] 0 hown (hw _ (List.mem_of_getElem? (i := 21) rfl)) (hw _ (List.mem_of_getElem? (i := 22) rfl)) (hw _ (List.mem_of_getElem? (i := 23) rfl)) (hw _ (List.mem_of_getElem? (i := 24) rfl)) (by decide) e0 (rm5 l Z a0 hw [] off len nz o kN n h0 n0 M0 hoff hk hnz hok (by omega)) (by decide) (by decide) (by decide) (by decide) (by rw [hml]; rfl) rfl pd_3 rfl (Nat.le_of_eq rfl) (hb hby d4_4) rfl ?_
    intro v1 T1 L1 X1 q1
    obtain ⟨rfl, Nq1, e1⟩ := q1
    have N1 := Fr.app N0 Nq1
    have M1 := M0
    have K1 := K0
    refine g_pop X1 hx 8 (hb hby d4_7) rfl rfl ?_
    refine g_aloadN X1 hx 9 (hb hby d4_8) rfl rfl rfl ?_
    refine g_getF X1 hx hZ 12 hown (hw _ (List.mem_of_getElem? (i := 29) rfl)) e1 f_b_closed (hb hby d4_9) rfl ?_
    intro T2 X2 e2
    have N2 := N1
    have M2 := M1
    have K2 := K1
    refine g_ifT X2 hx 25 (hb hby d4_12) (by decide) (by decide) (by decide) ?_
    refine g_iloadN X2 hx 26 (hb hby d4_25) rfl rfl ?_
    refine g_aloadN X2 hx 27 (hb hby d4_26) rfl rfl rfl ?_
    refine g_getF X2 hx hZ 30 hown (hw _ (List.mem_of_getElem? (i := 14) rfl)) e2 f_b_bytes (hb hby d4_27) rfl ?_
    intro T3 X3 e3
    have N3 := N2
    have M3 := M2
    have K3 := K2
    refine g_arrlen X3 hx hZ 31 e3 F_t (256 : Int32) (by decide) (hb hby d4_30) rfl ?_
    refine g_aloadN X3 hx 32 (hb hby d4_31) rfl rfl rfl ?_
    refine g_getF X3 hx hZ 35 hown (hw _ (List.mem_of_getElem? (i := 31) rfl)) e3 f_b_size (hb hby d4_32) rfl ?_
    intro T4 X4 e4
    have N4 := N3
    have M4 := M3
    have K4 := K3
    refine g_isub X4 hx 36 (hb hby d4_35) rfl ?_
    refine g_icT X4 hx 44 (hb hby d4_36) (Jvm.Free.XT.ii_le_t (show ¬ (((256 : Int32) - sz) < len) from (fun q => by have u := (own_lt hdif hk).mp q; omega))) (by decide) (by decide) ?_
    refine g_aloadN X4 hx 45 (hb hby d4_44) rfl rfl rfl ?_
    refine g_iloadN X4 hx 46 (hb hby d4_45) rfl rfl ?_
    refine g_aloadN X4 hx 47 (hb hby d4_46) rfl rfl rfl ?_
    refine g_getF X4 hx hZ 50 hown (hw _ (List.mem_of_getElem? (i := 14) rfl)) e4 f_b_bytes (hb hby d4_47) rfl ?_
    intro T5 X5 e5
    have N5 := N4
    have M5 := M4
    have K5 := K4
    refine g_aloadN X5 hx 51 (hb hby d4_50) rfl rfl rfl ?_
    refine g_getF X5 hx hZ 54 hown (hw _ (List.mem_of_getElem? (i := 31) rfl)) e5 f_b_size (hb hby d4_51) rfl ?_
    intro T6 X6 e6
    have N6 := N5
    have M6 := M5
    have K6 := K5
    refine g_iloadN X6 hx 55 (hb hby d4_54) rfl rfl ?_
    refine g_copy X6 hx hZ 58 0 (o) (sN) (kN) hown (hw _ (List.mem_of_getElem? (i := 33) rfl)) (hw _ (List.mem_of_getElem? (i := 36) rfl)) (hw _ (List.mem_of_getElem? (i := 34) rfl)) (hw _ (List.mem_of_getElem? (i := 35) rfl)) e6 F_src F_t rfl (own_fit hgs) (own_fit hg) (by omega) (by decide) hoff hsz hk hok (by omega) N6 Z_t (by rw [hml]; rfl) (hb hby d4_55) (by decide) (Nat.le_of_eq rfl) (by decide) rfl ?_
    intro T7 L7 X7 N7 Kc7 G7
    have e7 : T7.heap = T7.heap := rfl
    have M7 : n0 ≤ T7.heap.size := Nat.le_trans M6 Kc7.1
    replace F_src := F_src.keep Kc7 (ninS ne_src_t nin0)
    replace E_b := E_b.keep Kc7
    replace f_b_bytes := f_b_bytes.keep Kc7 (ninS ne_b_t nin0)
    replace f_b_size := f_b_size.keep Kc7 (ninS ne_b_t nin0)
    replace f_b_closed := f_b_closed.keep Kc7 (ninS ne_b_t nin0)
    replace F_t := G7
    have K7 : Keep h0 T7.heap [b, t] := K6.trans Kc7 (allS (Or.inl (List.mem_of_getElem? (i := 1) rfl)) all0)
    refine g_aloadN X7 hx 59 (hb hby d4_58) rfl rfl rfl ?_
    refine g_dup X7 hx 60 (hb hby d4_59) rfl rfl ?_
    refine g_getF X7 hx hZ 63 hown (hw _ (List.mem_of_getElem? (i := 31) rfl)) e7 f_b_size (hb hby d4_60) rfl ?_
    intro T8 X8 e8
    have N8 := N7
    have M8 := M7
    have K8 := K7
    refine g_iloadN X8 hx 64 (hb hby d4_63) rfl rfl ?_
    refine g_iadd X8 hx 65 (hb hby d4_64) rfl ?_
    refine g_putF X8 hx hZ 68 (ty := .int) hown (hw _ (List.mem_of_getElem? (i := 31) rfl)) e8 f_b_size E_b (Or.inl (hw _ (List.mem_of_getElem? (i := 32) rfl))) (hw _ (List.mem_of_getElem? (i := 6) rfl)) (by decide) rfl rfl (hb hby d4_65) rfl ?_
    intro T9 X9 W9
    have e9 : T9.heap = T9.heap := rfl
    have N9 := Fr.snoc X9 N8 Z_b
    have M9 : n0 ≤ T9.heap.size := by rw [W9.size]; exact M8
    replace F_src := F_src.other W9 ne_src_b
    replace E_b := E_b.wr W9
    replace f_b_bytes := f_b_bytes.other W9 (Or.inr (slot_ne (t := (.array .byte)) (t' := .int) (show Laid Z a0 "com/example/runnel/runnel/MemorySink" "com/example/runnel/runnel/MemorySink" "bytes" "[B" from Or.inl (hw _ (List.mem_of_getElem? (i := 15) rfl))) (show Laid Z a0 "com/example/runnel/runnel/MemorySink" "com/example/runnel/runnel/MemorySink" "size" "I" from Or.inl (hw _ (List.mem_of_getElem? (i := 32) rfl))) (by decide) (by decide) (by decide)))
    replace f_b_size := f_b_size.same W9
    replace f_b_closed := f_b_closed.other W9 (Or.inr (slot_ne (t := .boolean) (t' := .int) (show Laid Z a0 "com/example/runnel/runnel/MemorySink" "com/example/runnel/runnel/MemorySink" "closed" "Z" from Or.inl (hw _ (List.mem_of_getElem? (i := 30) rfl))) (show Laid Z a0 "com/example/runnel/runnel/MemorySink" "com/example/runnel/runnel/MemorySink" "size" "I" from Or.inl (hw _ (List.mem_of_getElem? (i := 32) rfl))) (by decide) (by decide) (by decide)))
    replace F_t := F_t.other W9 (Ne.symm ne_b_t)
    have K9 : Keep h0 T9.heap [b, t] := K8.wr W9 (Or.inl (List.mem_of_getElem? (i := 0) rfl))
    refine g_ret0 X9 hx hret hlk (hb hby d4_68) (by decide) (by decide) ?_
    refine ⟨rfl, N9, K9, t, 256, sz + len, (fun i => if sN ≤ i ∧ i < sN + kN then gs (o + (i - sN)) else g i), Z_t, Or.inl rfl, ne_b_t, ⟨E_b, f_b_bytes, f_b_size, f_b_closed⟩, F_t.congr (fun i hi => own_ite), own_by hg hgs, own_plus hsz hk (by omega), Or.inl ⟨rfl, by omega⟩, fun i hi => ?_, fun i hi => ?_⟩
    · dsimp only; rw [if_neg (by omega)]
    · dsimp only; rw [if_pos (by omega)]; congr 1; omega
  · have hdif : ((256 : Int32) - sz).toInt = ((256 - sN : Nat) : Int) := own_minus (by decide) hsz (by omega) (by omega)
    refine g_iloadN X0 hx 1 (hb hby d4_0) rfl rfl ?_
    refine g_iloadN X0 hx 2 (hb hby d4_1) rfl rfl ?_
    refine g_aloadN X0 hx 3 (hb hby d4_2) rfl rfl rfl ?_
    refine g_arrlen X0 hx hZ 4 e0 F_src nz hnz (hb hby d4_3) rfl ?_
    refine g_callS X0 hx hZ 7 [(.int off), (.int len), (.int nz)] [] 0 hown (hw _ (List.mem_of_getElem? (i := 21) rfl)) (hw _ (List.mem_of_getElem? (i := 22) rfl)) (hw _ (List.mem_of_getElem? (i := 23) rfl)) (hw _ (List.mem_of_getElem? (i := 24) rfl)) (by decide) e0 (rm5 l Z a0 hw [] off len nz o kN n h0 n0 M0 hoff hk hnz hok (by omega)) (by decide) (by decide) (by decide) (by decide) (by rw [hml]; rfl) rfl pd_3 rfl (Nat.le_of_eq rfl) (hb hby d4_4) rfl ?_
    intro v10 T10 L10 X10 q10
    obtain ⟨rfl, Nq10, e10⟩ := q10
    have N10 := Fr.app N0 Nq10
    have M10 := M0
    have K10 := K0
    refine g_pop X10 hx 8 (hb hby d4_7) rfl rfl ?_
    refine g_aloadN X10 hx 9 (hb hby d4_8) rfl rfl rfl ?_
    refine g_getF X10 hx hZ 12 hown (hw _ (List.mem_of_getElem? (i := 29) rfl)) e10 f_b_closed (hb hby d4_9) rfl ?_
    intro T11 X11 e11
    have N11 := N10
    have M11 := M10
    have K11 := K10
    refine g_ifT X11 hx 25 (hb hby d4_12) (by decide) (by decide) (by decide) ?_
    refine g_iloadN X11 hx 26 (hb hby d4_25) rfl rfl ?_
    refine g_aloadN X11 hx 27 (hb hby d4_26) rfl rfl rfl ?_
    refine g_getF X11 hx hZ 30 hown (hw _ (List.mem_of_getElem? (i := 14) rfl)) e11 f_b_bytes (hb hby d4_27) rfl ?_
    intro T12 X12 e12
    have N12 := N11
    have M12 := M11
    have K12 := K11
    refine g_arrlen X12 hx hZ 31 e12 F_t (256 : Int32) (by decide) (hb hby d4_30) rfl ?_
    refine g_aloadN X12 hx 32 (hb hby d4_31) rfl rfl rfl ?_
    refine g_getF X12 hx hZ 35 hown (hw _ (List.mem_of_getElem? (i := 31) rfl)) e12 f_b_size (hb hby d4_32) rfl ?_
    intro T13 X13 e13
    have N13 := N12
    have M13 := M12
    have K13 := K12
    refine g_isub X13 hx 36 (hb hby d4_35) rfl ?_
    refine g_icF X13 hx 39 (hb hby d4_36) (Jvm.Free.XT.ii_le_f (show ((256 : Int32) - sz) < len from ((own_lt hdif hk).mpr (by omega)))) rfl ?_
    refine g_aloadN X13 hx 40 (hb hby d4_39) rfl rfl rfl ?_
    refine g_iloadN X13 hx 41 (hb hby d4_40) rfl rfl ?_
    refine g_private X13 hx hZ 44 b [(.int len)] [] 0 E_b hown (hw _ (List.mem_of_getElem? (i := 37) rfl)) (hw _ (List.mem_of_getElem? (i := 39) rfl)) (hw _ (List.mem_of_getElem? (i := 19) rfl)) rfl (hw _ (List.mem_of_getElem? (i := 38) rfl)) (hw _ (List.mem_of_getElem? (i := 7) rfl)) (hw _ (List.mem_of_getElem? (i := 40) rfl)) (by decide) e13 (rm7 l Z a0 hw [] b t sz 0 len sN g h0 n0 M13 E_b f_b_bytes f_b_size f_b_closed F_t hg hsz (by omega) (by rw [hk, hk300]; rfl) Z_b ne_b_t) (by decide) (by decide) (by decide) (by decide) (by rw [hml]; rfl) rfl pd_4 rfl (Nat.le_of_eq rfl) (hb hby d4_41) rfl ?_
    intro v14 T14 L14 X14 q14
    obtain ⟨rfl, Nq14, Kc14, t2, Z_t2, G0_t2, ⟨Eb, fb1, fb2, fb3⟩, F_t2⟩ := q14
    have N14 := Fr.app N13 Nq14
    have M14 : n0 ≤ T14.heap.size := Nat.le_trans M13 Kc14.1
    have e14 : T14.heap = T14.heap := rfl
    have ne_src_t2 : src ≠ t2 := Nat.ne_of_lt (Nat.lt_of_lt_of_le F_src.lt G0_t2)
    have ne_b_t2 : b ≠ t2 := Nat.ne_of_lt (Nat.lt_of_lt_of_le E_b.lt G0_t2)
    have ne_t_t2 : t ≠ t2 := Nat.ne_of_lt (Nat.lt_of_lt_of_le F_t.lt G0_t2)
    have G_t2 : h0.size ≤ t2 := Nat.le_trans K13.1 G0_t2
    replace F_src := F_src.keep Kc14 (ninS ne_src_b nin0)
    replace F_t := F_t.keep Kc14 (ninS (Ne.symm ne_b_t) nin0)
    have K14 : Keep h0 T14.heap [b, t] := K13.trans Kc14 (allS (Or.inl (List.mem_of_getElem? (i := 0) rfl)) all0)
    replace E_b := Eb
    replace f_b_bytes := fb1
    replace f_b_size := fb2
    replace f_b_closed := fb3
    refine g_aloadN X14 hx 45 (hb hby d4_44) rfl rfl rfl ?_
    refine g_iloadN X14 hx 46 (hb hby d4_45) rfl rfl ?_
    refine g_aloadN X14 hx 47 (hb hby d4_46) rfl rfl rfl ?_
    refine g_getF X14 hx hZ 50 hown (hw _ (List.mem_of_getElem? (i := 14) rfl)) e14 f_b_bytes (hb hby d4_47) rfl ?_
    intro T15 X15 e15
    have N15 := N14
    have M15 := M14
    have K15 := K14
    refine g_aloadN X15 hx 51 (hb hby d4_50) rfl rfl rfl ?_
    refine g_getF X15 hx hZ 54 hown (hw _ (List.mem_of_getElem? (i := 31) rfl)) e15 f_b_size (hb hby d4_51) rfl ?_
    intro T16 X16 e16
    have N16 := N15
    have M16 := M15
    have K16 := K15
    refine g_iloadN X16 hx 55 (hb hby d4_54) rfl rfl ?_
    refine g_copy X16 hx hZ 58 0 (o) (sN) (kN) hown (hw _ (List.mem_of_getElem? (i := 33) rfl)) (hw _ (List.mem_of_getElem? (i := 36) rfl)) (hw _ (List.mem_of_getElem? (i := 34) rfl)) (hw _ (List.mem_of_getElem? (i := 35) rfl)) e16 F_src F_t2 rfl (own_fit hgs) (own_fit (g := fun i => if i < 256 then g i else 0) (own_by0 hg)) (by omega) (by decide) hoff hsz hk hok (by omega) N16 Z_t2 (by rw [hml]; rfl) (hb hby d4_55) (by decide) (Nat.le_of_eq rfl) (by decide) rfl ?_
    intro T17 L17 X17 N17 Kc17 G17
    have e17 : T17.heap = T17.heap := rfl
    have M17 : n0 ≤ T17.heap.size := Nat.le_trans M16 Kc17.1
    replace F_src := F_src.keep Kc17 (ninS ne_src_t2 nin0)
    replace E_b := E_b.keep Kc17
    replace f_b_bytes := f_b_bytes.keep Kc17 (ninS ne_b_t2 nin0)
    replace f_b_size := f_b_size.keep Kc17 (ninS ne_b_t2 nin0)
    replace f_b_closed := f_b_closed.keep Kc17 (ninS ne_b_t2 nin0)
    replace F_t := F_t.keep Kc17 (ninS ne_t_t2 nin0)
    replace F_t2 := G17
    have K17 : Keep h0 T17.heap [b, t] := K16.trans Kc17 (allS (Or.inr G_t2) all0)
    refine g_aloadN X17 hx 59 (hb hby d4_58) rfl rfl rfl ?_
    refine g_dup X17 hx 60 (hb hby d4_59) rfl rfl ?_
    refine g_getF X17 hx hZ 63 hown (hw _ (List.mem_of_getElem? (i := 31) rfl)) e17 f_b_size (hb hby d4_60) rfl ?_
    intro T18 X18 e18
    have N18 := N17
    have M18 := M17
    have K18 := K17
    refine g_iloadN X18 hx 64 (hb hby d4_63) rfl rfl ?_
    refine g_iadd X18 hx 65 (hb hby d4_64) rfl ?_
    refine g_putF X18 hx hZ 68 (ty := .int) hown (hw _ (List.mem_of_getElem? (i := 31) rfl)) e18 f_b_size E_b (Or.inl (hw _ (List.mem_of_getElem? (i := 32) rfl))) (hw _ (List.mem_of_getElem? (i := 6) rfl)) (by decide) rfl rfl (hb hby d4_65) rfl ?_
    intro T19 X19 W19
    have e19 : T19.heap = T19.heap := rfl
    have N19 := Fr.snoc X19 N18 Z_b
    have M19 : n0 ≤ T19.heap.size := by rw [W19.size]; exact M18
    replace F_src := F_src.other W19 ne_src_b
    replace E_b := E_b.wr W19
    replace f_b_bytes := f_b_bytes.other W19 (Or.inr (slot_ne (t := (.array .byte)) (t' := .int) (show Laid Z a0 "com/example/runnel/runnel/MemorySink" "com/example/runnel/runnel/MemorySink" "bytes" "[B" from Or.inl (hw _ (List.mem_of_getElem? (i := 15) rfl))) (show Laid Z a0 "com/example/runnel/runnel/MemorySink" "com/example/runnel/runnel/MemorySink" "size" "I" from Or.inl (hw _ (List.mem_of_getElem? (i := 32) rfl))) (by decide) (by decide) (by decide)))
    replace f_b_size := f_b_size.same W19
    replace f_b_closed := f_b_closed.other W19 (Or.inr (slot_ne (t := .boolean) (t' := .int) (show Laid Z a0 "com/example/runnel/runnel/MemorySink" "com/example/runnel/runnel/MemorySink" "closed" "Z" from Or.inl (hw _ (List.mem_of_getElem? (i := 30) rfl))) (show Laid Z a0 "com/example/runnel/runnel/MemorySink" "com/example/runnel/runnel/MemorySink" "size" "I" from Or.inl (hw _ (List.mem_of_getElem? (i := 32) rfl))) (by decide) (by decide) (by decide)))
    replace F_t := F_t.other W19 (Ne.symm ne_b_t)
    replace F_t2 := F_t2.other W19 (Ne.symm ne_b_t2)
    have K19 : Keep h0 T19.heap [b, t] := K18.wr W19 (Or.inl (List.mem_of_getElem? (i := 0) rfl))
    refine g_ret0 X19 hx hret hlk (hb hby d4_68) (by decide) (by decide) ?_
    refine ⟨rfl, N19, K19, t2, 512, sz + len, (fun i => if sN ≤ i ∧ i < sN + kN then gs (o + (i - sN)) else (if i < 256 then g i else 0)), Z_t2, Or.inr G_t2, ne_b_t2, ⟨E_b, f_b_bytes, f_b_size, f_b_closed⟩, F_t2.congr (fun i hi => own_ite), own_by (own_by0 hg) hgs, own_plus hsz hk (by omega), Or.inr ⟨rfl, by omega⟩, fun i hi => ?_, fun i hi => ?_⟩
    · dsimp only; rw [if_neg (by omega)]; rw [if_pos (by omega)]
    · dsimp only; rw [if_pos (by omega)]; congr 1; omega
  · have hdif : ((512 : Int32) - sz).toInt = ((512 - sN : Nat) : Int) := own_minus (by decide) hsz (by omega) (by omega)
    refine g_iloadN X0 hx 1 (hb hby d4_0) rfl rfl ?_
    refine g_iloadN X0 hx 2 (hb hby d4_1) rfl rfl ?_
    refine g_aloadN X0 hx 3 (hb hby d4_2) rfl rfl rfl ?_
    refine g_arrlen X0 hx hZ 4 e0 F_src nz hnz (hb hby d4_3) rfl ?_
    refine g_callS X0 hx hZ 7 [(.int off), (.int len), (.int nz)] [] 0 hown (hw _ (List.mem_of_getElem? (i := 21) rfl)) (hw _ (List.mem_of_getElem? (i := 22) rfl)) (hw _ (List.mem_of_getElem? (i := 23) rfl)) (hw _ (List.mem_of_getElem? (i := 24) rfl)) (by decide) e0 (rm5 l Z a0 hw [] off len nz o kN n h0 n0 M0 hoff hk hnz hok (by omega)) (by decide) (by decide) (by decide) (by decide) (by rw [hml]; rfl) rfl pd_3 rfl (Nat.le_of_eq rfl) (hb hby d4_4) rfl ?_
    intro v20 T20 L20 X20 q20
    obtain ⟨rfl, Nq20, e20⟩ := q20
    have N20 := Fr.app N0 Nq20
    have M20 := M0
    have K20 := K0
    refine g_pop X20 hx 8 (hb hby d4_7) rfl rfl ?_
    refine g_aloadN X20 hx 9 (hb hby d4_8) rfl rfl rfl ?_
    refine g_getF X20 hx hZ 12 hown (hw _ (List.mem_of_getElem? (i := 29) rfl)) e20 f_b_closed (hb hby d4_9) rfl ?_
    intro T21 X21 e21
    have N21 := N20
    have M21 := M20
    have K21 := K20
    refine g_ifT X21 hx 25 (hb hby d4_12) (by decide) (by decide) (by decide) ?_
    refine g_iloadN X21 hx 26 (hb hby d4_25) rfl rfl ?_
    refine g_aloadN X21 hx 27 (hb hby d4_26) rfl rfl rfl ?_
    refine g_getF X21 hx hZ 30 hown (hw _ (List.mem_of_getElem? (i := 14) rfl)) e21 f_b_bytes (hb hby d4_27) rfl ?_
    intro T22 X22 e22
    have N22 := N21
    have M22 := M21
    have K22 := K21
    refine g_arrlen X22 hx hZ 31 e22 F_t (512 : Int32) (by decide) (hb hby d4_30) rfl ?_
    refine g_aloadN X22 hx 32 (hb hby d4_31) rfl rfl rfl ?_
    refine g_getF X22 hx hZ 35 hown (hw _ (List.mem_of_getElem? (i := 31) rfl)) e22 f_b_size (hb hby d4_32) rfl ?_
    intro T23 X23 e23
    have N23 := N22
    have M23 := M22
    have K23 := K22
    refine g_isub X23 hx 36 (hb hby d4_35) rfl ?_
    refine g_icT X23 hx 44 (hb hby d4_36) (Jvm.Free.XT.ii_le_t (show ¬ (((512 : Int32) - sz) < len) from (fun q => by have u := (own_lt hdif hk).mp q; omega))) (by decide) (by decide) ?_
    refine g_aloadN X23 hx 45 (hb hby d4_44) rfl rfl rfl ?_
    refine g_iloadN X23 hx 46 (hb hby d4_45) rfl rfl ?_
    refine g_aloadN X23 hx 47 (hb hby d4_46) rfl rfl rfl ?_
    refine g_getF X23 hx hZ 50 hown (hw _ (List.mem_of_getElem? (i := 14) rfl)) e23 f_b_bytes (hb hby d4_47) rfl ?_
    intro T24 X24 e24
    have N24 := N23
    have M24 := M23
    have K24 := K23
    refine g_aloadN X24 hx 51 (hb hby d4_50) rfl rfl rfl ?_
    refine g_getF X24 hx hZ 54 hown (hw _ (List.mem_of_getElem? (i := 31) rfl)) e24 f_b_size (hb hby d4_51) rfl ?_
    intro T25 X25 e25
    have N25 := N24
    have M25 := M24
    have K25 := K24
    refine g_iloadN X25 hx 55 (hb hby d4_54) rfl rfl ?_
    refine g_copy X25 hx hZ 58 0 (o) (sN) (kN) hown (hw _ (List.mem_of_getElem? (i := 33) rfl)) (hw _ (List.mem_of_getElem? (i := 36) rfl)) (hw _ (List.mem_of_getElem? (i := 34) rfl)) (hw _ (List.mem_of_getElem? (i := 35) rfl)) e25 F_src F_t rfl (own_fit hgs) (own_fit hg) (by omega) (by decide) hoff hsz hk hok (by omega) N25 Z_t (by rw [hml]; rfl) (hb hby d4_55) (by decide) (Nat.le_of_eq rfl) (by decide) rfl ?_
    intro T26 L26 X26 N26 Kc26 G26
    have e26 : T26.heap = T26.heap := rfl
    have M26 : n0 ≤ T26.heap.size := Nat.le_trans M25 Kc26.1
    replace F_src := F_src.keep Kc26 (ninS ne_src_t nin0)
    replace E_b := E_b.keep Kc26
    replace f_b_bytes := f_b_bytes.keep Kc26 (ninS ne_b_t nin0)
    replace f_b_size := f_b_size.keep Kc26 (ninS ne_b_t nin0)
    replace f_b_closed := f_b_closed.keep Kc26 (ninS ne_b_t nin0)
    replace F_t := G26
    have K26 : Keep h0 T26.heap [b, t] := K25.trans Kc26 (allS (Or.inl (List.mem_of_getElem? (i := 1) rfl)) all0)
    refine g_aloadN X26 hx 59 (hb hby d4_58) rfl rfl rfl ?_
    refine g_dup X26 hx 60 (hb hby d4_59) rfl rfl ?_
    refine g_getF X26 hx hZ 63 hown (hw _ (List.mem_of_getElem? (i := 31) rfl)) e26 f_b_size (hb hby d4_60) rfl ?_
    intro T27 X27 e27
    have N27 := N26
    have M27 := M26
    have K27 := K26
    refine g_iloadN X27 hx 64 (hb hby d4_63) rfl rfl ?_
    refine g_iadd X27 hx 65 (hb hby d4_64) rfl ?_
    refine g_putF X27 hx hZ 68 (ty := .int) hown (hw _ (List.mem_of_getElem? (i := 31) rfl)) e27 f_b_size E_b (Or.inl (hw _ (List.mem_of_getElem? (i := 32) rfl))) (hw _ (List.mem_of_getElem? (i := 6) rfl)) (by decide) rfl rfl (hb hby d4_65) rfl ?_
    intro T28 X28 W28
    have e28 : T28.heap = T28.heap := rfl
    have N28 := Fr.snoc X28 N27 Z_b
    have M28 : n0 ≤ T28.heap.size := by rw [W28.size]; exact M27
    replace F_src := F_src.other W28 ne_src_b
    replace E_b := E_b.wr W28
    replace f_b_bytes := f_b_bytes.other W28 (Or.inr (slot_ne (t := (.array .byte)) (t' := .int) (show Laid Z a0 "com/example/runnel/runnel/MemorySink" "com/example/runnel/runnel/MemorySink" "bytes" "[B" from Or.inl (hw _ (List.mem_of_getElem? (i := 15) rfl))) (show Laid Z a0 "com/example/runnel/runnel/MemorySink" "com/example/runnel/runnel/MemorySink" "size" "I" from Or.inl (hw _ (List.mem_of_getElem? (i := 32) rfl))) (by decide) (by decide) (by decide)))
    replace f_b_size := f_b_size.same W28
    replace f_b_closed := f_b_closed.other W28 (Or.inr (slot_ne (t := .boolean) (t' := .int) (show Laid Z a0 "com/example/runnel/runnel/MemorySink" "com/example/runnel/runnel/MemorySink" "closed" "Z" from Or.inl (hw _ (List.mem_of_getElem? (i := 30) rfl))) (show Laid Z a0 "com/example/runnel/runnel/MemorySink" "com/example/runnel/runnel/MemorySink" "size" "I" from Or.inl (hw _ (List.mem_of_getElem? (i := 32) rfl))) (by decide) (by decide) (by decide)))
    replace F_t := F_t.other W28 (Ne.symm ne_b_t)
    have K28 : Keep h0 T28.heap [b, t] := K27.wr W28 (Or.inl (List.mem_of_getElem? (i := 0) rfl))
    refine g_ret0 X28 hx hret hlk (hb hby d4_68) (by decide) (by decide) ?_
    refine ⟨rfl, N28, K28, t, 512, sz + len, (fun i => if sN ≤ i ∧ i < sN + kN then gs (o + (i - sN)) else g i), Z_t, Or.inl rfl, ne_b_t, ⟨E_b, f_b_bytes, f_b_size, f_b_closed⟩, F_t.congr (fun i hi => own_ite), own_by hg hgs, own_plus hsz hk (by omega), Or.inr ⟨rfl, by omega⟩, fun i hi => ?_, fun i hi => ?_⟩
    · dsimp only; rw [if_neg (by omega)]
    · dsimp only; rw [if_pos (by omega)]; congr 1; omega
def QK (Z : State) (b t : Addr) (sz : Int32) (h0 : Heap) (n0 : Nat) (v : Option Value) (h : Heap) (L : List Loc) : Prop := v = none ∧ Fr n0 L ∧ Keep h0 h [b] ∧ Snk Z h b t sz 1
set_option maxRecDepth 65536 in
set_option maxHeartbeats 40000000 in
theorem rm11 (l : Launch) (Z : State) (a0 : Array Value) (hw : ∀ d ∈ tables_1, d.before a0 Z = true) (ws : List Jvm.Cond) (b t : Addr) (sz c_ : Int32) (h0 : Heap) (n0 : Nat) (Z0 : n0 ≤ h0.size) (E_b : Exa Z h0 b "com/example/runnel/runnel/MemorySink") (f_b_bytes : Fld Z h0 b "com/example/runnel/runnel/MemorySink" "bytes" "[B" (.ref t)) (f_b_size : Fld Z h0 b "com/example/runnel/runnel/MemorySink" "size" "I" (.int sz)) (f_b_closed : Fld Z h0 b "com/example/runnel/runnel/MemorySink" "closed" "Z" (.int c_)) (Z_b : n0 ≤ b) :
    MetFree l (⟨"com/example/runnel/runnel/MemorySink", "commit", "()V"⟩ : MethodName) (head1 (Jvm.Cond.code (⟨"com/example/runnel/runnel/MemorySink", "commit", "()V"⟩ : MethodName) prog_31_method_5_code 1 none :: ws) ({ frames := 0, cells := 0, slots := 0, locals := 0 } : Room)) (fun av_ U_ => av_ = #[(.ref b)] ∧ Z.Warmed39 U_.vm ∧ U_.heap = h0) (fun _ _ _ _ _ => True) (fun _ U_ o_ W_ => ∃ v_ L_, o_ = .returned v_ ∧ QK Z b t sz h0 n0 v_ W_.heap L_ ∧ FrameEnd U_ o_ W_ L_ ({ frames := 0, cells := 0, slots := 0, locals := 0 } : Room).cells ({ frames := 0, cells := 0, slots := 0, locals := 0 } : Room).slots) := by
  refine own_start pn_9 ?_
  intro p e s m below meth c T0 X0 hx hby hml hown hnm hret hlk hZ e0
  have N0 := Fr.nil n0
  have M0 := Z0
  have K0 : Keep h0 h0 [b] := Keep.refl _ _
  refine Go.cast (show entryFrame m #[(.ref b)] 1 = (mkF m 0 #[.val (.ref b)] []) from (by first | (simp [entryFrame, mkF, argsToLocals, Value.category, maxLocals]; done) | rfl)) ?_
  refine g_aloadN X0 hx 1 (hb hby d11_0) rfl rfl rfl ?_
  refine g_iconst X0 hx 2 (hb hby d11_1) (1 : Int32) (by decide) rfl ?_
  refine g_putF X0 hx hZ 5 (ty := .boolean) hown (hw _ (List.mem_of_getElem? (i := 29) rfl)) e0 f_b_closed E_b (Or.inl (hw _ (List.mem_of_getElem? (i := 30) rfl))) (hw _ (List.mem_of_getElem? (i := 6) rfl)) (by decide) rfl rfl (hb hby d11_2) rfl ?_
  intro T1 X1 W1
  have e1 : T1.heap = T1.heap := rfl
  have N1 := Fr.snoc X1 N0 Z_b
  have M1 : n0 ≤ T1.heap.size := by rw [W1.size]; exact M0
  replace E_b := E_b.wr W1
  replace f_b_bytes := f_b_bytes.other W1 (Or.inr (slot_ne (t := (.array .byte)) (t' := .boolean) (show Laid Z a0 "com/example/runnel/runnel/MemorySink" "com/example/runnel/runnel/MemorySink" "bytes" "[B" from Or.inl (hw _ (List.mem_of_getElem? (i := 15) rfl))) (show Laid Z a0 "com/example/runnel/runnel/MemorySink" "com/example/runnel/runnel/MemorySink" "closed" "Z" from Or.inl (hw _ (List.mem_of_getElem? (i := 30) rfl))) (by decide) (by decide) (by decide)))
  replace f_b_size := f_b_size.other W1 (Or.inr (slot_ne (t := .int) (t' := .boolean) (show Laid Z a0 "com/example/runnel/runnel/MemorySink" "com/example/runnel/runnel/MemorySink" "size" "I" from Or.inl (hw _ (List.mem_of_getElem? (i := 32) rfl))) (show Laid Z a0 "com/example/runnel/runnel/MemorySink" "com/example/runnel/runnel/MemorySink" "closed" "Z" from Or.inl (hw _ (List.mem_of_getElem? (i := 30) rfl))) (by decide) (by decide) (by decide)))
  replace f_b_closed := f_b_closed.same W1
  have K1 : Keep h0 T1.heap [b] := K0.wr W1 (Or.inl (List.mem_of_getElem? (i := 0) rfl))
  refine g_ret0 X1 hx hret hlk (hb hby d11_5) (by decide) (by decide) ?_
  exact ⟨rfl, N1, K1, E_b, f_b_bytes, f_b_size, f_b_closed⟩
set_option maxRecDepth 65536 in
set_option maxHeartbeats 40000000 in
theorem rm15 (l : Launch) (Z : State) (a0 : Array Value) (hw : ∀ d ∈ tables_1, d.before a0 Z = true) (ws : List Jvm.Cond) (b t : Addr) (sz c_ : Int32) (h0 : Heap) (n0 : Nat) (Z0 : n0 ≤ h0.size) (E_b : Exa Z h0 b "com/example/runnel/runnel/MemorySink") (f_b_bytes : Fld Z h0 b "com/example/runnel/runnel/MemorySink" "bytes" "[B" (.ref t)) (f_b_size : Fld Z h0 b "com/example/runnel/runnel/MemorySink" "size" "I" (.int sz)) (f_b_closed : Fld Z h0 b "com/example/runnel/runnel/MemorySink" "closed" "Z" (.int c_)) (Z_b : n0 ≤ b) :
    MetFree l (⟨"com/example/runnel/runnel/MemorySink", "close", "()V"⟩ : MethodName) (head1 (Jvm.Cond.code (⟨"com/example/runnel/runnel/MemorySink", "close", "()V"⟩ : MethodName) prog_31_method_6_code 1 none :: ws) ({ frames := 0, cells := 0, slots := 0, locals := 0 } : Room)) (fun av_ U_ => av_ = #[(.ref b)] ∧ Z.Warmed39 U_.vm ∧ U_.heap = h0) (fun _ _ _ _ _ => True) (fun _ U_ o_ W_ => ∃ v_ L_, o_ = .returned v_ ∧ QK Z b t sz h0 n0 v_ W_.heap L_ ∧ FrameEnd U_ o_ W_ L_ ({ frames := 0, cells := 0, slots := 0, locals := 0 } : Room).cells ({ frames := 0, cells := 0, slots := 0, locals := 0 } : Room).slots) := by
  refine own_start pn_10 ?_
  intro p e s m below meth c T0 X0 hx hby hml hown hnm hret hlk hZ e0
  have N0 := Fr.nil n0
  have M0 := Z0
  have K0 : Keep h0 h0 [b] := Keep.refl _ _
  refine Go.cast (show entryFrame m #[(.ref b)] 1 = (mkF m 0 #[.val (.ref b)] []) from (by first | (simp [entryFrame, mkF, argsToLocals, Value.category, maxLocals]; done) | rfl)) ?_
  refine g_aloadN X0 hx 1 (hb hby d15_0) rfl rfl rfl ?_
  refine g_iconst X0 hx 2 (hb hby d15_1) (1 : Int32) (by decide) rfl ?_
  refine g_putF X0 hx hZ 5 (ty := .boolean) hown (hw _ (List.mem_of_getElem? (i := 29) rfl)) e0 f_b_closed E_b (Or.inl (hw _ (List.mem_of_getElem? (i := 30) rfl))) (hw _ (List.mem_of_getElem? (i := 6) rfl)) (by decide) rfl rfl (hb hby d15_2) rfl ?_
  intro T1 X1 W1
  have e1 : T1.heap = T1.heap := rfl
  have N1 := Fr.snoc X1 N0 Z_b
  have M1 : n0 ≤ T1.heap.size := by rw [W1.size]; exact M0
  replace E_b := E_b.wr W1
  replace f_b_bytes := f_b_bytes.other W1 (Or.inr (slot_ne (t := (.array .byte)) (t' := .boolean) (show Laid Z a0 "com/example/runnel/runnel/MemorySink" "com/example/runnel/runnel/MemorySink" "bytes" "[B" from Or.inl (hw _ (List.mem_of_getElem? (i := 15) rfl))) (show Laid Z a0 "com/example/runnel/runnel/MemorySink" "com/example/runnel/runnel/MemorySink" "closed" "Z" from Or.inl (hw _ (List.mem_of_getElem? (i := 30) rfl))) (by decide) (by decide) (by decide)))
  replace f_b_size := f_b_size.other W1 (Or.inr (slot_ne (t := .int) (t' := .boolean) (show Laid Z a0 "com/example/runnel/runnel/MemorySink" "com/example/runnel/runnel/MemorySink" "size" "I" from Or.inl (hw _ (List.mem_of_getElem? (i := 32) rfl))) (show Laid Z a0 "com/example/runnel/runnel/MemorySink" "com/example/runnel/runnel/MemorySink" "closed" "Z" from Or.inl (hw _ (List.mem_of_getElem? (i := 30) rfl))) (by decide) (by decide) (by decide)))
  replace f_b_closed := f_b_closed.same W1
  have K1 : Keep h0 T1.heap [b] := K0.wr W1 (Or.inl (List.mem_of_getElem? (i := 0) rfl))
  refine g_ret0 X1 hx hret hlk (hb hby d15_5) (by decide) (by decide) ?_
  exact ⟨rfl, N1, K1, E_b, f_b_bytes, f_b_size, f_b_closed⟩
set_option maxRecDepth 65536 in
set_option maxHeartbeats 40000000 in
theorem rm12 (l : Launch) (Z : State) (a0 : Array Value) (hw : ∀ d ∈ tables_1, d.before a0 Z = true) (ws : List Jvm.Cond) (b t : Addr) (sz c_ nz : Int32) (sN cap : Nat) (g : Nat → Int32) (h0 : Heap) (n0 : Nat) (Z0 : n0 ≤ h0.size) (E_b : Exa Z h0 b "com/example/runnel/runnel/MemorySink") (f_b_bytes : Fld Z h0 b "com/example/runnel/runnel/MemorySink" "bytes" "[B" (.ref t)) (f_b_size : Fld Z h0 b "com/example/runnel/runnel/MemorySink" "size" "I" (.int sz)) (f_b_closed : Fld Z h0 b "com/example/runnel/runnel/MemorySink" "closed" "Z" (.int c_)) (F_t : AV Z h0 t .byte cap (fun i => .int (g i))) (hg : By g) (hsz : sz.toInt = sN) (hnz : nz.toInt = cap) (hsc : sN < cap) (hc5 : cap ≤ 512) :
    MetFree l (⟨"com/example/runnel/runnel/MemorySink", "toByteArray", "()[B"⟩ : MethodName) (head1 (Jvm.Cond.code (⟨"com/example/runnel/runnel/MemorySink", "toByteArray", "()[B"⟩ : MethodName) prog_31_method_8_code 1 (some (.array .byte)) :: ws) ({ frames := 2, cells := 1, slots := 512, locals := 80 } : Room)) (fun av_ U_ => av_ = #[(.ref b)] ∧ Z.Warmed39 U_.vm ∧ U_.heap = h0) (fun _ _ _ _ _ => True) (fun _ U_ o_ W_ => ∃ v_ L_, o_ = .returned v_ ∧ QA Z sN (fun i => .int (g i)) h0 n0 v_ W_.heap L_ ∧ FrameEnd U_ o_ W_ L_ ({ frames := 2, cells := 1, slots := 512, locals := 80 } : Room).cells ({ frames := 2, cells := 1, slots := 512, locals := 80 } : Room).slots) := by
  refine own_start pn_11 ?_
  intro p e s m below meth c T0 X0 hx hby hml hown hnm hret hlk hZ e0
  have N0 := Fr.nil n0
  have M0 := Z0
  have K0 : Keep h0 h0 [] := Keep.refl _ _
  refine Go.cast (show entryFrame m #[(.ref b)] 1 = (mkF m 0 #[.val (.ref b)] []) from (by first | (simp [entryFrame, mkF, argsToLocals, Value.category, maxLocals]; done) | rfl)) ?_
  refine g_aloadN X0 hx 1 (hb hby d12_0) rfl rfl rfl ?_
  refine g_getF X0 hx hZ 4 hown (hw _ (List.mem_of_getElem? (i := 14) rfl)) e0 f_b_bytes (hb hby d12_1) rfl ?_
  intro T1 X1 e1
  have N1 := N0
  have M1 := M0
  have K1 := K0
  refine g_aloadN X1 hx 5 (hb hby d12_4) rfl rfl rfl ?_
  refine g_getF X1 hx hZ 8 hown (hw _ (List.mem_of_getElem? (i := 31) rfl)) e1 f_b_size (hb hby d12_5) rfl ?_
  intro T2 X2 e2
  have N2 := N1
  have M2 := M1
  have K2 := K1
  refine g_callS X2 hx hZ 11 [(.ref t), (.int sz)] [] 0 hown (hw _ (List.mem_of_getElem? (i := 47) rfl)) (hw _ (List.mem_of_getElem? (i := 48) rfl)) (hw _ (List.mem_of_getElem? (i := 49) rfl)) (hw _ (List.mem_of_getElem? (i := 50) rfl)) (by decide) e2 (rm9 l Z a0 hw [] t sz nz cap sN g h0 n0 M2 hsz hnz (by omega) (by omega) hc5 hg F_t) (by decide) (by decide) (by decide) (by decide) (by rw [hml]; rfl) rfl pd_2 rfl (Nat.le_of_eq rfl) (hb hby d12_8) rfl ?_
  intro v3 T3 L3 X3 q3
  obtain ⟨r, rfl, Nq3, Z_r, G0_r, Kc3, F_r⟩ := q3
  have N3 := Fr.app N2 Nq3
  have M3 : n0 ≤ T3.heap.size := Nat.le_trans M2 Kc3.1
  have e3 : T3.heap = T3.heap := rfl
  have ne_b_r : b ≠ r := Nat.ne_of_lt (Nat.lt_of_lt_of_le E_b.lt G0_r)
  have ne_t_r : t ≠ r := Nat.ne_of_lt (Nat.lt_of_lt_of_le F_t.lt G0_r)
  have G_r : h0.size ≤ r := Nat.le_trans K2.1 G0_r
  replace E_b := E_b.keep Kc3
  replace f_b_bytes := f_b_bytes.keep Kc3 nin0
  replace f_b_size := f_b_size.keep Kc3 nin0
  replace f_b_closed := f_b_closed.keep Kc3 nin0
  replace F_t := F_t.keep Kc3 nin0
  have K3 : Keep h0 T3.heap [] := K2.trans Kc3 all0
  refine g_aret X3 hx rfl rfl rfl hret hlk (hb hby d12_11) (by decide) (by decide) ?_
  exact ⟨r, rfl, N3, Z_r, G_r, K3, F_r.congr (fun i hi => by rw [if_pos (by omega)])⟩
set_option maxRecDepth 65536 in
set_option maxHeartbeats 40000000 in
theorem rm13 (l : Launch) (Z : State) (a0 : Array Value) (hw : ∀ d ∈ tables_1, d.before a0 Z = true) (ws : List Jvm.Cond) (b : Addr) (sz : Int32) (h0 : Heap) (n0 : Nat) (Z0 : n0 ≤ h0.size) (f_b_size : Fld Z h0 b "com/example/runnel/runnel/MemorySink" "size" "I" (.int sz)) :
    MetFree l (⟨"com/example/runnel/runnel/MemorySink", "size", "()I"⟩ : MethodName) (head1 (Jvm.Cond.code (⟨"com/example/runnel/runnel/MemorySink", "size", "()I"⟩ : MethodName) prog_31_method_7_code 1 (some .int) :: ws) ({ frames := 0, cells := 0, slots := 0, locals := 0 } : Room)) (fun av_ U_ => av_ = #[(.ref b)] ∧ Z.Warmed39 U_.vm ∧ U_.heap = h0) (fun _ _ _ _ _ => True) (fun _ U_ o_ W_ => ∃ v_ L_, o_ = .returned v_ ∧ QI sz h0 n0 v_ W_.heap L_ ∧ FrameEnd U_ o_ W_ L_ ({ frames := 0, cells := 0, slots := 0, locals := 0 } : Room).cells ({ frames := 0, cells := 0, slots := 0, locals := 0 } : Room).slots) := by
  refine own_start pn_12 ?_
  intro p e s m below meth c T0 X0 hx hby hml hown hnm hret hlk hZ e0
  have N0 := Fr.nil n0
  have M0 := Z0
  refine Go.cast (show entryFrame m #[(.ref b)] 1 = (mkF m 0 #[.val (.ref b)] []) from (by first | (simp [entryFrame, mkF, argsToLocals, Value.category, maxLocals]; done) | rfl)) ?_
  refine g_aloadN X0 hx 1 (hb hby d13_0) rfl rfl rfl ?_
  refine g_getF X0 hx hZ 4 hown (hw _ (List.mem_of_getElem? (i := 31) rfl)) e0 f_b_size (hb hby d13_1) rfl ?_
  intro T1 X1 e1
  have N1 := N0
  have M1 := M0
  refine g_iret X1 hx hret hlk (hb hby d13_4) (by decide) (by decide) ?_
  exact ⟨rfl, N1, e1⟩
/-- what place j of the result must hold -/
def Ex (g1 gb g2 : Nat → Int32) (o1 l1 l3 o2 : Nat) (j : Nat) : Int32 := if j < l1 then g1 (o1 + j) else if j < l1 + l3 then gb (j - l1) else g2 (o2 + (j - l1 - l3))
set_option maxRecDepth 65536 in
set_option maxHeartbeats 40000000 in
theorem rm14 (l : Launch) (Z : State) (a0 : Array Value) (hw : ∀ d ∈ tables_1, d.before a0 Z = true) (ws : List Jvm.Cond) (r : Addr) (i : Int32) (f1 : Addr) (o1 l1 : Int32) (bg : Addr) (l3 : Int32) (f2 : Addr) (o2 nz : Int32) (rn o1N l1N l3N l2N o2N : Nat) (gr g1 gb g2 : Nat → Int32) (h0 : Heap) (n0 : Nat) (Z0 : n0 ≤ h0.size) (hnz : nz.toInt = rn) (ho1 : o1.toInt = o1N) (hl1 : l1.toInt = l1N) (hl3 : l3.toInt = l3N) (ho2 : o2.toInt = o2N) (hb1 : o1N + l1N ≤ 4) (hb3 : l3N ≤ 300) (hb2 : o2N + l2N ≤ 4) (hrn : rn = l1N + l3N + l2N) (F_r : AV Z h0 r .byte rn (fun i => .int (gr i))) (F_f1 : AV Z h0 f1 .byte 4 (fun i => .int (g1 i))) (F_bg : AV Z h0 bg .byte 300 (fun i => .int (gb i))) (F_f2 : AV Z h0 f2 .byte 4 (fun i => .int (g2 i))) (hgr : ∀ j, j < rn → gr j = Ex g1 gb g2 o1N l1N l3N o2N j) :
    MetFree l (⟨"com/example/runnel/runnel/MemorySinkToByteArrayPinLaw", "at", "([BI[BII[BI[BI)Z"⟩ : MethodName) (head1 (Jvm.Cond.code (⟨"com/example/runnel/runnel/MemorySinkToByteArrayPinLaw", "at", "([BI[BII[BI[BI)Z"⟩ : MethodName) method_4_code 10 (some .boolean) :: ws) ({ frames := 0, cells := 0, slots := 0, locals := 0 } : Room)) (fun av_ U_ => av_ = #[(.ref r), (.int i), (.ref f1), (.int o1), (.int l1), (.ref bg), (.int l3), (.ref f2), (.int o2)] ∧ Z.Warmed39 U_.vm ∧ U_.heap = h0) (fun _ _ _ _ _ => True) (fun _ U_ o_ W_ => ∃ v_ L_, o_ = .returned v_ ∧ QI 1 h0 n0 v_ W_.heap L_ ∧ FrameEnd U_ o_ W_ L_ ({ frames := 0, cells := 0, slots := 0, locals := 0 } : Room).cells ({ frames := 0, cells := 0, slots := 0, locals := 0 } : Room).slots) := by
  refine own_start pn_13 ?_
  intro p e s m below meth c T0 X0 hx hby hml hown hnm hret hlk hZ e0
  have N0 := Fr.nil n0
  have M0 := Z0
  refine Go.cast (show entryFrame m #[(.ref r), (.int i), (.ref f1), (.int o1), (.int l1), (.ref bg), (.int l3), (.ref f2), (.int o2)] 10 = (mkF m 0 #[.val (.ref r), .val (.int i), .val (.ref f1), .val (.int o1), .val (.int l1), .val (.ref bg), .val (.int l3), .val (.ref f2), .val (.int o2), .unset] []) from (by first | (simp [entryFrame, mkF, argsToLocals, Value.category, maxLocals]; done) | rfl)) ?_
  refine g_iloadN X0 hx 1 (hb hby d14_0) rfl rfl ?_
  by_cases c1 : i < (0 : Int32)
  · refine g_ifT X0 hx 10 (hb hby d14_1) (Jvm.Free.XT.i0_lt_t c1) (by decide) (by decide) ?_
    refine g_iconst X0 hx 11 (hb hby d14_10) (1 : Int32) (by decide) rfl ?_
    refine g_nret X0 hx (by simp) hret hlk (hb hby d14_11) (by decide) (by decide) ?_
    exact ⟨rfl, N0, e0⟩
  · refine g_ifF X0 hx 4 (hb hby d14_1) (Jvm.Free.XT.i0_lt_f c1) rfl ?_
    refine g_iloadN X0 hx 5 (hb hby d14_4) rfl rfl ?_
    refine g_aloadN X0 hx 6 (hb hby d14_5) rfl rfl rfl ?_
    refine g_arrlen X0 hx hZ 7 e0 F_r nz hnz (hb hby d14_6) rfl ?_
    by_cases c7 : i < nz
    · refine g_icT X0 hx 12 (hb hby d14_7) (Jvm.Free.XT.ii_lt_t c7) (by decide) (by decide) ?_
      obtain ⟨j, hj⟩ : ∃ j : Nat, i.toInt = j := ⟨i.toInt.toNat, by rw [Int32.lt_iff_toInt_lt] at c1; have z : (0 : Int32).toInt = 0 := (by decide); omega⟩
      have hjr : j < rn := (own_lt hj hnz).mp c7
      have hl13 : (l1 + l3).toInt = ((l1N + l3N : Nat) : Int) := own_plus hl1 hl3 (by omega)
      refine g_iloadN X0 hx 13 (hb hby d14_12) rfl rfl ?_
      refine g_iload X0 hx 15 (hb hby d14_13) rfl rfl ?_
      by_cases c15 : i < l1
      · refine g_icF X0 hx 18 (hb hby d14_15) (Jvm.Free.XT.ii_ge_f c15) rfl ?_
        refine g_aloadN X0 hx 19 (hb hby d14_18) rfl rfl rfl ?_
        refine g_iloadN X0 hx 20 (hb hby d14_19) rfl rfl ?_
        refine g_iloadN X0 hx 21 (hb hby d14_20) rfl rfl ?_
        refine g_iadd X0 hx 22 (hb hby d14_21) rfl ?_
        refine g_baload X0 hx hZ 23 e0 F_f1 (hb hby d14_22) (o1N + j) (own_plus ho1 hj (by omega)) (by have u := (own_lt hj hl1).mp c15; omega) (.int (g1 (o1N + j))) rfl rfl ?_
        refine g_istore X0 hx 25 (hb hby d14_23) #[.val (.ref r), .val (.int i), .val (.ref f1), .val (.int o1), .val (.int l1), .val (.ref bg), .val (.int l3), .val (.ref f2), .val (.int o2), .val (.int (g1 (o1N + j)))] rfl rfl ?_
        refine g_goto X0 hx 64 (hb hby d14_25) (by decide) (by decide) ?_
        refine g_aloadN X0 hx 65 (hb hby d14_64) rfl rfl rfl ?_
        refine g_iloadN X0 hx 66 (hb hby d14_65) rfl rfl ?_
        refine g_baload X0 hx hZ 67 e0 F_r (hb hby d14_66) (j) hj hjr (.int (gr j)) rfl rfl ?_
        refine g_iload X0 hx 69 (hb hby d14_67) rfl rfl ?_
        refine g_icF X0 hx 72 (hb hby d14_69) (Jvm.Free.XT.ii_ne_f (show (gr j) = (g1 (o1N + j)) from (by rw [hgr j hjr]; unfold Ex; rw [if_pos ((own_lt hj hl1).mp c15)]))) rfl ?_
        refine g_iconst X0 hx 73 (hb hby d14_72) (1 : Int32) (by decide) rfl ?_
        refine g_goto X0 hx 77 (hb hby d14_73) (by decide) (by decide) ?_
        refine g_nret X0 hx (by simp) hret hlk (hb hby d14_77) (by decide) (by decide) ?_
        exact ⟨rfl, N0, e0⟩
      · refine g_icT X0 hx 28 (hb hby d14_15) (Jvm.Free.XT.ii_ge_t c15) (by decide) (by decide) ?_
        refine g_iloadN X0 hx 29 (hb hby d14_28) rfl rfl ?_
        refine g_iload X0 hx 31 (hb hby d14_29) rfl rfl ?_
        refine g_iload X0 hx 33 (hb hby d14_31) rfl rfl ?_
        refine g_iadd X0 hx 34 (hb hby d14_33) rfl ?_
        by_cases c34 : i < (l1 + l3)
        · refine g_icF X0 hx 37 (hb hby d14_34) (Jvm.Free.XT.ii_ge_f c34) rfl ?_
          refine g_aload X0 hx 39 (hb hby d14_37) rfl rfl rfl ?_
          refine g_iloadN X0 hx 40 (hb hby d14_39) rfl rfl ?_
          refine g_iload X0 hx 42 (hb hby d14_40) rfl rfl ?_
          refine g_isub X0 hx 43 (hb hby d14_42) rfl ?_
          refine g_baload X0 hx hZ 44 e0 F_bg (hb hby d14_43) (j - l1N) (own_minus hj hl1 (by have u : ¬ j < l1N := fun u => c15 ((own_lt hj hl1).mpr u); omega) (by omega)) (by have u := (own_lt hj hl13).mp c34; omega) (.int (gb (j - l1N))) rfl rfl ?_
          refine g_istore X0 hx 46 (hb hby d14_44) #[.val (.ref r), .val (.int i), .val (.ref f1), .val (.int o1), .val (.int l1), .val (.ref bg), .val (.int l3), .val (.ref f2), .val (.int o2), .val (.int (gb (j - l1N)))] rfl rfl ?_
          refine g_goto X0 hx 64 (hb hby d14_46) (by decide) (by decide) ?_
          refine g_aloadN X0 hx 65 (hb hby d14_64) rfl rfl rfl ?_
          refine g_iloadN X0 hx 66 (hb hby d14_65) rfl rfl ?_
          refine g_baload X0 hx hZ 67 e0 F_r (hb hby d14_66) (j) hj hjr (.int (gr j)) rfl rfl ?_
          refine g_iload X0 hx 69 (hb hby d14_67) rfl rfl ?_
          refine g_icF X0 hx 72 (hb hby d14_69) (Jvm.Free.XT.ii_ne_f (show (gr j) = (gb (j - l1N)) from (by rw [hgr j hjr]; unfold Ex; rw [if_neg (fun u => c15 ((own_lt hj hl1).mpr u)), if_pos ((own_lt hj hl13).mp c34)]))) rfl ?_
          refine g_iconst X0 hx 73 (hb hby d14_72) (1 : Int32) (by decide) rfl ?_
          refine g_goto X0 hx 77 (hb hby d14_73) (by decide) (by decide) ?_
          refine g_nret X0 hx (by simp) hret hlk (hb hby d14_77) (by decide) (by decide) ?_
          exact ⟨rfl, N0, e0⟩
        · refine g_icT X0 hx 49 (hb hby d14_34) (Jvm.Free.XT.ii_ge_t c34) (by decide) (by decide) ?_
          have u1 : ¬ j < l1N + l3N := fun u => c34 ((own_lt hj hl13).mpr u)
          have hix2 : (((o2 + i) - l1) - l3).toInt = ((o2N + (j - l1N - l3N) : Nat) : Int) := by
            have u := own_minus (own_minus (own_plus ho2 hj (by omega)) hl1 (by omega) (by omega)) hl3 (by omega) (by omega)
            rw [u]; omega
          refine g_aload X0 hx 51 (hb hby d14_49) rfl rfl rfl ?_
          refine g_iload X0 hx 53 (hb hby d14_51) rfl rfl ?_
          refine g_iloadN X0 hx 54 (hb hby d14_53) rfl rfl ?_
          refine g_iadd X0 hx 55 (hb hby d14_54) rfl ?_
          refine g_iload X0 hx 57 (hb hby d14_55) rfl rfl ?_
          refine g_isub X0 hx 58 (hb hby d14_57) rfl ?_
          refine g_iload X0 hx 60 (hb hby d14_58) rfl rfl ?_
          refine g_isub X0 hx 61 (hb hby d14_60) rfl ?_
          refine g_baload X0 hx hZ 62 e0 F_f2 (hb hby d14_61) (o2N + (j - l1N - l3N)) hix2 (by omega) (.int (g2 (o2N + (j - l1N - l3N)))) rfl rfl ?_
          refine g_istore X0 hx 64 (hb hby d14_62) #[.val (.ref r), .val (.int i), .val (.ref f1), .val (.int o1), .val (.int l1), .val (.ref bg), .val (.int l3), .val (.ref f2), .val (.int o2), .val (.int (g2 (o2N + (j - l1N - l3N))))] rfl rfl ?_
          refine g_aloadN X0 hx 65 (hb hby d14_64) rfl rfl rfl ?_
          refine g_iloadN X0 hx 66 (hb hby d14_65) rfl rfl ?_
          refine g_baload X0 hx hZ 67 e0 F_r (hb hby d14_66) (j) hj hjr (.int (gr j)) rfl rfl ?_
          refine g_iload X0 hx 69 (hb hby d14_67) rfl rfl ?_
          refine g_icF X0 hx 72 (hb hby d14_69) (Jvm.Free.XT.ii_ne_f (show (gr j) = (g2 (o2N + (j - l1N - l3N))) from (by rw [hgr j hjr]; unfold Ex; rw [if_neg (fun u => c15 ((own_lt hj hl1).mpr u)), if_neg u1]))) rfl ?_
          refine g_iconst X0 hx 73 (hb hby d14_72) (1 : Int32) (by decide) rfl ?_
          refine g_goto X0 hx 77 (hb hby d14_73) (by decide) (by decide) ?_
          refine g_nret X0 hx (by simp) hret hlk (hb hby d14_77) (by decide) (by decide) ?_
          exact ⟨rfl, N0, e0⟩
    · refine g_icF X0 hx 10 (hb hby d14_7) (Jvm.Free.XT.ii_lt_f c7) rfl ?_
      refine g_iconst X0 hx 11 (hb hby d14_10) (1 : Int32) (by decide) rfl ?_
      refine g_nret X0 hx (by simp) hret hlk (hb hby d14_11) (by decide) (by decide) ?_
      exact ⟨rfl, N0, e0⟩
theorem own_len {y : Int32} {o : Int32} {oN : Nat} (ho : o.toInt = oN) (h3 : oN ≤ 3) {l : Int32} (hl : (y &&& (7 : Int32)) % ((5 : Int32) - o) = l) : 0 ≤ l.toInt ∧ l.toInt + oN ≤ 4 := by
  have m := c_mask y 7 3 (by decide) (by decide)
  have d := own_minus (a := 5) (k := o) (o := 5) (j := oN) (by decide) ho (by omega) (by omega)
  have r := (c_iremV (y &&& 7) ((5 : Int32) - o)).1 (by omega) (by omega)
  rw [hl] at r
  omega
theorem own_ne5 {o : Int32} {oN : Nat} (ho : o.toInt = oN) (h3 : oN ≤ 3) : (5 : Int32) - o ≠ 0 := fun q => by
  have d := own_minus (a := 5) (k := o) (o := 5) (j := oN) (by decide) ho (by omega) (by omega)
  rw [q] at d
  have z : (0 : Int32).toInt = 0 := by decide
  omega
def Q0 (n0 : Nat) (v : Option Value) (h : Heap) (L : List Loc) : Prop := v = some (.int 1) ∧ Fr n0 L
theorem own_cont {g1 gb g2 gA gB gC : Nat → Int32} {o1 l1 l3 o2 l2 : Nat} (h2 : ∀ i, i < 0 + l1 → gB i = gA i) (h3 : ∀ i, i < 0 + l1 + l3 → gC i = gB i) (n1 : ∀ i, i < l1 → gA (0 + i) = g1 (o1 + i)) (n2 : ∀ i, i < l3 → gB (0 + l1 + i) = gb (0 + i)) (n3 : ∀ i, i < l2 → gC (0 + l1 + l3 + i) = g2 (o2 + i)) :
    ∀ j, j < 0 + l1 + l3 + l2 → gC j = Ex g1 gb g2 o1 l1 l3 o2 j := fun j hj => by
  unfold Ex
  by_cases c1 : j < l1
  · rw [if_pos c1, h3 j (by omega), h2 j (by omega)]
    have := n1 j c1
    simpa using this
  · rw [if_neg c1]
    by_cases c2 : j < l1 + l3
    · rw [if_pos c2, h3 j (by omega)]
      have := n2 (j - l1) (by omega)
      rw [show 0 + l1 + (j - l1) = j by omega] at this
      simpa using this
    · rw [if_neg c2]
      have := n3 (j - l1 - l3) (by omega)
      rw [show 0 + l1 + l3 + (j - l1 - l3) = j by omega] at this
      exact this
set_option maxRecDepth 65536 in
set_option maxHeartbeats 40000000 in
theorem rm0 (l : Launch) (Z : State) (a0 : Array Value) (hw : ∀ d ∈ tables_1, d.before a0 Z = true) (ws : List Jvm.Cond) (x0 x1 x2 x3 x4 x5 : Int32) (h0 : Heap) (n0 : Nat) (Z0 : n0 ≤ h0.size)  :
    MetFree l x (head1 (Jvm.Cond.code x code maxLocals ret :: ws) room_1) (fun av_ U_ => av_ = #[(.int x0), (.int x1), (.int x2), (.int x3), (.int x4), (.int x5)] ∧ Z.Warmed39 U_.vm ∧ U_.heap = h0) (fun _ _ _ _ _ => True) (fun _ U_ o_ W_ => ∃ v_ L_, o_ = .returned v_ ∧ Q0 n0 v_ W_.heap L_ ∧ FrameEnd U_ o_ W_ L_ room_1.cells room_1.slots) := by
  refine own_start pn_14 ?_
  intro p e s m below meth c T0 X0 hx hby hml hown hnm hret hlk hZ e0
  have N0 := Fr.nil n0
  have M0 := Z0
  refine Go.cast (show entryFrame m #[(.int x0), (.int x1), (.int x2), (.int x3), (.int x4), (.int x5)] maxLocals = (mkF m 0 #[.val (.int x0), .val (.int x1), .val (.int x2), .val (.int x3), .val (.int x4), .val (.int x5), .unset, .unset, .unset, .unset, .unset, .unset, .unset, .unset, .unset, .unset, .unset, .unset, .unset] []) from (by first | (simp [entryFrame, mkF, argsToLocals, Value.category, maxLocals]; done) | rfl)) ?_
  refine g_iloadN X0 hx 1 (hb hby at_0) rfl rfl ?_
  refine g_callS X0 hx hZ 4 [(.int x0)] [] 0 hown (hw _ (List.mem_of_getElem? (i := 0) rfl)) (hw _ (List.mem_of_getElem? (i := 1) rfl)) (hw _ (List.mem_of_getElem? (i := 2) rfl)) (hw _ (List.mem_of_getElem? (i := 3) rfl)) (by decide) e0 (rm1 l Z a0 hw [] x0 h0 n0 M0) (by decide) (by decide) (by decide) (by decide) (by rw [hml]; rfl) rfl pd_5 rfl (Nat.le_of_eq rfl) (hb hby at_1) rfl ?_
  intro v1 T1 L1 X1 q1
  obtain ⟨f1, g1, rfl, Nq1, Z_f1, G_f1, Kc1, hg1, F_f1⟩ := q1
  have N1 := Fr.app N0 Nq1
  have M1 : n0 ≤ T1.heap.size := Nat.le_trans M0 Kc1.1
  have e1 : T1.heap = T1.heap := rfl
  refine g_astore X1 hx 6 (hb hby at_4) rfl #[.val (.int x0), .val (.int x1), .val (.int x2), .val (.int x3), .val (.int x4), .val (.int x5), .val (.ref f1), .unset, .unset, .unset, .unset, .unset, .unset, .unset, .unset, .unset, .unset, .unset, .unset] rfl rfl ?_
  refine g_iloadN X1 hx 7 (hb hby at_6) rfl rfl ?_
  refine g_callS X1 hx hZ 10 [(.int x1)] [] 0 hown (hw _ (List.mem_of_getElem? (i := 0) rfl)) (hw _ (List.mem_of_getElem? (i := 1) rfl)) (hw _ (List.mem_of_getElem? (i := 2) rfl)) (hw _ (List.mem_of_getElem? (i := 3) rfl)) (by decide) e1 (rm1 l Z a0 hw [] x1 T1.heap n0 M1) (by decide) (by decide) (by decide) (by decide) (by rw [hml]; rfl) rfl pd_5 rfl (Nat.le_of_eq rfl) (hb hby at_7) rfl ?_
  intro v2 T2 L2 X2 q2
  obtain ⟨f2, g2, rfl, Nq2, Z_f2, G_f2, Kc2, hg2, F_f2⟩ := q2
  have N2 := Fr.app N1 Nq2
  have M2 : n0 ≤ T2.heap.size := Nat.le_trans M1 Kc2.1
  have e2 : T2.heap = T2.heap := rfl
  have ne_f1_f2 : f1 ≠ f2 := Nat.ne_of_lt (Nat.lt_of_lt_of_le F_f1.lt G_f2)
  replace F_f1 := F_f1.keep Kc2 nin0
  refine g_astore X2 hx 12 (hb hby at_10) rfl #[.val (.int x0), .val (.int x1), .val (.int x2), .val (.int x3), .val (.int x4), .val (.int x5), .val (.ref f1), .val (.ref f2), .unset, .unset, .unset, .unset, .unset, .unset, .unset, .unset, .unset, .unset, .unset] rfl rfl ?_
  refine g_sipush X2 hx 15 (hb hby at_12) (300 : Int32) (by decide) rfl ?_
  refine g_newarr X2 hx hZ 17 (hw _ (List.mem_of_getElem? (i := 4) rfl)) e2 (hb hby at_15) (300) (by decide) 300 (by decide) (by decide) (by decide) (by decide) rfl ?_
  intro T3 bg X3 E3 g_bg F_bg
  have e3 : T3.heap = T3.heap := rfl
  have N3 := N2
  have Z_bg : n0 ≤ bg := by rw [g_bg]; exact M2
  have M3 : n0 ≤ T3.heap.size := Nat.le_trans M2 E3.1
  have ne_f1_bg : f1 ≠ bg := by rw [g_bg]; exact Nat.ne_of_lt F_f1.lt
  replace F_f1 := F_f1.ext E3
  have ne_f2_bg : f2 ≠ bg := by rw [g_bg]; exact Nat.ne_of_lt F_f2.lt
  replace F_f2 := F_f2.ext E3
  refine g_astore X3 hx 19 (hb hby at_17) rfl #[.val (.int x0), .val (.int x1), .val (.int x2), .val (.int x3), .val (.int x4), .val (.int x5), .val (.ref f1), .val (.ref f2), .val (.ref bg), .unset, .unset, .unset, .unset, .unset, .unset, .unset, .unset, .unset, .unset] rfl rfl ?_
  refine g_aload X3 hx 21 (hb hby at_19) rfl rfl rfl ?_
  refine g_iconst X3 hx 22 (hb hby at_21) (0 : Int32) (by decide) rfl ?_
  refine g_iload X3 hx 24 (hb hby at_22) rfl rfl ?_
  refine g_i2b X3 hx 25 (hb hby at_24) rfl ?_
  refine g_bastore X3 hx hZ 26 e3 F_bg (hb hby at_25) (0) (by decide) (by decide) rfl ?_
  intro T4 X4 W4 G4
  replace F_bg := G4
  have e4 : T4.heap = T4.heap := rfl
  have N4 := Fr.snoc X4 N3 Z_bg
  have M4 : n0 ≤ T4.heap.size := by rw [W4.size]; exact M3
  replace F_f1 := F_f1.other W4 ne_f1_bg
  replace F_f2 := F_f2.other W4 ne_f2_bg
  refine g_aload X4 hx 28 (hb hby at_26) rfl rfl rfl ?_
  refine g_sipush X4 hx 31 (hb hby at_28) (299 : Int32) (by decide) rfl ?_
  refine g_iload X4 hx 33 (hb hby at_31) rfl rfl ?_
  refine g_bipush X4 hx 35 (hb hby at_33) (8 : Int32) (by decide) rfl ?_
  refine g_iushr X4 hx 36 (hb hby at_35) rfl ?_
  refine g_i2b X4 hx 37 (hb hby at_36) rfl ?_
  refine g_bastore X4 hx hZ 38 e4 F_bg (hb hby at_37) (299) (by decide) (by decide) rfl ?_
  intro T5 X5 W5 G5
  replace F_bg := G5
  have e5 : T5.heap = T5.heap := rfl
  have N5 := Fr.snoc X5 N4 Z_bg
  have M5 : n0 ≤ T5.heap.size := by rw [W5.size]; exact M4
  replace F_f1 := F_f1.other W5 ne_f1_bg
  replace F_f2 := F_f2.other W5 ne_f2_bg
  obtain ⟨gb, hgb, Gbg⟩ := own_bytes F_bg (fun i hi => by
      by_cases q1 : i = 299
      · exact ⟨_, by rw [if_pos q1], own_nb _⟩
      · by_cases q2 : i = 0
        · exact ⟨_, by rw [if_neg q1, if_pos q2], own_nb _⟩
        · exact ⟨0, by rw [if_neg q1, if_neg q2]; rfl, rfl⟩)
  replace F_bg := Gbg
  refine g_iloadN X5 hx 39 (hb hby at_38) rfl rfl ?_
  refine g_iconst X5 hx 40 (hb hby at_39) (3 : Int32) (by decide) rfl ?_
  refine g_iand X5 hx 41 (hb hby at_40) rfl ?_
  refine g_istore X5 hx 43 (hb hby at_41) #[.val (.int x0), .val (.int x1), .val (.int x2), .val (.int x3), .val (.int x4), .val (.int x5), .val (.ref f1), .val (.ref f2), .val (.ref bg), .val (.int (x2 &&& (3 : Int32))), .unset, .unset, .unset, .unset, .unset, .unset, .unset, .unset, .unset] rfl rfl ?_
  generalize h_o1 : (x2 &&& (3 : Int32)) = o1
  have r_o1 := c_mask x2 3 2 (by decide) (by decide)
  rw [h_o1] at r_o1
  obtain ⟨o1N, ho1⟩ : ∃ o : Nat, o1.toInt = o := ⟨o1.toInt.toNat, by omega⟩
  have ho13 : o1N ≤ 3 := by omega
  refine g_iloadN X5 hx 44 (hb hby at_43) rfl rfl ?_
  refine g_iconst X5 hx 45 (hb hby at_44) (2 : Int32) (by decide) rfl ?_
  refine g_iushr X5 hx 46 (hb hby at_45) rfl ?_
  refine g_bipush X5 hx 48 (hb hby at_46) (7 : Int32) (by decide) rfl ?_
  refine g_iand X5 hx 49 (hb hby at_48) rfl ?_
  refine g_iconst X5 hx 50 (hb hby at_49) (5 : Int32) (by decide) rfl ?_
  refine g_iload X5 hx 52 (hb hby at_50) rfl rfl ?_
  refine g_isub X5 hx 53 (hb hby at_52) rfl ?_
  refine g_irem X5 hx 54 (hb hby at_53) (own_ne5 ho1 ho13) rfl ?_
  refine g_istore X5 hx 56 (hb hby at_54) #[.val (.int x0), .val (.int x1), .val (.int x2), .val (.int x3), .val (.int x4), .val (.int x5), .val (.ref f1), .val (.ref f2), .val (.ref bg), .val (.int o1), .val (.int ((((x2.toUInt32 >>> ((2 : Int32) &&& 31).toUInt32).toInt32) &&& (7 : Int32)) % ((5 : Int32) - o1))), .unset, .unset, .unset, .unset, .unset, .unset, .unset, .unset] rfl rfl ?_
  generalize h_l1 : ((((x2.toUInt32 >>> ((2 : Int32) &&& 31).toUInt32).toInt32) &&& (7 : Int32)) % ((5 : Int32) - o1)) = l1
  have r_l1 := own_len ho1 ho13 h_l1
  obtain ⟨l1N, hl1⟩ : ∃ o : Nat, l1.toInt = o := ⟨l1.toInt.toNat, by omega⟩
  have hl14 : o1N + l1N ≤ 4 := by omega
  refine g_iloadN X5 hx 57 (hb hby at_56) rfl rfl ?_
  refine g_iconst X5 hx 58 (hb hby at_57) (3 : Int32) (by decide) rfl ?_
  refine g_iand X5 hx 59 (hb hby at_58) rfl ?_
  refine g_istore X5 hx 61 (hb hby at_59) #[.val (.int x0), .val (.int x1), .val (.int x2), .val (.int x3), .val (.int x4), .val (.int x5), .val (.ref f1), .val (.ref f2), .val (.ref bg), .val (.int o1), .val (.int l1), .val (.int (x3 &&& (3 : Int32))), .unset, .unset, .unset, .unset, .unset, .unset, .unset] rfl rfl ?_
  generalize h_o2 : (x3 &&& (3 : Int32)) = o2
  have r_o2 := c_mask x3 3 2 (by decide) (by decide)
  rw [h_o2] at r_o2
  obtain ⟨o2N, ho2⟩ : ∃ o : Nat, o2.toInt = o := ⟨o2.toInt.toNat, by omega⟩
  have ho23 : o2N ≤ 3 := by omega
  refine g_iloadN X5 hx 62 (hb hby at_61) rfl rfl ?_
  refine g_iconst X5 hx 63 (hb hby at_62) (2 : Int32) (by decide) rfl ?_
  refine g_iushr X5 hx 64 (hb hby at_63) rfl ?_
  refine g_bipush X5 hx 66 (hb hby at_64) (7 : Int32) (by decide) rfl ?_
  refine g_iand X5 hx 67 (hb hby at_66) rfl ?_
  refine g_iconst X5 hx 68 (hb hby at_67) (5 : Int32) (by decide) rfl ?_
  refine g_iload X5 hx 70 (hb hby at_68) rfl rfl ?_
  refine g_isub X5 hx 71 (hb hby at_70) rfl ?_
  refine g_irem X5 hx 72 (hb hby at_71) (own_ne5 ho2 ho23) rfl ?_
  refine g_istore X5 hx 74 (hb hby at_72) #[.val (.int x0), .val (.int x1), .val (.int x2), .val (.int x3), .val (.int x4), .val (.int x5), .val (.ref f1), .val (.ref f2), .val (.ref bg), .val (.int o1), .val (.int l1), .val (.int o2), .val (.int ((((x3.toUInt32 >>> ((2 : Int32) &&& 31).toUInt32).toInt32) &&& (7 : Int32)) % ((5 : Int32) - o2))), .unset, .unset, .unset, .unset, .unset, .unset] rfl rfl ?_
  generalize h_l2 : ((((x3.toUInt32 >>> ((2 : Int32) &&& 31).toUInt32).toInt32) &&& (7 : Int32)) % ((5 : Int32) - o2)) = l2
  have r_l2 := own_len ho2 ho23 h_l2
  obtain ⟨l2N, hl2⟩ : ∃ o : Nat, l2.toInt = o := ⟨l2.toInt.toNat, by omega⟩
  have hl24 : o2N + l2N ≤ 4 := by omega
  have J88 : ∀ (l3 : Int32) (l3N : Nat), (l3.toInt = l3N) → (l3N = 0 ∨ l3N = 300) → Go p e below (Qend s (Q0 n0) room_1.cells room_1.slots) T5 (mkF m 88 #[.val (.int x0), .val (.int x1), .val (.int x2), .val (.int x3), .val (.int x4), .val (.int x5), .val (.ref f1), .val (.ref f2), .val (.ref bg), .val (.int o1), .val (.int l1), .val (.int o2), .val (.int l2), .unset, .unset, .unset, .unset, .unset, .unset] [(.int l3)]) := by
    intro l3 l3N hl3 hl3d
    refine g_istore X5 hx 90 (hb hby at_88) #[.val (.int x0), .val (.int x1), .val (.int x2), .val (.int x3), .val (.int x4), .val (.int x5), .val (.ref f1), .val (.ref f2), .val (.ref bg), .val (.int o1), .val (.int l1), .val (.int o2), .val (.int l2), .val (.int l3), .unset, .unset, .unset, .unset, .unset] rfl rfl ?_
    refine g_new X5 hx hZ 93 hown (hw _ (List.mem_of_getElem? (i := 5) rfl)) (hw _ (List.mem_of_getElem? (i := 6) rfl)) (hw _ (List.mem_of_getElem? (i := 7) rfl)) e5 (hb hby at_90) (by decide) (by decide) rfl ?_
    intro T6 b X6 E6 g_b E_b D_b
    have e6 : T6.heap = T6.heap := rfl
    have N6 := N5
    have Z_b : n0 ≤ b := by rw [g_b]; exact M5
    have M6 : n0 ≤ T6.heap.size := Nat.le_trans M5 E6.1
    have ne_f1_b : f1 ≠ b := by rw [g_b]; exact Nat.ne_of_lt F_f1.lt
    replace F_f1 := F_f1.ext E6
    have ne_f2_b : f2 ≠ b := by rw [g_b]; exact Nat.ne_of_lt F_f2.lt
    replace F_f2 := F_f2.ext E6
    have ne_bg_b : bg ≠ b := by rw [g_b]; exact Nat.ne_of_lt F_bg.lt
    replace F_bg := F_bg.ext E6
    have f_b_bytes : Fld Z T6.heap b "com/example/runnel/runnel/MemorySink" "bytes" "[B" (.null) := D_b (show Laid Z a0 "com/example/runnel/runnel/MemorySink" "com/example/runnel/runnel/MemorySink" "bytes" "[B" from Or.inl (hw _ (List.mem_of_getElem? (i := 15) rfl))) (ty := (.array .byte)) (by decide)
    have f_b_size : Fld Z T6.heap b "com/example/runnel/runnel/MemorySink" "size" "I" (.int (0 : Int32)) := D_b (show Laid Z a0 "com/example/runnel/runnel/MemorySink" "com/example/runnel/runnel/MemorySink" "size" "I" from Or.inl (hw _ (List.mem_of_getElem? (i := 32) rfl))) (ty := .int) (by decide)
    have f_b_closed : Fld Z T6.heap b "com/example/runnel/runnel/MemorySink" "closed" "Z" (.int (0 : Int32)) := D_b (show Laid Z a0 "com/example/runnel/runnel/MemorySink" "com/example/runnel/runnel/MemorySink" "closed" "Z" from Or.inl (hw _ (List.mem_of_getElem? (i := 30) rfl))) (ty := .boolean) (by decide)
    refine g_dup X6 hx 94 (hb hby at_93) rfl rfl ?_
    refine g_special X6 hx hZ 97 b [] [(.ref b)] 1 rfl hown (hw _ (List.mem_of_getElem? (i := 8) rfl)) (hw _ (List.mem_of_getElem? (i := 9) rfl)) (hw _ (List.mem_of_getElem? (i := 7) rfl)) (hw _ (List.mem_of_getElem? (i := 10) rfl)) (by decide) e6 (rm2 l Z a0 hw [] b T6.heap n0 M6 E_b Z_b f_b_bytes f_b_size f_b_closed) (by decide) (by decide) (by decide) (by decide) (by rw [hml]; rfl) rfl pd_6 rfl (Nat.le_of_eq rfl) (hb hby at_94) rfl ?_
    intro v7 T7 L7 X7 q7
    obtain ⟨rfl, Nq7, Kc7, t, Z_t, G_t, ⟨Eb, fb1, fb2, fb3⟩, F_t⟩ := q7
    have N7 := Fr.app N6 Nq7
    have M7 : n0 ≤ T7.heap.size := Nat.le_trans M6 Kc7.1
    have e7 : T7.heap = T7.heap := rfl
    have ne_f1_t : f1 ≠ t := Nat.ne_of_lt (Nat.lt_of_lt_of_le F_f1.lt G_t)
    have ne_f2_t : f2 ≠ t := Nat.ne_of_lt (Nat.lt_of_lt_of_le F_f2.lt G_t)
    have ne_bg_t : bg ≠ t := Nat.ne_of_lt (Nat.lt_of_lt_of_le F_bg.lt G_t)
    have ne_b_t : b ≠ t := Nat.ne_of_lt (Nat.lt_of_lt_of_le E_b.lt G_t)
    replace F_f1 := F_f1.keep Kc7 (ninS ne_f1_b nin0)
    replace F_f2 := F_f2.keep Kc7 (ninS ne_f2_b nin0)
    replace F_bg := F_bg.keep Kc7 (ninS ne_bg_b nin0)
    replace E_b := Eb
    replace f_b_bytes := fb1
    replace f_b_size := fb2
    replace f_b_closed := fb3
    refine g_astore X7 hx 99 (hb hby at_97) rfl #[.val (.int x0), .val (.int x1), .val (.int x2), .val (.int x3), .val (.int x4), .val (.int x5), .val (.ref f1), .val (.ref f2), .val (.ref bg), .val (.int o1), .val (.int l1), .val (.int o2), .val (.int l2), .val (.int l3), .val (.ref b), .unset, .unset, .unset, .unset] rfl rfl ?_
    refine g_aload X7 hx 101 (hb hby at_99) rfl rfl rfl ?_
    refine g_aload X7 hx 103 (hb hby at_101) rfl rfl rfl ?_
    refine g_iload X7 hx 105 (hb hby at_103) rfl rfl ?_
    refine g_iload X7 hx 107 (hb hby at_105) rfl rfl ?_
    refine g_virtual X7 hx hZ 110 b [(.ref f1), (.int o1), (.int l1)] [] 0 E_b hown (hw _ (List.mem_of_getElem? (i := 16) rfl)) (hw _ (List.mem_of_getElem? (i := 17) rfl)) (hw _ (List.mem_of_getElem? (i := 19) rfl)) (hw _ (List.mem_of_getElem? (i := 18) rfl)) (hw _ (List.mem_of_getElem? (i := 7) rfl)) (hw _ (List.mem_of_getElem? (i := 20) rfl)) (by decide) e7 (rm4 l Z a0 hw [] b t f1 o1 l1 (0 : Int32) (4 : Int32) o1N l1N 0 4 256 (fun _ => 0) g1 T7.heap n0 M7 E_b f_b_bytes f_b_size f_b_closed F_t (fun _ => rfl) F_f1 hg1 (by decide) ho1 hl1 (by decide) (by decide) (by omega) (Or.inl ⟨rfl, by omega⟩) Z_b Z_t ne_f1_b ne_f1_t ne_b_t) (by decide) (by decide) (by decide) (by decide) (by rw [hml]; rfl) rfl pd_7 rfl (Nat.le_of_eq rfl) (hb hby at_107) rfl ?_
    intro v8 T8 L8 X8 q8
    obtain ⟨rfl, Nq8, Kc8, t1, cap_t1, sz_t1, g_t1, Z_t1, tw, nb, ⟨Eb, fb1, fb2, fb3⟩, Fa, hg_t1, hsz_t1, hcap_t1, ho_t1, hn_t1⟩ := q8
    have N8 := Fr.app N7 Nq8
    have M8 : n0 ≤ T8.heap.size := Nat.le_trans M7 Kc8.1
    have e8 : T8.heap = T8.heap := rfl
    have ne_f1_t1 : f1 ≠ t1 := by
      rcases tw with h | h
      · rw [h]; exact ne_f1_t
      · exact Nat.ne_of_lt (Nat.lt_of_lt_of_le F_f1.lt h)
    have ne_f2_t1 : f2 ≠ t1 := by
      rcases tw with h | h
      · rw [h]; exact ne_f2_t
      · exact Nat.ne_of_lt (Nat.lt_of_lt_of_le F_f2.lt h)
    have ne_bg_t1 : bg ≠ t1 := by
      rcases tw with h | h
      · rw [h]; exact ne_bg_t
      · exact Nat.ne_of_lt (Nat.lt_of_lt_of_le F_bg.lt h)
    replace F_f1 := F_f1.keep Kc8 (ninS ne_f1_b (ninS ne_f1_t nin0))
    replace F_f2 := F_f2.keep Kc8 (ninS ne_f2_b (ninS ne_f2_t nin0))
    replace F_bg := F_bg.keep Kc8 (ninS ne_bg_b (ninS ne_bg_t nin0))
    replace E_b := Eb
    replace f_b_bytes := fb1
    replace f_b_size := fb2
    replace f_b_closed := fb3
    have F_t1 := Fa
    have ne_b_t1 := nb
    clear tw nb
    refine g_aload X8 hx 112 (hb hby at_110) rfl rfl rfl ?_
    refine g_aload X8 hx 114 (hb hby at_112) rfl rfl rfl ?_
    refine g_iconst X8 hx 115 (hb hby at_114) (0 : Int32) (by decide) rfl ?_
    refine g_iload X8 hx 117 (hb hby at_115) rfl rfl ?_
    refine g_virtual X8 hx hZ 120 b [(.ref bg), (.int (0 : Int32)), (.int l3)] [] 0 E_b hown (hw _ (List.mem_of_getElem? (i := 16) rfl)) (hw _ (List.mem_of_getElem? (i := 17) rfl)) (hw _ (List.mem_of_getElem? (i := 19) rfl)) (hw _ (List.mem_of_getElem? (i := 18) rfl)) (hw _ (List.mem_of_getElem? (i := 7) rfl)) (hw _ (List.mem_of_getElem? (i := 20) rfl)) (by decide) e8 (rm4 l Z a0 hw [] b t1 bg (0 : Int32) l3 sz_t1 (300 : Int32) 0 l3N (0 + l1N) 300 cap_t1 g_t1 gb T8.heap n0 M8 E_b f_b_bytes f_b_size f_b_closed F_t1 hg_t1 F_bg hgb hsz_t1 (by decide) hl3 (by decide) (by decide) (by omega) (by omega) Z_b Z_t1 ne_bg_b ne_bg_t1 ne_b_t1) (by decide) (by decide) (by decide) (by decide) (by rw [hml]; rfl) rfl pd_7 rfl (Nat.le_of_eq rfl) (hb hby at_117) rfl ?_
    intro v9 T9 L9 X9 q9
    obtain ⟨rfl, Nq9, Kc9, t2, cap_t2, sz_t2, g_t2, Z_t2, tw, nb, ⟨Eb, fb1, fb2, fb3⟩, Fa, hg_t2, hsz_t2, hcap_t2, ho_t2, hn_t2⟩ := q9
    have N9 := Fr.app N8 Nq9
    have M9 : n0 ≤ T9.heap.size := Nat.le_trans M8 Kc9.1
    have e9 : T9.heap = T9.heap := rfl
    have ne_f1_t2 : f1 ≠ t2 := by
      rcases tw with h | h
      · rw [h]; exact ne_f1_t1
      · exact Nat.ne_of_lt (Nat.lt_of_lt_of_le F_f1.lt h)
    have ne_f2_t2 : f2 ≠ t2 := by
      rcases tw with h | h
      · rw [h]; exact ne_f2_t1
      · exact Nat.ne_of_lt (Nat.lt_of_lt_of_le F_f2.lt h)
    have ne_bg_t2 : bg ≠ t2 := by
      rcases tw with h | h
      · rw [h]; exact ne_bg_t1
      · exact Nat.ne_of_lt (Nat.lt_of_lt_of_le F_bg.lt h)
    replace F_f1 := F_f1.keep Kc9 (ninS ne_f1_b (ninS ne_f1_t1 nin0))
    replace F_f2 := F_f2.keep Kc9 (ninS ne_f2_b (ninS ne_f2_t1 nin0))
    replace F_bg := F_bg.keep Kc9 (ninS ne_bg_b (ninS ne_bg_t1 nin0))
    replace E_b := Eb
    replace f_b_bytes := fb1
    replace f_b_size := fb2
    replace f_b_closed := fb3
    have F_t2 := Fa
    have ne_b_t2 := nb
    clear tw nb
    refine g_aload X9 hx 122 (hb hby at_120) rfl rfl rfl ?_
    refine g_aload X9 hx 124 (hb hby at_122) rfl rfl rfl ?_
    refine g_iload X9 hx 126 (hb hby at_124) rfl rfl ?_
    refine g_iload X9 hx 128 (hb hby at_126) rfl rfl ?_
    refine g_virtual X9 hx hZ 131 b [(.ref f2), (.int o2), (.int l2)] [] 0 E_b hown (hw _ (List.mem_of_getElem? (i := 16) rfl)) (hw _ (List.mem_of_getElem? (i := 17) rfl)) (hw _ (List.mem_of_getElem? (i := 19) rfl)) (hw _ (List.mem_of_getElem? (i := 18) rfl)) (hw _ (List.mem_of_getElem? (i := 7) rfl)) (hw _ (List.mem_of_getElem? (i := 20) rfl)) (by decide) e9 (rm4 l Z a0 hw [] b t2 f2 o2 l2 sz_t2 (4 : Int32) o2N l2N (0 + l1N + l3N) 4 cap_t2 g_t2 g2 T9.heap n0 M9 E_b f_b_bytes f_b_size f_b_closed F_t2 hg_t2 F_f2 hg2 hsz_t2 ho2 hl2 (by decide) (by decide) (by omega) (by omega) Z_b Z_t2 ne_f2_b ne_f2_t2 ne_b_t2) (by decide) (by decide) (by decide) (by decide) (by rw [hml]; rfl) rfl pd_7 rfl (Nat.le_of_eq rfl) (hb hby at_128) rfl ?_
    intro v10 T10 L10 X10 q10
    obtain ⟨rfl, Nq10, Kc10, t3, cap_t3, sz_t3, g_t3, Z_t3, tw, nb, ⟨Eb, fb1, fb2, fb3⟩, Fa, hg_t3, hsz_t3, hcap_t3, ho_t3, hn_t3⟩ := q10
    have N10 := Fr.app N9 Nq10
    have M10 : n0 ≤ T10.heap.size := Nat.le_trans M9 Kc10.1
    have e10 : T10.heap = T10.heap := rfl
    have ne_f1_t3 : f1 ≠ t3 := by
      rcases tw with h | h
      · rw [h]; exact ne_f1_t2
      · exact Nat.ne_of_lt (Nat.lt_of_lt_of_le F_f1.lt h)
    have ne_f2_t3 : f2 ≠ t3 := by
      rcases tw with h | h
      · rw [h]; exact ne_f2_t2
      · exact Nat.ne_of_lt (Nat.lt_of_lt_of_le F_f2.lt h)
    have ne_bg_t3 : bg ≠ t3 := by
      rcases tw with h | h
      · rw [h]; exact ne_bg_t2
      · exact Nat.ne_of_lt (Nat.lt_of_lt_of_le F_bg.lt h)
    replace F_f1 := F_f1.keep Kc10 (ninS ne_f1_b (ninS ne_f1_t2 nin0))
    replace F_f2 := F_f2.keep Kc10 (ninS ne_f2_b (ninS ne_f2_t2 nin0))
    replace F_bg := F_bg.keep Kc10 (ninS ne_bg_b (ninS ne_bg_t2 nin0))
    replace E_b := Eb
    replace f_b_bytes := fb1
    replace f_b_size := fb2
    replace f_b_closed := fb3
    have F_t3 := Fa
    have ne_b_t3 := nb
    clear tw nb
    have hcont : ∀ j, j < 0 + l1N + l3N + l2N → g_t3 j = Ex g1 gb g2 o1N l1N l3N o2N j := own_cont ho_t2 ho_t3 hn_t1 hn_t2 hn_t3
    have J155 : ∀ (Tj : State) (Lj : List Loc) (cj : Int32), Stand p l e room_1 s m #[(.int x0), (.int x1), (.int x2), (.int x3), (.int x4), (.int x5)] below meth c Tj Lj 8 2103 → Fr n0 Lj → n0 ≤ Tj.heap.size → Snk Z Tj.heap b t3 sz_t3 cj → AV Z Tj.heap t3 .byte cap_t3 (fun i => .int (g_t3 i)) → AV Z Tj.heap f1 .byte 4 (fun i => .int (g1 i)) → AV Z Tj.heap f2 .byte 4 (fun i => .int (g2 i)) → AV Z Tj.heap bg .byte 300 (fun i => .int (gb i)) → Go p e below (Qend s (Q0 n0) room_1.cells room_1.slots) Tj (mkF m 155 #[.val (.int x0), .val (.int x1), .val (.int x2), .val (.int x3), .val (.int x4), .val (.int x5), .val (.ref f1), .val (.ref f2), .val (.ref bg), .val (.int o1), .val (.int l1), .val (.int o2), .val (.int l2), .val (.int l3), .val (.ref b), .unset, .unset, .unset, .unset] []) := by
      intro Tj Lj cj Xj Nj Mj hSnk F_t3 F_f1 F_f2 F_bg
      obtain ⟨E_b, f_b_bytes, f_b_size, f_b_closed⟩ := hSnk
      have ej : Tj.heap = Tj.heap := rfl
      refine g_iload Xj hx 157 (hb hby at_155) rfl rfl ?_
      refine g_iload Xj hx 159 (hb hby at_157) rfl rfl ?_
      refine g_iadd Xj hx 160 (hb hby at_159) rfl ?_
      refine g_iload Xj hx 162 (hb hby at_160) rfl rfl ?_
      refine g_iadd Xj hx 163 (hb hby at_162) rfl ?_
      refine g_istore Xj hx 165 (hb hby at_163) #[.val (.int x0), .val (.int x1), .val (.int x2), .val (.int x3), .val (.int x4), .val (.int x5), .val (.ref f1), .val (.ref f2), .val (.ref bg), .val (.int o1), .val (.int l1), .val (.int o2), .val (.int l2), .val (.int l3), .val (.ref b), .val (.int ((l1 + l3) + l2)), .unset, .unset, .unset] rfl rfl ?_
      generalize h_nn : ((l1 + l3) + l2) = nn
      have hnn : nn.toInt = ((0 + l1N + l3N + l2N : Nat) : Int) := by
        rw [← h_nn]
        have u := own_plus (own_plus hl1 hl3 (by omega)) hl2 (by omega)
        rw [u]; simp
      have hszn : sz_t3 = nn := own_z hsz_t3 hnn
      obtain ⟨cz, hcz, hcz5⟩ : ∃ cz : Int32, cz.toInt = cap_t3 ∧ (0 + l1N + l3N + l2N < cap_t3 ∧ cap_t3 ≤ 512) := by
        rcases hcap_t3 with ⟨q, q2⟩ | ⟨q, q2⟩
        · exact ⟨256, by rw [q]; decide, by omega, by omega⟩
        · exact ⟨512, by rw [q]; decide, by omega, by omega⟩
      refine g_aload Xj hx 167 (hb hby at_165) rfl rfl rfl ?_
      refine g_virtual Xj hx hZ 170 b [] [] 0 E_b hown (hw _ (List.mem_of_getElem? (i := 60) rfl)) (hw _ (List.mem_of_getElem? (i := 61) rfl)) (hw _ (List.mem_of_getElem? (i := 63) rfl)) (hw _ (List.mem_of_getElem? (i := 62) rfl)) (hw _ (List.mem_of_getElem? (i := 7) rfl)) (hw _ (List.mem_of_getElem? (i := 64) rfl)) (by decide) ej (rm12 l Z a0 hw [] b t3 sz_t3 cj cz (0 + l1N + l3N + l2N) cap_t3 g_t3 Tj.heap n0 Mj E_b f_b_bytes f_b_size f_b_closed F_t3 hg_t3 hsz_t3 hcz hcz5.1 hcz5.2) (by decide) (by decide) (by decide) (by decide) (by rw [hml]; rfl) rfl pd_8 rfl (Nat.le_of_eq rfl) (hb hby at_167) rfl ?_
      intro v11 T11 L11 X11 q11
      obtain ⟨r, rfl, Nq11, Z_r, G0_r, Kc11, F_r⟩ := q11
      have N11 := Fr.app Nj Nq11
      have M11 : n0 ≤ T11.heap.size := Nat.le_trans Mj Kc11.1
      have e11 : T11.heap = T11.heap := rfl
      have ne_f1_r : f1 ≠ r := Nat.ne_of_lt (Nat.lt_of_lt_of_le F_f1.lt G0_r)
      have ne_f2_r : f2 ≠ r := Nat.ne_of_lt (Nat.lt_of_lt_of_le F_f2.lt G0_r)
      have ne_bg_r : bg ≠ r := Nat.ne_of_lt (Nat.lt_of_lt_of_le F_bg.lt G0_r)
      have ne_b_r : b ≠ r := Nat.ne_of_lt (Nat.lt_of_lt_of_le E_b.lt G0_r)
      have ne_t3_r : t3 ≠ r := Nat.ne_of_lt (Nat.lt_of_lt_of_le F_t3.lt G0_r)
      replace F_f1 := F_f1.keep Kc11 nin0
      replace F_f2 := F_f2.keep Kc11 nin0
      replace F_bg := F_bg.keep Kc11 nin0
      replace E_b := E_b.keep Kc11
      replace f_b_bytes := f_b_bytes.keep Kc11 nin0
      replace f_b_size := f_b_size.keep Kc11 nin0
      replace f_b_closed := f_b_closed.keep Kc11 nin0
      replace F_t3 := F_t3.keep Kc11 nin0
      refine g_astore X11 hx 172 (hb hby at_170) rfl #[.val (.int x0), .val (.int x1), .val (.int x2), .val (.int x3), .val (.int x4), .val (.int x5), .val (.ref f1), .val (.ref f2), .val (.ref bg), .val (.int o1), .val (.int l1), .val (.int o2), .val (.int l2), .val (.int l3), .val (.ref b), .val (.int nn), .val (.ref r), .unset, .unset] rfl rfl ?_
      refine g_aload X11 hx 174 (hb hby at_172) rfl rfl rfl ?_
      refine g_arrlen X11 hx hZ 175 e11 F_r nn hnn (hb hby at_174) rfl ?_
      refine g_iload X11 hx 177 (hb hby at_175) rfl rfl ?_
      refine g_icF X11 hx 180 (hb hby at_177) (Jvm.Free.XT.ii_ne_f (show nn = nn from rfl)) rfl ?_
      refine g_aload X11 hx 182 (hb hby at_180) rfl rfl rfl ?_
      refine g_virtual X11 hx hZ 185 b [] [] 0 E_b hown (hw _ (List.mem_of_getElem? (i := 65) rfl)) (hw _ (List.mem_of_getElem? (i := 66) rfl)) (hw _ (List.mem_of_getElem? (i := 68) rfl)) (hw _ (List.mem_of_getElem? (i := 67) rfl)) (hw _ (List.mem_of_getElem? (i := 7) rfl)) (hw _ (List.mem_of_getElem? (i := 69) rfl)) (by decide) e11 (rm13 l Z a0 hw [] b sz_t3 T11.heap n0 M11 f_b_size) (by decide) (by decide) (by decide) (by decide) (by rw [hml]; rfl) rfl pd_9 rfl (Nat.le_of_eq rfl) (hb hby at_182) rfl ?_
      intro v12 T12 L12 X12 q12
      obtain ⟨rfl, Nq12, e12⟩ := q12
      have N12 := Fr.app N11 Nq12
      have M12 := M11
      refine g_iload X12 hx 187 (hb hby at_185) rfl rfl ?_
      refine g_icT X12 hx 192 (hb hby at_187) (Jvm.Free.XT.ii_eq_t (show sz_t3 = nn from hszn)) (by decide) (by decide) ?_
      refine g_iconst X12 hx 193 (hb hby at_192) (1 : Int32) (by decide) rfl ?_
      refine g_istore X12 hx 195 (hb hby at_193) #[.val (.int x0), .val (.int x1), .val (.int x2), .val (.int x3), .val (.int x4), .val (.int x5), .val (.ref f1), .val (.ref f2), .val (.ref bg), .val (.int o1), .val (.int l1), .val (.int o2), .val (.int l2), .val (.int l3), .val (.ref b), .val (.int nn), .val (.ref r), .val (.int (1 : Int32)), .unset] rfl rfl ?_
      refine g_iload X12 hx 197 (hb hby at_195) rfl rfl ?_
      refine g_aload X12 hx 199 (hb hby at_197) rfl rfl rfl ?_
      refine g_iconst X12 hx 200 (hb hby at_199) (0 : Int32) (by decide) rfl ?_
      refine g_aload X12 hx 202 (hb hby at_200) rfl rfl rfl ?_
      refine g_iload X12 hx 204 (hb hby at_202) rfl rfl ?_
      refine g_iload X12 hx 206 (hb hby at_204) rfl rfl ?_
      refine g_aload X12 hx 208 (hb hby at_206) rfl rfl rfl ?_
      refine g_iload X12 hx 210 (hb hby at_208) rfl rfl ?_
      refine g_aload X12 hx 212 (hb hby at_210) rfl rfl rfl ?_
      refine g_iload X12 hx 214 (hb hby at_212) rfl rfl ?_
      refine g_callS X12 hx hZ 217 [(.ref r), (.int (0 : Int32)), (.ref f1), (.int o1), (.int l1), (.ref bg), (.int l3), (.ref f2), (.int o2)] [(.int (1 : Int32))] 1 hown (hw _ (List.mem_of_getElem? (i := 70) rfl)) (hw _ (List.mem_of_getElem? (i := 71) rfl)) (hw _ (List.mem_of_getElem? (i := 2) rfl)) (hw _ (List.mem_of_getElem? (i := 72) rfl)) (by decide) e12 (rm14 l Z a0 hw [] r (0 : Int32) f1 o1 l1 bg l3 f2 o2 nn (0 + l1N + l3N + l2N) o1N l1N l3N l2N o2N g_t3 g1 gb g2 T11.heap n0 M12 hnn ho1 hl1 hl3 ho2 hl14 (by omega) hl24 (by omega) F_r F_f1 F_bg F_f2 hcont) (by decide) (by decide) (by decide) (by decide) (by rw [hml]; rfl) rfl pd_10 rfl (Nat.le_of_eq rfl) (hb hby at_214) rfl ?_
      intro v13 T13 L13 X13 q13
      obtain ⟨rfl, Nq13, e13⟩ := q13
      have N13 := Fr.app N12 Nq13
      have M13 := M12
      refine g_iand X13 hx 218 (hb hby at_217) rfl ?_
      rw [show ((1 : Int32) &&& (1 : Int32)) = (1 : Int32) from by decide]
      refine g_istore X13 hx 220 (hb hby at_218) #[.val (.int x0), .val (.int x1), .val (.int x2), .val (.int x3), .val (.int x4), .val (.int x5), .val (.ref f1), .val (.ref f2), .val (.ref bg), .val (.int o1), .val (.int l1), .val (.int o2), .val (.int l2), .val (.int l3), .val (.ref b), .val (.int nn), .val (.ref r), .val (.int (1 : Int32)), .unset] rfl rfl ?_
      refine g_iload X13 hx 222 (hb hby at_220) rfl rfl ?_
      refine g_aload X13 hx 224 (hb hby at_222) rfl rfl rfl ?_
      refine g_iconst X13 hx 225 (hb hby at_224) (1 : Int32) (by decide) rfl ?_
      refine g_aload X13 hx 227 (hb hby at_225) rfl rfl rfl ?_
      refine g_iload X13 hx 229 (hb hby at_227) rfl rfl ?_
      refine g_iload X13 hx 231 (hb hby at_229) rfl rfl ?_
      refine g_aload X13 hx 233 (hb hby at_231) rfl rfl rfl ?_
      refine g_iload X13 hx 235 (hb hby at_233) rfl rfl ?_
      refine g_aload X13 hx 237 (hb hby at_235) rfl rfl rfl ?_
      refine g_iload X13 hx 239 (hb hby at_237) rfl rfl ?_
      refine g_callS X13 hx hZ 242 [(.ref r), (.int (1 : Int32)), (.ref f1), (.int o1), (.int l1), (.ref bg), (.int l3), (.ref f2), (.int o2)] [(.int (1 : Int32))] 1 hown (hw _ (List.mem_of_getElem? (i := 70) rfl)) (hw _ (List.mem_of_getElem? (i := 71) rfl)) (hw _ (List.mem_of_getElem? (i := 2) rfl)) (hw _ (List.mem_of_getElem? (i := 72) rfl)) (by decide) e13 (rm14 l Z a0 hw [] r (1 : Int32) f1 o1 l1 bg l3 f2 o2 nn (0 + l1N + l3N + l2N) o1N l1N l3N l2N o2N g_t3 g1 gb g2 T11.heap n0 M13 hnn ho1 hl1 hl3 ho2 hl14 (by omega) hl24 (by omega) F_r F_f1 F_bg F_f2 hcont) (by decide) (by decide) (by decide) (by decide) (by rw [hml]; rfl) rfl pd_10 rfl (Nat.le_of_eq rfl) (hb hby at_239) rfl ?_
      intro v14 T14 L14 X14 q14
      obtain ⟨rfl, Nq14, e14⟩ := q14
      have N14 := Fr.app N13 Nq14
      have M14 := M13
      refine g_iand X14 hx 243 (hb hby at_242) rfl ?_
      rw [show ((1 : Int32) &&& (1 : Int32)) = (1 : Int32) from by decide]
      refine g_istore X14 hx 245 (hb hby at_243) #[.val (.int x0), .val (.int x1), .val (.int x2), .val (.int x3), .val (.int x4), .val (.int x5), .val (.ref f1), .val (.ref f2), .val (.ref bg), .val (.int o1), .val (.int l1), .val (.int o2), .val (.int l2), .val (.int l3), .val (.ref b), .val (.int nn), .val (.ref r), .val (.int (1 : Int32)), .unset] rfl rfl ?_
      refine g_iload X14 hx 247 (hb hby at_245) rfl rfl ?_
      refine g_aload X14 hx 249 (hb hby at_247) rfl rfl rfl ?_
      refine g_iconst X14 hx 250 (hb hby at_249) (2 : Int32) (by decide) rfl ?_
      refine g_aload X14 hx 252 (hb hby at_250) rfl rfl rfl ?_
      refine g_iload X14 hx 254 (hb hby at_252) rfl rfl ?_
      refine g_iload X14 hx 256 (hb hby at_254) rfl rfl ?_
      refine g_aload X14 hx 258 (hb hby at_256) rfl rfl rfl ?_
      refine g_iload X14 hx 260 (hb hby at_258) rfl rfl ?_
      refine g_aload X14 hx 262 (hb hby at_260) rfl rfl rfl ?_
      refine g_iload X14 hx 264 (hb hby at_262) rfl rfl ?_
      refine g_callS X14 hx hZ 267 [(.ref r), (.int (2 : Int32)), (.ref f1), (.int o1), (.int l1), (.ref bg), (.int l3), (.ref f2), (.int o2)] [(.int (1 : Int32))] 1 hown (hw _ (List.mem_of_getElem? (i := 70) rfl)) (hw _ (List.mem_of_getElem? (i := 71) rfl)) (hw _ (List.mem_of_getElem? (i := 2) rfl)) (hw _ (List.mem_of_getElem? (i := 72) rfl)) (by decide) e14 (rm14 l Z a0 hw [] r (2 : Int32) f1 o1 l1 bg l3 f2 o2 nn (0 + l1N + l3N + l2N) o1N l1N l3N l2N o2N g_t3 g1 gb g2 T11.heap n0 M14 hnn ho1 hl1 hl3 ho2 hl14 (by omega) hl24 (by omega) F_r F_f1 F_bg F_f2 hcont) (by decide) (by decide) (by decide) (by decide) (by rw [hml]; rfl) rfl pd_10 rfl (Nat.le_of_eq rfl) (hb hby at_264) rfl ?_
      intro v15 T15 L15 X15 q15
      obtain ⟨rfl, Nq15, e15⟩ := q15
      have N15 := Fr.app N14 Nq15
      have M15 := M14
      refine g_iand X15 hx 268 (hb hby at_267) rfl ?_
      rw [show ((1 : Int32) &&& (1 : Int32)) = (1 : Int32) from by decide]
      refine g_istore X15 hx 270 (hb hby at_268) #[.val (.int x0), .val (.int x1), .val (.int x2), .val (.int x3), .val (.int x4), .val (.int x5), .val (.ref f1), .val (.ref f2), .val (.ref bg), .val (.int o1), .val (.int l1), .val (.int o2), .val (.int l2), .val (.int l3), .val (.ref b), .val (.int nn), .val (.ref r), .val (.int (1 : Int32)), .unset] rfl rfl ?_
      refine g_iload X15 hx 272 (hb hby at_270) rfl rfl ?_
      refine g_aload X15 hx 274 (hb hby at_272) rfl rfl rfl ?_
      refine g_iconst X15 hx 275 (hb hby at_274) (3 : Int32) (by decide) rfl ?_
      refine g_aload X15 hx 277 (hb hby at_275) rfl rfl rfl ?_
      refine g_iload X15 hx 279 (hb hby at_277) rfl rfl ?_
      refine g_iload X15 hx 281 (hb hby at_279) rfl rfl ?_
      refine g_aload X15 hx 283 (hb hby at_281) rfl rfl rfl ?_
      refine g_iload X15 hx 285 (hb hby at_283) rfl rfl ?_
      refine g_aload X15 hx 287 (hb hby at_285) rfl rfl rfl ?_
      refine g_iload X15 hx 289 (hb hby at_287) rfl rfl ?_
      refine g_callS X15 hx hZ 292 [(.ref r), (.int (3 : Int32)), (.ref f1), (.int o1), (.int l1), (.ref bg), (.int l3), (.ref f2), (.int o2)] [(.int (1 : Int32))] 1 hown (hw _ (List.mem_of_getElem? (i := 70) rfl)) (hw _ (List.mem_of_getElem? (i := 71) rfl)) (hw _ (List.mem_of_getElem? (i := 2) rfl)) (hw _ (List.mem_of_getElem? (i := 72) rfl)) (by decide) e15 (rm14 l Z a0 hw [] r (3 : Int32) f1 o1 l1 bg l3 f2 o2 nn (0 + l1N + l3N + l2N) o1N l1N l3N l2N o2N g_t3 g1 gb g2 T11.heap n0 M15 hnn ho1 hl1 hl3 ho2 hl14 (by omega) hl24 (by omega) F_r F_f1 F_bg F_f2 hcont) (by decide) (by decide) (by decide) (by decide) (by rw [hml]; rfl) rfl pd_10 rfl (Nat.le_of_eq rfl) (hb hby at_289) rfl ?_
      intro v16 T16 L16 X16 q16
      obtain ⟨rfl, Nq16, e16⟩ := q16
      have N16 := Fr.app N15 Nq16
      have M16 := M15
      refine g_iand X16 hx 293 (hb hby at_292) rfl ?_
      rw [show ((1 : Int32) &&& (1 : Int32)) = (1 : Int32) from by decide]
      refine g_istore X16 hx 295 (hb hby at_293) #[.val (.int x0), .val (.int x1), .val (.int x2), .val (.int x3), .val (.int x4), .val (.int x5), .val (.ref f1), .val (.ref f2), .val (.ref bg), .val (.int o1), .val (.int l1), .val (.int o2), .val (.int l2), .val (.int l3), .val (.ref b), .val (.int nn), .val (.ref r), .val (.int (1 : Int32)), .unset] rfl rfl ?_
      refine g_iload X16 hx 297 (hb hby at_295) rfl rfl ?_
      refine g_aload X16 hx 299 (hb hby at_297) rfl rfl rfl ?_
      refine g_iconst X16 hx 300 (hb hby at_299) (4 : Int32) (by decide) rfl ?_
      refine g_aload X16 hx 302 (hb hby at_300) rfl rfl rfl ?_
      refine g_iload X16 hx 304 (hb hby at_302) rfl rfl ?_
      refine g_iload X16 hx 306 (hb hby at_304) rfl rfl ?_
      refine g_aload X16 hx 308 (hb hby at_306) rfl rfl rfl ?_
      refine g_iload X16 hx 310 (hb hby at_308) rfl rfl ?_
      refine g_aload X16 hx 312 (hb hby at_310) rfl rfl rfl ?_
      refine g_iload X16 hx 314 (hb hby at_312) rfl rfl ?_
      refine g_callS X16 hx hZ 317 [(.ref r), (.int (4 : Int32)), (.ref f1), (.int o1), (.int l1), (.ref bg), (.int l3), (.ref f2), (.int o2)] [(.int (1 : Int32))] 1 hown (hw _ (List.mem_of_getElem? (i := 70) rfl)) (hw _ (List.mem_of_getElem? (i := 71) rfl)) (hw _ (List.mem_of_getElem? (i := 2) rfl)) (hw _ (List.mem_of_getElem? (i := 72) rfl)) (by decide) e16 (rm14 l Z a0 hw [] r (4 : Int32) f1 o1 l1 bg l3 f2 o2 nn (0 + l1N + l3N + l2N) o1N l1N l3N l2N o2N g_t3 g1 gb g2 T11.heap n0 M16 hnn ho1 hl1 hl3 ho2 hl14 (by omega) hl24 (by omega) F_r F_f1 F_bg F_f2 hcont) (by decide) (by decide) (by decide) (by decide) (by rw [hml]; rfl) rfl pd_10 rfl (Nat.le_of_eq rfl) (hb hby at_314) rfl ?_
      intro v17 T17 L17 X17 q17
      obtain ⟨rfl, Nq17, e17⟩ := q17
      have N17 := Fr.app N16 Nq17
      have M17 := M16
      refine g_iand X17 hx 318 (hb hby at_317) rfl ?_
      rw [show ((1 : Int32) &&& (1 : Int32)) = (1 : Int32) from by decide]
      refine g_istore X17 hx 320 (hb hby at_318) #[.val (.int x0), .val (.int x1), .val (.int x2), .val (.int x3), .val (.int x4), .val (.int x5), .val (.ref f1), .val (.ref f2), .val (.ref bg), .val (.int o1), .val (.int l1), .val (.int o2), .val (.int l2), .val (.int l3), .val (.ref b), .val (.int nn), .val (.ref r), .val (.int (1 : Int32)), .unset] rfl rfl ?_
      refine g_iload X17 hx 322 (hb hby at_320) rfl rfl ?_
      refine g_aload X17 hx 324 (hb hby at_322) rfl rfl rfl ?_
      refine g_iconst X17 hx 325 (hb hby at_324) (5 : Int32) (by decide) rfl ?_
      refine g_aload X17 hx 327 (hb hby at_325) rfl rfl rfl ?_
      refine g_iload X17 hx 329 (hb hby at_327) rfl rfl ?_
      refine g_iload X17 hx 331 (hb hby at_329) rfl rfl ?_
      refine g_aload X17 hx 333 (hb hby at_331) rfl rfl rfl ?_
      refine g_iload X17 hx 335 (hb hby at_333) rfl rfl ?_
      refine g_aload X17 hx 337 (hb hby at_335) rfl rfl rfl ?_
      refine g_iload X17 hx 339 (hb hby at_337) rfl rfl ?_
      refine g_callS X17 hx hZ 342 [(.ref r), (.int (5 : Int32)), (.ref f1), (.int o1), (.int l1), (.ref bg), (.int l3), (.ref f2), (.int o2)] [(.int (1 : Int32))] 1 hown (hw _ (List.mem_of_getElem? (i := 70) rfl)) (hw _ (List.mem_of_getElem? (i := 71) rfl)) (hw _ (List.mem_of_getElem? (i := 2) rfl)) (hw _ (List.mem_of_getElem? (i := 72) rfl)) (by decide) e17 (rm14 l Z a0 hw [] r (5 : Int32) f1 o1 l1 bg l3 f2 o2 nn (0 + l1N + l3N + l2N) o1N l1N l3N l2N o2N g_t3 g1 gb g2 T11.heap n0 M17 hnn ho1 hl1 hl3 ho2 hl14 (by omega) hl24 (by omega) F_r F_f1 F_bg F_f2 hcont) (by decide) (by decide) (by decide) (by decide) (by rw [hml]; rfl) rfl pd_10 rfl (Nat.le_of_eq rfl) (hb hby at_339) rfl ?_
      intro v18 T18 L18 X18 q18
      obtain ⟨rfl, Nq18, e18⟩ := q18
      have N18 := Fr.app N17 Nq18
      have M18 := M17
      refine g_iand X18 hx 343 (hb hby at_342) rfl ?_
      rw [show ((1 : Int32) &&& (1 : Int32)) = (1 : Int32) from by decide]
      refine g_istore X18 hx 345 (hb hby at_343) #[.val (.int x0), .val (.int x1), .val (.int x2), .val (.int x3), .val (.int x4), .val (.int x5), .val (.ref f1), .val (.ref f2), .val (.ref bg), .val (.int o1), .val (.int l1), .val (.int o2), .val (.int l2), .val (.int l3), .val (.ref b), .val (.int nn), .val (.ref r), .val (.int (1 : Int32)), .unset] rfl rfl ?_
      refine g_iload X18 hx 347 (hb hby at_345) rfl rfl ?_
      refine g_aload X18 hx 349 (hb hby at_347) rfl rfl rfl ?_
      refine g_bipush X18 hx 351 (hb hby at_349) (6 : Int32) (by decide) rfl ?_
      refine g_aload X18 hx 353 (hb hby at_351) rfl rfl rfl ?_
      refine g_iload X18 hx 355 (hb hby at_353) rfl rfl ?_
      refine g_iload X18 hx 357 (hb hby at_355) rfl rfl ?_
      refine g_aload X18 hx 359 (hb hby at_357) rfl rfl rfl ?_
      refine g_iload X18 hx 361 (hb hby at_359) rfl rfl ?_
      refine g_aload X18 hx 363 (hb hby at_361) rfl rfl rfl ?_
      refine g_iload X18 hx 365 (hb hby at_363) rfl rfl ?_
      refine g_callS X18 hx hZ 368 [(.ref r), (.int (6 : Int32)), (.ref f1), (.int o1), (.int l1), (.ref bg), (.int l3), (.ref f2), (.int o2)] [(.int (1 : Int32))] 1 hown (hw _ (List.mem_of_getElem? (i := 70) rfl)) (hw _ (List.mem_of_getElem? (i := 71) rfl)) (hw _ (List.mem_of_getElem? (i := 2) rfl)) (hw _ (List.mem_of_getElem? (i := 72) rfl)) (by decide) e18 (rm14 l Z a0 hw [] r (6 : Int32) f1 o1 l1 bg l3 f2 o2 nn (0 + l1N + l3N + l2N) o1N l1N l3N l2N o2N g_t3 g1 gb g2 T11.heap n0 M18 hnn ho1 hl1 hl3 ho2 hl14 (by omega) hl24 (by omega) F_r F_f1 F_bg F_f2 hcont) (by decide) (by decide) (by decide) (by decide) (by rw [hml]; rfl) rfl pd_10 rfl (Nat.le_of_eq rfl) (hb hby at_365) rfl ?_
      intro v19 T19 L19 X19 q19
      obtain ⟨rfl, Nq19, e19⟩ := q19
      have N19 := Fr.app N18 Nq19
      have M19 := M18
      refine g_iand X19 hx 369 (hb hby at_368) rfl ?_
      rw [show ((1 : Int32) &&& (1 : Int32)) = (1 : Int32) from by decide]
      refine g_istore X19 hx 371 (hb hby at_369) #[.val (.int x0), .val (.int x1), .val (.int x2), .val (.int x3), .val (.int x4), .val (.int x5), .val (.ref f1), .val (.ref f2), .val (.ref bg), .val (.int o1), .val (.int l1), .val (.int o2), .val (.int l2), .val (.int l3), .val (.ref b), .val (.int nn), .val (.ref r), .val (.int (1 : Int32)), .unset] rfl rfl ?_
      refine g_iload X19 hx 373 (hb hby at_371) rfl rfl ?_
      refine g_aload X19 hx 375 (hb hby at_373) rfl rfl rfl ?_
      refine g_bipush X19 hx 377 (hb hby at_375) (7 : Int32) (by decide) rfl ?_
      refine g_aload X19 hx 379 (hb hby at_377) rfl rfl rfl ?_
      refine g_iload X19 hx 381 (hb hby at_379) rfl rfl ?_
      refine g_iload X19 hx 383 (hb hby at_381) rfl rfl ?_
      refine g_aload X19 hx 385 (hb hby at_383) rfl rfl rfl ?_
      refine g_iload X19 hx 387 (hb hby at_385) rfl rfl ?_
      refine g_aload X19 hx 389 (hb hby at_387) rfl rfl rfl ?_
      refine g_iload X19 hx 391 (hb hby at_389) rfl rfl ?_
      refine g_callS X19 hx hZ 394 [(.ref r), (.int (7 : Int32)), (.ref f1), (.int o1), (.int l1), (.ref bg), (.int l3), (.ref f2), (.int o2)] [(.int (1 : Int32))] 1 hown (hw _ (List.mem_of_getElem? (i := 70) rfl)) (hw _ (List.mem_of_getElem? (i := 71) rfl)) (hw _ (List.mem_of_getElem? (i := 2) rfl)) (hw _ (List.mem_of_getElem? (i := 72) rfl)) (by decide) e19 (rm14 l Z a0 hw [] r (7 : Int32) f1 o1 l1 bg l3 f2 o2 nn (0 + l1N + l3N + l2N) o1N l1N l3N l2N o2N g_t3 g1 gb g2 T11.heap n0 M19 hnn ho1 hl1 hl3 ho2 hl14 (by omega) hl24 (by omega) F_r F_f1 F_bg F_f2 hcont) (by decide) (by decide) (by decide) (by decide) (by rw [hml]; rfl) rfl pd_10 rfl (Nat.le_of_eq rfl) (hb hby at_391) rfl ?_
      intro v20 T20 L20 X20 q20
      obtain ⟨rfl, Nq20, e20⟩ := q20
      have N20 := Fr.app N19 Nq20
      have M20 := M19
      refine g_iand X20 hx 395 (hb hby at_394) rfl ?_
      rw [show ((1 : Int32) &&& (1 : Int32)) = (1 : Int32) from by decide]
      refine g_istore X20 hx 397 (hb hby at_395) #[.val (.int x0), .val (.int x1), .val (.int x2), .val (.int x3), .val (.int x4), .val (.int x5), .val (.ref f1), .val (.ref f2), .val (.ref bg), .val (.int o1), .val (.int l1), .val (.int o2), .val (.int l2), .val (.int l3), .val (.ref b), .val (.int nn), .val (.ref r), .val (.int (1 : Int32)), .unset] rfl rfl ?_
      refine g_iload X20 hx 399 (hb hby at_397) rfl rfl ?_
      refine g_aload X20 hx 401 (hb hby at_399) rfl rfl rfl ?_
      refine g_iload X20 hx 403 (hb hby at_401) rfl rfl ?_
      refine g_iconst X20 hx 404 (hb hby at_403) (1 : Int32) (by decide) rfl ?_
      refine g_isub X20 hx 405 (hb hby at_404) rfl ?_
      refine g_aload X20 hx 407 (hb hby at_405) rfl rfl rfl ?_
      refine g_iload X20 hx 409 (hb hby at_407) rfl rfl ?_
      refine g_iload X20 hx 411 (hb hby at_409) rfl rfl ?_
      refine g_aload X20 hx 413 (hb hby at_411) rfl rfl rfl ?_
      refine g_iload X20 hx 415 (hb hby at_413) rfl rfl ?_
      refine g_aload X20 hx 417 (hb hby at_415) rfl rfl rfl ?_
      refine g_iload X20 hx 419 (hb hby at_417) rfl rfl ?_
      refine g_callS X20 hx hZ 422 [(.ref r), (.int (nn - (1 : Int32))), (.ref f1), (.int o1), (.int l1), (.ref bg), (.int l3), (.ref f2), (.int o2)] [(.int (1 : Int32))] 1 hown (hw _ (List.mem_of_getElem? (i := 70) rfl)) (hw _ (List.mem_of_getElem? (i := 71) rfl)) (hw _ (List.mem_of_getElem? (i := 2) rfl)) (hw _ (List.mem_of_getElem? (i := 72) rfl)) (by decide) e20 (rm14 l Z a0 hw [] r (nn - (1 : Int32)) f1 o1 l1 bg l3 f2 o2 nn (0 + l1N + l3N + l2N) o1N l1N l3N l2N o2N g_t3 g1 gb g2 T11.heap n0 M20 hnn ho1 hl1 hl3 ho2 hl14 (by omega) hl24 (by omega) F_r F_f1 F_bg F_f2 hcont) (by decide) (by decide) (by decide) (by decide) (by rw [hml]; rfl) rfl pd_10 rfl (Nat.le_of_eq rfl) (hb hby at_419) rfl ?_
      intro v21 T21 L21 X21 q21
      obtain ⟨rfl, Nq21, e21⟩ := q21
      have N21 := Fr.app N20 Nq21
      have M21 := M20
      refine g_iand X21 hx 423 (hb hby at_422) rfl ?_
      rw [show ((1 : Int32) &&& (1 : Int32)) = (1 : Int32) from by decide]
      refine g_istore X21 hx 425 (hb hby at_423) #[.val (.int x0), .val (.int x1), .val (.int x2), .val (.int x3), .val (.int x4), .val (.int x5), .val (.ref f1), .val (.ref f2), .val (.ref bg), .val (.int o1), .val (.int l1), .val (.int o2), .val (.int l2), .val (.int l3), .val (.ref b), .val (.int nn), .val (.ref r), .val (.int (1 : Int32)), .unset] rfl rfl ?_
      refine g_iload X21 hx 427 (hb hby at_425) rfl rfl ?_
      refine g_aload X21 hx 429 (hb hby at_427) rfl rfl rfl ?_
      refine g_iload X21 hx 431 (hb hby at_429) rfl rfl ?_
      refine g_iconst X21 hx 432 (hb hby at_431) (2 : Int32) (by decide) rfl ?_
      refine g_isub X21 hx 433 (hb hby at_432) rfl ?_
      refine g_aload X21 hx 435 (hb hby at_433) rfl rfl rfl ?_
      refine g_iload X21 hx 437 (hb hby at_435) rfl rfl ?_
      refine g_iload X21 hx 439 (hb hby at_437) rfl rfl ?_
      refine g_aload X21 hx 441 (hb hby at_439) rfl rfl rfl ?_
      refine g_iload X21 hx 443 (hb hby at_441) rfl rfl ?_
      refine g_aload X21 hx 445 (hb hby at_443) rfl rfl rfl ?_
      refine g_iload X21 hx 447 (hb hby at_445) rfl rfl ?_
      refine g_callS X21 hx hZ 450 [(.ref r), (.int (nn - (2 : Int32))), (.ref f1), (.int o1), (.int l1), (.ref bg), (.int l3), (.ref f2), (.int o2)] [(.int (1 : Int32))] 1 hown (hw _ (List.mem_of_getElem? (i := 70) rfl)) (hw _ (List.mem_of_getElem? (i := 71) rfl)) (hw _ (List.mem_of_getElem? (i := 2) rfl)) (hw _ (List.mem_of_getElem? (i := 72) rfl)) (by decide) e21 (rm14 l Z a0 hw [] r (nn - (2 : Int32)) f1 o1 l1 bg l3 f2 o2 nn (0 + l1N + l3N + l2N) o1N l1N l3N l2N o2N g_t3 g1 gb g2 T11.heap n0 M21 hnn ho1 hl1 hl3 ho2 hl14 (by omega) hl24 (by omega) F_r F_f1 F_bg F_f2 hcont) (by decide) (by decide) (by decide) (by decide) (by rw [hml]; rfl) rfl pd_10 rfl (Nat.le_of_eq rfl) (hb hby at_447) rfl ?_
      intro v22 T22 L22 X22 q22
      obtain ⟨rfl, Nq22, e22⟩ := q22
      have N22 := Fr.app N21 Nq22
      have M22 := M21
      refine g_iand X22 hx 451 (hb hby at_450) rfl ?_
      rw [show ((1 : Int32) &&& (1 : Int32)) = (1 : Int32) from by decide]
      refine g_istore X22 hx 453 (hb hby at_451) #[.val (.int x0), .val (.int x1), .val (.int x2), .val (.int x3), .val (.int x4), .val (.int x5), .val (.ref f1), .val (.ref f2), .val (.ref bg), .val (.int o1), .val (.int l1), .val (.int o2), .val (.int l2), .val (.int l3), .val (.ref b), .val (.int nn), .val (.ref r), .val (.int (1 : Int32)), .unset] rfl rfl ?_
      refine g_iload X22 hx 455 (hb hby at_453) rfl rfl ?_
      refine g_aload X22 hx 457 (hb hby at_455) rfl rfl rfl ?_
      refine g_iload X22 hx 459 (hb hby at_457) rfl rfl ?_
      refine g_iconst X22 hx 460 (hb hby at_459) (3 : Int32) (by decide) rfl ?_
      refine g_isub X22 hx 461 (hb hby at_460) rfl ?_
      refine g_aload X22 hx 463 (hb hby at_461) rfl rfl rfl ?_
      refine g_iload X22 hx 465 (hb hby at_463) rfl rfl ?_
      refine g_iload X22 hx 467 (hb hby at_465) rfl rfl ?_
      refine g_aload X22 hx 469 (hb hby at_467) rfl rfl rfl ?_
      refine g_iload X22 hx 471 (hb hby at_469) rfl rfl ?_
      refine g_aload X22 hx 473 (hb hby at_471) rfl rfl rfl ?_
      refine g_iload X22 hx 475 (hb hby at_473) rfl rfl ?_
      refine g_callS X22 hx hZ 478 [(.ref r), (.int (nn - (3 : Int32))), (.ref f1), (.int o1), (.int l1), (.ref bg), (.int l3), (.ref f2), (.int o2)] [(.int (1 : Int32))] 1 hown (hw _ (List.mem_of_getElem? (i := 70) rfl)) (hw _ (List.mem_of_getElem? (i := 71) rfl)) (hw _ (List.mem_of_getElem? (i := 2) rfl)) (hw _ (List.mem_of_getElem? (i := 72) rfl)) (by decide) e22 (rm14 l Z a0 hw [] r (nn - (3 : Int32)) f1 o1 l1 bg l3 f2 o2 nn (0 + l1N + l3N + l2N) o1N l1N l3N l2N o2N g_t3 g1 gb g2 T11.heap n0 M22 hnn ho1 hl1 hl3 ho2 hl14 (by omega) hl24 (by omega) F_r F_f1 F_bg F_f2 hcont) (by decide) (by decide) (by decide) (by decide) (by rw [hml]; rfl) rfl pd_10 rfl (Nat.le_of_eq rfl) (hb hby at_475) rfl ?_
      intro v23 T23 L23 X23 q23
      obtain ⟨rfl, Nq23, e23⟩ := q23
      have N23 := Fr.app N22 Nq23
      have M23 := M22
      refine g_iand X23 hx 479 (hb hby at_478) rfl ?_
      rw [show ((1 : Int32) &&& (1 : Int32)) = (1 : Int32) from by decide]
      refine g_istore X23 hx 481 (hb hby at_479) #[.val (.int x0), .val (.int x1), .val (.int x2), .val (.int x3), .val (.int x4), .val (.int x5), .val (.ref f1), .val (.ref f2), .val (.ref bg), .val (.int o1), .val (.int l1), .val (.int o2), .val (.int l2), .val (.int l3), .val (.ref b), .val (.int nn), .val (.ref r), .val (.int (1 : Int32)), .unset] rfl rfl ?_
      refine g_iload X23 hx 483 (hb hby at_481) rfl rfl ?_
      refine g_aload X23 hx 485 (hb hby at_483) rfl rfl rfl ?_
      refine g_iload X23 hx 487 (hb hby at_485) rfl rfl ?_
      refine g_iconst X23 hx 488 (hb hby at_487) (4 : Int32) (by decide) rfl ?_
      refine g_isub X23 hx 489 (hb hby at_488) rfl ?_
      refine g_aload X23 hx 491 (hb hby at_489) rfl rfl rfl ?_
      refine g_iload X23 hx 493 (hb hby at_491) rfl rfl ?_
      refine g_iload X23 hx 495 (hb hby at_493) rfl rfl ?_
      refine g_aload X23 hx 497 (hb hby at_495) rfl rfl rfl ?_
      refine g_iload X23 hx 499 (hb hby at_497) rfl rfl ?_
      refine g_aload X23 hx 501 (hb hby at_499) rfl rfl rfl ?_
      refine g_iload X23 hx 503 (hb hby at_501) rfl rfl ?_
      refine g_callS X23 hx hZ 506 [(.ref r), (.int (nn - (4 : Int32))), (.ref f1), (.int o1), (.int l1), (.ref bg), (.int l3), (.ref f2), (.int o2)] [(.int (1 : Int32))] 1 hown (hw _ (List.mem_of_getElem? (i := 70) rfl)) (hw _ (List.mem_of_getElem? (i := 71) rfl)) (hw _ (List.mem_of_getElem? (i := 2) rfl)) (hw _ (List.mem_of_getElem? (i := 72) rfl)) (by decide) e23 (rm14 l Z a0 hw [] r (nn - (4 : Int32)) f1 o1 l1 bg l3 f2 o2 nn (0 + l1N + l3N + l2N) o1N l1N l3N l2N o2N g_t3 g1 gb g2 T11.heap n0 M23 hnn ho1 hl1 hl3 ho2 hl14 (by omega) hl24 (by omega) F_r F_f1 F_bg F_f2 hcont) (by decide) (by decide) (by decide) (by decide) (by rw [hml]; rfl) rfl pd_10 rfl (Nat.le_of_eq rfl) (hb hby at_503) rfl ?_
      intro v24 T24 L24 X24 q24
      obtain ⟨rfl, Nq24, e24⟩ := q24
      have N24 := Fr.app N23 Nq24
      have M24 := M23
      refine g_iand X24 hx 507 (hb hby at_506) rfl ?_
      rw [show ((1 : Int32) &&& (1 : Int32)) = (1 : Int32) from by decide]
      refine g_istore X24 hx 509 (hb hby at_507) #[.val (.int x0), .val (.int x1), .val (.int x2), .val (.int x3), .val (.int x4), .val (.int x5), .val (.ref f1), .val (.ref f2), .val (.ref bg), .val (.int o1), .val (.int l1), .val (.int o2), .val (.int l2), .val (.int l3), .val (.ref b), .val (.int nn), .val (.ref r), .val (.int (1 : Int32)), .unset] rfl rfl ?_
      refine g_iload X24 hx 511 (hb hby at_509) rfl rfl ?_
      refine g_aload X24 hx 513 (hb hby at_511) rfl rfl rfl ?_
      refine g_iload X24 hx 515 (hb hby at_513) rfl rfl ?_
      refine g_iconst X24 hx 516 (hb hby at_515) (5 : Int32) (by decide) rfl ?_
      refine g_isub X24 hx 517 (hb hby at_516) rfl ?_
      refine g_aload X24 hx 519 (hb hby at_517) rfl rfl rfl ?_
      refine g_iload X24 hx 521 (hb hby at_519) rfl rfl ?_
      refine g_iload X24 hx 523 (hb hby at_521) rfl rfl ?_
      refine g_aload X24 hx 525 (hb hby at_523) rfl rfl rfl ?_
      refine g_iload X24 hx 527 (hb hby at_525) rfl rfl ?_
      refine g_aload X24 hx 529 (hb hby at_527) rfl rfl rfl ?_
      refine g_iload X24 hx 531 (hb hby at_529) rfl rfl ?_
      refine g_callS X24 hx hZ 534 [(.ref r), (.int (nn - (5 : Int32))), (.ref f1), (.int o1), (.int l1), (.ref bg), (.int l3), (.ref f2), (.int o2)] [(.int (1 : Int32))] 1 hown (hw _ (List.mem_of_getElem? (i := 70) rfl)) (hw _ (List.mem_of_getElem? (i := 71) rfl)) (hw _ (List.mem_of_getElem? (i := 2) rfl)) (hw _ (List.mem_of_getElem? (i := 72) rfl)) (by decide) e24 (rm14 l Z a0 hw [] r (nn - (5 : Int32)) f1 o1 l1 bg l3 f2 o2 nn (0 + l1N + l3N + l2N) o1N l1N l3N l2N o2N g_t3 g1 gb g2 T11.heap n0 M24 hnn ho1 hl1 hl3 ho2 hl14 (by omega) hl24 (by omega) F_r F_f1 F_bg F_f2 hcont) (by decide) (by decide) (by decide) (by decide) (by rw [hml]; rfl) rfl pd_10 rfl (Nat.le_of_eq rfl) (hb hby at_531) rfl ?_
      intro v25 T25 L25 X25 q25
      obtain ⟨rfl, Nq25, e25⟩ := q25
      have N25 := Fr.app N24 Nq25
      have M25 := M24
      refine g_iand X25 hx 535 (hb hby at_534) rfl ?_
      rw [show ((1 : Int32) &&& (1 : Int32)) = (1 : Int32) from by decide]
      refine g_istore X25 hx 537 (hb hby at_535) #[.val (.int x0), .val (.int x1), .val (.int x2), .val (.int x3), .val (.int x4), .val (.int x5), .val (.ref f1), .val (.ref f2), .val (.ref bg), .val (.int o1), .val (.int l1), .val (.int o2), .val (.int l2), .val (.int l3), .val (.ref b), .val (.int nn), .val (.ref r), .val (.int (1 : Int32)), .unset] rfl rfl ?_
      refine g_iload X25 hx 539 (hb hby at_537) rfl rfl ?_
      refine g_aload X25 hx 541 (hb hby at_539) rfl rfl rfl ?_
      refine g_iload X25 hx 543 (hb hby at_541) rfl rfl ?_
      refine g_bipush X25 hx 545 (hb hby at_543) (6 : Int32) (by decide) rfl ?_
      refine g_isub X25 hx 546 (hb hby at_545) rfl ?_
      refine g_aload X25 hx 548 (hb hby at_546) rfl rfl rfl ?_
      refine g_iload X25 hx 550 (hb hby at_548) rfl rfl ?_
      refine g_iload X25 hx 552 (hb hby at_550) rfl rfl ?_
      refine g_aload X25 hx 554 (hb hby at_552) rfl rfl rfl ?_
      refine g_iload X25 hx 556 (hb hby at_554) rfl rfl ?_
      refine g_aload X25 hx 558 (hb hby at_556) rfl rfl rfl ?_
      refine g_iload X25 hx 560 (hb hby at_558) rfl rfl ?_
      refine g_callS X25 hx hZ 563 [(.ref r), (.int (nn - (6 : Int32))), (.ref f1), (.int o1), (.int l1), (.ref bg), (.int l3), (.ref f2), (.int o2)] [(.int (1 : Int32))] 1 hown (hw _ (List.mem_of_getElem? (i := 70) rfl)) (hw _ (List.mem_of_getElem? (i := 71) rfl)) (hw _ (List.mem_of_getElem? (i := 2) rfl)) (hw _ (List.mem_of_getElem? (i := 72) rfl)) (by decide) e25 (rm14 l Z a0 hw [] r (nn - (6 : Int32)) f1 o1 l1 bg l3 f2 o2 nn (0 + l1N + l3N + l2N) o1N l1N l3N l2N o2N g_t3 g1 gb g2 T11.heap n0 M25 hnn ho1 hl1 hl3 ho2 hl14 (by omega) hl24 (by omega) F_r F_f1 F_bg F_f2 hcont) (by decide) (by decide) (by decide) (by decide) (by rw [hml]; rfl) rfl pd_10 rfl (Nat.le_of_eq rfl) (hb hby at_560) rfl ?_
      intro v26 T26 L26 X26 q26
      obtain ⟨rfl, Nq26, e26⟩ := q26
      have N26 := Fr.app N25 Nq26
      have M26 := M25
      refine g_iand X26 hx 564 (hb hby at_563) rfl ?_
      rw [show ((1 : Int32) &&& (1 : Int32)) = (1 : Int32) from by decide]
      refine g_istore X26 hx 566 (hb hby at_564) #[.val (.int x0), .val (.int x1), .val (.int x2), .val (.int x3), .val (.int x4), .val (.int x5), .val (.ref f1), .val (.ref f2), .val (.ref bg), .val (.int o1), .val (.int l1), .val (.int o2), .val (.int l2), .val (.int l3), .val (.ref b), .val (.int nn), .val (.ref r), .val (.int (1 : Int32)), .unset] rfl rfl ?_
      refine g_iload X26 hx 568 (hb hby at_566) rfl rfl ?_
      refine g_aload X26 hx 570 (hb hby at_568) rfl rfl rfl ?_
      refine g_iload X26 hx 572 (hb hby at_570) rfl rfl ?_
      refine g_bipush X26 hx 574 (hb hby at_572) (7 : Int32) (by decide) rfl ?_
      refine g_isub X26 hx 575 (hb hby at_574) rfl ?_
      refine g_aload X26 hx 577 (hb hby at_575) rfl rfl rfl ?_
      refine g_iload X26 hx 579 (hb hby at_577) rfl rfl ?_
      refine g_iload X26 hx 581 (hb hby at_579) rfl rfl ?_
      refine g_aload X26 hx 583 (hb hby at_581) rfl rfl rfl ?_
      refine g_iload X26 hx 585 (hb hby at_583) rfl rfl ?_
      refine g_aload X26 hx 587 (hb hby at_585) rfl rfl rfl ?_
      refine g_iload X26 hx 589 (hb hby at_587) rfl rfl ?_
      refine g_callS X26 hx hZ 592 [(.ref r), (.int (nn - (7 : Int32))), (.ref f1), (.int o1), (.int l1), (.ref bg), (.int l3), (.ref f2), (.int o2)] [(.int (1 : Int32))] 1 hown (hw _ (List.mem_of_getElem? (i := 70) rfl)) (hw _ (List.mem_of_getElem? (i := 71) rfl)) (hw _ (List.mem_of_getElem? (i := 2) rfl)) (hw _ (List.mem_of_getElem? (i := 72) rfl)) (by decide) e26 (rm14 l Z a0 hw [] r (nn - (7 : Int32)) f1 o1 l1 bg l3 f2 o2 nn (0 + l1N + l3N + l2N) o1N l1N l3N l2N o2N g_t3 g1 gb g2 T11.heap n0 M26 hnn ho1 hl1 hl3 ho2 hl14 (by omega) hl24 (by omega) F_r F_f1 F_bg F_f2 hcont) (by decide) (by decide) (by decide) (by decide) (by rw [hml]; rfl) rfl pd_10 rfl (Nat.le_of_eq rfl) (hb hby at_589) rfl ?_
      intro v27 T27 L27 X27 q27
      obtain ⟨rfl, Nq27, e27⟩ := q27
      have N27 := Fr.app N26 Nq27
      have M27 := M26
      refine g_iand X27 hx 593 (hb hby at_592) rfl ?_
      rw [show ((1 : Int32) &&& (1 : Int32)) = (1 : Int32) from by decide]
      refine g_istore X27 hx 595 (hb hby at_593) #[.val (.int x0), .val (.int x1), .val (.int x2), .val (.int x3), .val (.int x4), .val (.int x5), .val (.ref f1), .val (.ref f2), .val (.ref bg), .val (.int o1), .val (.int l1), .val (.int o2), .val (.int l2), .val (.int l3), .val (.ref b), .val (.int nn), .val (.ref r), .val (.int (1 : Int32)), .unset] rfl rfl ?_
      refine g_iload X27 hx 597 (hb hby at_595) rfl rfl ?_
      refine g_aload X27 hx 599 (hb hby at_597) rfl rfl rfl ?_
      refine g_iload X27 hx 601 (hb hby at_599) rfl rfl ?_
      refine g_bipush X27 hx 603 (hb hby at_601) (8 : Int32) (by decide) rfl ?_
      refine g_isub X27 hx 604 (hb hby at_603) rfl ?_
      refine g_aload X27 hx 606 (hb hby at_604) rfl rfl rfl ?_
      refine g_iload X27 hx 608 (hb hby at_606) rfl rfl ?_
      refine g_iload X27 hx 610 (hb hby at_608) rfl rfl ?_
      refine g_aload X27 hx 612 (hb hby at_610) rfl rfl rfl ?_
      refine g_iload X27 hx 614 (hb hby at_612) rfl rfl ?_
      refine g_aload X27 hx 616 (hb hby at_614) rfl rfl rfl ?_
      refine g_iload X27 hx 618 (hb hby at_616) rfl rfl ?_
      refine g_callS X27 hx hZ 621 [(.ref r), (.int (nn - (8 : Int32))), (.ref f1), (.int o1), (.int l1), (.ref bg), (.int l3), (.ref f2), (.int o2)] [(.int (1 : Int32))] 1 hown (hw _ (List.mem_of_getElem? (i := 70) rfl)) (hw _ (List.mem_of_getElem? (i := 71) rfl)) (hw _ (List.mem_of_getElem? (i := 2) rfl)) (hw _ (List.mem_of_getElem? (i := 72) rfl)) (by decide) e27 (rm14 l Z a0 hw [] r (nn - (8 : Int32)) f1 o1 l1 bg l3 f2 o2 nn (0 + l1N + l3N + l2N) o1N l1N l3N l2N o2N g_t3 g1 gb g2 T11.heap n0 M27 hnn ho1 hl1 hl3 ho2 hl14 (by omega) hl24 (by omega) F_r F_f1 F_bg F_f2 hcont) (by decide) (by decide) (by decide) (by decide) (by rw [hml]; rfl) rfl pd_10 rfl (Nat.le_of_eq rfl) (hb hby at_618) rfl ?_
      intro v28 T28 L28 X28 q28
      obtain ⟨rfl, Nq28, e28⟩ := q28
      have N28 := Fr.app N27 Nq28
      have M28 := M27
      refine g_iand X28 hx 622 (hb hby at_621) rfl ?_
      rw [show ((1 : Int32) &&& (1 : Int32)) = (1 : Int32) from by decide]
      refine g_istore X28 hx 624 (hb hby at_622) #[.val (.int x0), .val (.int x1), .val (.int x2), .val (.int x3), .val (.int x4), .val (.int x5), .val (.ref f1), .val (.ref f2), .val (.ref bg), .val (.int o1), .val (.int l1), .val (.int o2), .val (.int l2), .val (.int l3), .val (.ref b), .val (.int nn), .val (.ref r), .val (.int (1 : Int32)), .unset] rfl rfl ?_
      refine g_iload X28 hx 626 (hb hby at_624) rfl rfl ?_
      refine g_ifT X28 hx 631 (hb hby at_626) (by decide) (by decide) (by decide) ?_
      refine g_iload X28 hx 633 (hb hby at_631) rfl rfl ?_
      by_cases c633 : (0 : Int32) < nn
      · refine g_ifF X28 hx 636 (hb hby at_633) (Jvm.Free.XT.i0_le_f c633) rfl ?_
        refine g_aload X28 hx 638 (hb hby at_636) rfl rfl rfl ?_
        refine g_iconst X28 hx 639 (hb hby at_638) (0 : Int32) (by decide) rfl ?_
        refine g_aload X28 hx 641 (hb hby at_639) rfl rfl rfl ?_
        refine g_iconst X28 hx 642 (hb hby at_641) (0 : Int32) (by decide) rfl ?_
        refine g_baload X28 hx hZ 643 e28 F_r (hb hby at_642) (0) (by decide) (by have z : (0 : Int32).toInt = 0 := (by decide); rw [Int32.lt_iff_toInt_lt, z, hnn] at c633; omega) (.int (g_t3 0)) rfl rfl ?_
        refine g_iconst X28 hx 644 (hb hby at_643) (1 : Int32) (by decide) rfl ?_
        refine g_ixor X28 hx 645 (hb hby at_644) rfl ?_
        refine g_i2b X28 hx 646 (hb hby at_645) rfl ?_
        refine g_bastore X28 hx hZ 647 e28 F_r (hb hby at_646) (0) (by decide) (by have z : (0 : Int32).toInt = 0 := (by decide); rw [Int32.lt_iff_toInt_lt, z, hnn] at c633; omega) rfl ?_
        intro T29 X29 W29 G29
        replace F_r := G29
        have e29 : T29.heap = T29.heap := rfl
        have N29 := Fr.snoc X29 N28 Z_r
        have M29 : n0 ≤ T29.heap.size := by rw [W29.size]; exact M28
        replace F_f1 := F_f1.other W29 ne_f1_r
        replace F_f2 := F_f2.other W29 ne_f2_r
        replace F_bg := F_bg.other W29 ne_bg_r
        replace E_b := E_b.wr W29
        replace f_b_bytes := f_b_bytes.other W29 (Or.inl ne_b_r)
        replace f_b_size := f_b_size.other W29 (Or.inl ne_b_r)
        replace f_b_closed := f_b_closed.other W29 (Or.inl ne_b_r)
        replace F_t3 := F_t3.other W29 ne_t3_r
        refine g_aload X29 hx 649 (hb hby at_647) rfl rfl rfl ?_
        refine g_virtual X29 hx hZ 652 b [] [] 0 E_b hown (hw _ (List.mem_of_getElem? (i := 60) rfl)) (hw _ (List.mem_of_getElem? (i := 61) rfl)) (hw _ (List.mem_of_getElem? (i := 63) rfl)) (hw _ (List.mem_of_getElem? (i := 62) rfl)) (hw _ (List.mem_of_getElem? (i := 7) rfl)) (hw _ (List.mem_of_getElem? (i := 64) rfl)) (by decide) e29 (rm12 l Z a0 hw [] b t3 sz_t3 cj cz (0 + l1N + l3N + l2N) cap_t3 g_t3 T29.heap n0 M29 E_b f_b_bytes f_b_size f_b_closed F_t3 hg_t3 hsz_t3 hcz hcz5.1 hcz5.2) (by decide) (by decide) (by decide) (by decide) (by rw [hml]; rfl) rfl pd_8 rfl (Nat.le_of_eq rfl) (hb hby at_649) rfl ?_
        intro v30 T30 L30 X30 q30
        obtain ⟨r2, rfl, Nq30, Z_r2, G0_r2, Kc30, F_r2⟩ := q30
        have N30 := Fr.app N29 Nq30
        have M30 : n0 ≤ T30.heap.size := Nat.le_trans M29 Kc30.1
        have e30 : T30.heap = T30.heap := rfl
        have ne_f1_r2 : f1 ≠ r2 := Nat.ne_of_lt (Nat.lt_of_lt_of_le F_f1.lt G0_r2)
        have ne_f2_r2 : f2 ≠ r2 := Nat.ne_of_lt (Nat.lt_of_lt_of_le F_f2.lt G0_r2)
        have ne_bg_r2 : bg ≠ r2 := Nat.ne_of_lt (Nat.lt_of_lt_of_le F_bg.lt G0_r2)
        have ne_b_r2 : b ≠ r2 := Nat.ne_of_lt (Nat.lt_of_lt_of_le E_b.lt G0_r2)
        have ne_t3_r2 : t3 ≠ r2 := Nat.ne_of_lt (Nat.lt_of_lt_of_le F_t3.lt G0_r2)
        have ne_r_r2 : r ≠ r2 := Nat.ne_of_lt (Nat.lt_of_lt_of_le F_r.lt G0_r2)
        replace F_f1 := F_f1.keep Kc30 nin0
        replace F_f2 := F_f2.keep Kc30 nin0
        replace F_bg := F_bg.keep Kc30 nin0
        replace E_b := E_b.keep Kc30
        replace f_b_bytes := f_b_bytes.keep Kc30 nin0
        replace f_b_size := f_b_size.keep Kc30 nin0
        replace f_b_closed := f_b_closed.keep Kc30 nin0
        replace F_t3 := F_t3.keep Kc30 nin0
        replace F_r := F_r.keep Kc30 nin0
        refine g_astore X30 hx 654 (hb hby at_652) rfl #[.val (.int x0), .val (.int x1), .val (.int x2), .val (.int x3), .val (.int x4), .val (.int x5), .val (.ref f1), .val (.ref f2), .val (.ref bg), .val (.int o1), .val (.int l1), .val (.int o2), .val (.int l2), .val (.int l3), .val (.ref b), .val (.int nn), .val (.ref r), .val (.int (1 : Int32)), .val (.ref r2)] rfl rfl ?_
        refine g_aload X30 hx 656 (hb hby at_654) rfl rfl rfl ?_
        refine g_arrlen X30 hx hZ 657 e30 F_r2 nn hnn (hb hby at_656) rfl ?_
        refine g_iload X30 hx 659 (hb hby at_657) rfl rfl ?_
        refine g_icF X30 hx 662 (hb hby at_659) (Jvm.Free.XT.ii_ne_f (show nn = nn from rfl)) rfl ?_
        refine g_aload X30 hx 664 (hb hby at_662) rfl rfl rfl ?_
        refine g_virtual X30 hx hZ 667 b [] [] 0 E_b hown (hw _ (List.mem_of_getElem? (i := 65) rfl)) (hw _ (List.mem_of_getElem? (i := 66) rfl)) (hw _ (List.mem_of_getElem? (i := 68) rfl)) (hw _ (List.mem_of_getElem? (i := 67) rfl)) (hw _ (List.mem_of_getElem? (i := 7) rfl)) (hw _ (List.mem_of_getElem? (i := 69) rfl)) (by decide) e30 (rm13 l Z a0 hw [] b sz_t3 T30.heap n0 M30 f_b_size) (by decide) (by decide) (by decide) (by decide) (by rw [hml]; rfl) rfl pd_9 rfl (Nat.le_of_eq rfl) (hb hby at_664) rfl ?_
        intro v31 T31 L31 X31 q31
        obtain ⟨rfl, Nq31, e31⟩ := q31
        have N31 := Fr.app N30 Nq31
        have M31 := M30
        refine g_iload X31 hx 669 (hb hby at_667) rfl rfl ?_
        refine g_icT X31 hx 674 (hb hby at_669) (Jvm.Free.XT.ii_eq_t (show sz_t3 = nn from hszn)) (by decide) (by decide) ?_
        refine g_aload X31 hx 676 (hb hby at_674) rfl rfl rfl ?_
        refine g_iconst X31 hx 677 (hb hby at_676) (0 : Int32) (by decide) rfl ?_
        refine g_aload X31 hx 679 (hb hby at_677) rfl rfl rfl ?_
        refine g_iload X31 hx 681 (hb hby at_679) rfl rfl ?_
        refine g_iload X31 hx 683 (hb hby at_681) rfl rfl ?_
        refine g_aload X31 hx 685 (hb hby at_683) rfl rfl rfl ?_
        refine g_iload X31 hx 687 (hb hby at_685) rfl rfl ?_
        refine g_aload X31 hx 689 (hb hby at_687) rfl rfl rfl ?_
        refine g_iload X31 hx 691 (hb hby at_689) rfl rfl ?_
        refine g_callS X31 hx hZ 694 [(.ref r2), (.int (0 : Int32)), (.ref f1), (.int o1), (.int l1), (.ref bg), (.int l3), (.ref f2), (.int o2)] [] 0 hown (hw _ (List.mem_of_getElem? (i := 70) rfl)) (hw _ (List.mem_of_getElem? (i := 71) rfl)) (hw _ (List.mem_of_getElem? (i := 2) rfl)) (hw _ (List.mem_of_getElem? (i := 72) rfl)) (by decide) e31 (rm14 l Z a0 hw [] r2 (0 : Int32) f1 o1 l1 bg l3 f2 o2 nn (0 + l1N + l3N + l2N) o1N l1N l3N l2N o2N g_t3 g1 gb g2 T30.heap n0 M31 hnn ho1 hl1 hl3 ho2 hl14 (by omega) hl24 (by omega) F_r2 F_f1 F_bg F_f2 hcont) (by decide) (by decide) (by decide) (by decide) (by rw [hml]; rfl) rfl pd_10 rfl (Nat.le_of_eq rfl) (hb hby at_691) rfl ?_
        intro v32 T32 L32 X32 q32
        obtain ⟨rfl, Nq32, e32⟩ := q32
        have N32 := Fr.app N31 Nq32
        have M32 := M31
        refine g_ifT X32 hx 699 (hb hby at_694) (by decide) (by decide) (by decide) ?_
        refine g_iconst X32 hx 700 (hb hby at_699) (1 : Int32) (by decide) rfl ?_
        refine g_nret X32 hx (by simp) hret hlk (hb hby at_700) (by decide) (by decide) ?_
        exact ⟨rfl, N32⟩
      · refine g_ifT X28 hx 699 (hb hby at_633) (Jvm.Free.XT.i0_le_t c633) (by decide) (by decide) ?_
        refine g_iconst X28 hx 700 (hb hby at_699) (1 : Int32) (by decide) rfl ?_
        refine g_nret X28 hx (by simp) hret hlk (hb hby at_700) (by decide) (by decide) ?_
        exact ⟨rfl, N28⟩
    refine g_iload X10 hx 133 (hb hby at_131) rfl rfl ?_
    refine g_iconst X10 hx 134 (hb hby at_133) (2 : Int32) (by decide) rfl ?_
    refine g_iand X10 hx 135 (hb hby at_134) rfl ?_
    by_cases c135 : (x5 &&& (2 : Int32)) = (0 : Int32)
    · refine g_ifT X10 hx 143 (hb hby at_135) (Jvm.Free.XT.i0_eq_t c135) (by decide) (by decide) ?_
      refine g_iload X10 hx 145 (hb hby at_143) rfl rfl ?_
      refine g_iconst X10 hx 146 (hb hby at_145) (4 : Int32) (by decide) rfl ?_
      refine g_iand X10 hx 147 (hb hby at_146) rfl ?_
      by_cases c147 : (x5 &&& (4 : Int32)) = (0 : Int32)
      · refine g_ifT X10 hx 155 (hb hby at_147) (Jvm.Free.XT.i0_eq_t c147) (by decide) (by decide) ?_
        exact J155 _ _ _ X10 N10 M10 ⟨E_b, f_b_bytes, f_b_size, f_b_closed⟩ F_t3 F_f1 F_f2 F_bg
      · refine g_ifF X10 hx 150 (hb hby at_147) (Jvm.Free.XT.i0_eq_f c147) rfl ?_
        refine g_aload X10 hx 152 (hb hby at_150) rfl rfl rfl ?_
        refine g_virtual X10 hx hZ 155 b [] [] 0 E_b hown (hw _ (List.mem_of_getElem? (i := 73) rfl)) (hw _ (List.mem_of_getElem? (i := 74) rfl)) (hw _ (List.mem_of_getElem? (i := 76) rfl)) (hw _ (List.mem_of_getElem? (i := 75) rfl)) (hw _ (List.mem_of_getElem? (i := 7) rfl)) (hw _ (List.mem_of_getElem? (i := 77) rfl)) (by decide) e10 (rm15 l Z a0 hw [] b t3 sz_t3 (0 : Int32) T10.heap n0 M10 E_b f_b_bytes f_b_size f_b_closed Z_b) (by decide) (by decide) (by decide) (by decide) (by rw [hml]; rfl) rfl pd_6 rfl (Nat.le_of_eq rfl) (hb hby at_152) rfl ?_
        intro v33 T33 L33 X33 q33
        obtain ⟨rfl, Nq33, Kc33, ⟨Eb, fb1, fb2, fb3⟩⟩ := q33
        have N33 := Fr.app N10 Nq33
        have M33 : n0 ≤ T33.heap.size := Nat.le_trans M10 Kc33.1
        have e33 : T33.heap = T33.heap := rfl
        replace F_f1 := F_f1.keep Kc33 (ninS ne_f1_b nin0)
        replace F_f2 := F_f2.keep Kc33 (ninS ne_f2_b nin0)
        replace F_bg := F_bg.keep Kc33 (ninS ne_bg_b nin0)
        replace F_t3 := F_t3.keep Kc33 (ninS (Ne.symm ne_b_t3) nin0)
        replace E_b := Eb
        replace f_b_bytes := fb1
        replace f_b_size := fb2
        replace f_b_closed := fb3
        exact J155 _ _ _ X33 N33 M33 ⟨E_b, f_b_bytes, f_b_size, f_b_closed⟩ F_t3 F_f1 F_f2 F_bg
    · refine g_ifF X10 hx 138 (hb hby at_135) (Jvm.Free.XT.i0_eq_f c135) rfl ?_
      refine g_aload X10 hx 140 (hb hby at_138) rfl rfl rfl ?_
      refine g_virtual X10 hx hZ 143 b [] [] 0 E_b hown (hw _ (List.mem_of_getElem? (i := 55) rfl)) (hw _ (List.mem_of_getElem? (i := 56) rfl)) (hw _ (List.mem_of_getElem? (i := 58) rfl)) (hw _ (List.mem_of_getElem? (i := 57) rfl)) (hw _ (List.mem_of_getElem? (i := 7) rfl)) (hw _ (List.mem_of_getElem? (i := 59) rfl)) (by decide) e10 (rm11 l Z a0 hw [] b t3 sz_t3 (0 : Int32) T10.heap n0 M10 E_b f_b_bytes f_b_size f_b_closed Z_b) (by decide) (by decide) (by decide) (by decide) (by rw [hml]; rfl) rfl pd_6 rfl (Nat.le_of_eq rfl) (hb hby at_140) rfl ?_
      intro v34 T34 L34 X34 q34
      obtain ⟨rfl, Nq34, Kc34, ⟨Eb, fb1, fb2, fb3⟩⟩ := q34
      have N34 := Fr.app N10 Nq34
      have M34 : n0 ≤ T34.heap.size := Nat.le_trans M10 Kc34.1
      have e34 : T34.heap = T34.heap := rfl
      replace F_f1 := F_f1.keep Kc34 (ninS ne_f1_b nin0)
      replace F_f2 := F_f2.keep Kc34 (ninS ne_f2_b nin0)
      replace F_bg := F_bg.keep Kc34 (ninS ne_bg_b nin0)
      replace F_t3 := F_t3.keep Kc34 (ninS (Ne.symm ne_b_t3) nin0)
      replace E_b := Eb
      replace f_b_bytes := fb1
      replace f_b_size := fb2
      replace f_b_closed := fb3
      refine g_iload X34 hx 145 (hb hby at_143) rfl rfl ?_
      refine g_iconst X34 hx 146 (hb hby at_145) (4 : Int32) (by decide) rfl ?_
      refine g_iand X34 hx 147 (hb hby at_146) rfl ?_
      by_cases c147 : (x5 &&& (4 : Int32)) = (0 : Int32)
      · refine g_ifT X34 hx 155 (hb hby at_147) (Jvm.Free.XT.i0_eq_t c147) (by decide) (by decide) ?_
        exact J155 _ _ _ X34 N34 M34 ⟨E_b, f_b_bytes, f_b_size, f_b_closed⟩ F_t3 F_f1 F_f2 F_bg
      · refine g_ifF X34 hx 150 (hb hby at_147) (Jvm.Free.XT.i0_eq_f c147) rfl ?_
        refine g_aload X34 hx 152 (hb hby at_150) rfl rfl rfl ?_
        refine g_virtual X34 hx hZ 155 b [] [] 0 E_b hown (hw _ (List.mem_of_getElem? (i := 73) rfl)) (hw _ (List.mem_of_getElem? (i := 74) rfl)) (hw _ (List.mem_of_getElem? (i := 76) rfl)) (hw _ (List.mem_of_getElem? (i := 75) rfl)) (hw _ (List.mem_of_getElem? (i := 7) rfl)) (hw _ (List.mem_of_getElem? (i := 77) rfl)) (by decide) e34 (rm15 l Z a0 hw [] b t3 sz_t3 (1 : Int32) T34.heap n0 M34 E_b f_b_bytes f_b_size f_b_closed Z_b) (by decide) (by decide) (by decide) (by decide) (by rw [hml]; rfl) rfl pd_6 rfl (Nat.le_of_eq rfl) (hb hby at_152) rfl ?_
        intro v35 T35 L35 X35 q35
        obtain ⟨rfl, Nq35, Kc35, ⟨Eb, fb1, fb2, fb3⟩⟩ := q35
        have N35 := Fr.app N34 Nq35
        have M35 : n0 ≤ T35.heap.size := Nat.le_trans M34 Kc35.1
        have e35 : T35.heap = T35.heap := rfl
        replace F_f1 := F_f1.keep Kc35 (ninS ne_f1_b nin0)
        replace F_f2 := F_f2.keep Kc35 (ninS ne_f2_b nin0)
        replace F_bg := F_bg.keep Kc35 (ninS ne_bg_b nin0)
        replace F_t3 := F_t3.keep Kc35 (ninS (Ne.symm ne_b_t3) nin0)
        replace E_b := Eb
        replace f_b_bytes := fb1
        replace f_b_size := fb2
        replace f_b_closed := fb3
        exact J155 _ _ _ X35 N35 M35 ⟨E_b, f_b_bytes, f_b_size, f_b_closed⟩ F_t3 F_f1 F_f2 F_bg
  refine g_iload X5 hx 76 (hb hby at_74) rfl rfl ?_
  refine g_iconst X5 hx 77 (hb hby at_76) (1 : Int32) (by decide) rfl ?_
  refine g_iand X5 hx 78 (hb hby at_77) rfl ?_
  by_cases c78 : (x5 &&& (1 : Int32)) = (0 : Int32)
  · refine g_ifT X5 hx 87 (hb hby at_78) (Jvm.Free.XT.i0_eq_t c78) (by decide) (by decide) ?_
    refine g_iconst X5 hx 88 (hb hby at_87) (0 : Int32) (by decide) rfl ?_
    exact J88 (0 : Int32) 0 (by decide) (by omega)
  · refine g_ifF X5 hx 81 (hb hby at_78) (Jvm.Free.XT.i0_eq_f c78) rfl ?_
    refine g_sipush X5 hx 84 (hb hby at_81) (300 : Int32) (by decide) rfl ?_
    refine g_goto X5 hx 88 (hb hby at_84) (by decide) (by decide) ?_
    exact J88 (300 : Int32) 300 (by decide) (by omega)
set_option maxRecDepth 65536 in
set_option maxHeartbeats 40000000 in
theorem comes_1 {Post : Tables → Env → Array Value → State → Outcome → State → Prop} (hpost : ∀ tb e args s v u, (limb_1_1.after args s (.returned v) u = true ∧ limb_1_2.after args s (.returned v) u = true ∧ True) → FrameEnd s (.returned v) u (Jvm.fieldLocs frame_1_writes args s ++ Jvm.arrayLocs frame_1_arrays args s ++ Jvm.staticLocs frame_1_statics s) 24 3456 → Post tb e args s (.returned v) u) :
    ArmFor flags0 classFile x code maxLocals ret World_1 tables_1 room_1 Calls_1 rest_1 Pre_1 Post := by
  intro l hfl _ _ p e ha hc hk s m args below hf hA hF happ hP
  obtain ⟨hcalls, hrest, hpre⟩ := hP
  obtain ⟨-, -, -, hnamed, -, -, -, hat⟩ := (Spec.applies_iff hf).mp happ
  obtain ⟨hg, hn⟩ := and_e (Cond.before_iff.mp (show (Jvm.Cond.and given_1 narrow_1).before args s = true from hpre))
  obtain ⟨hcount, hg0⟩ := and_e hg
  obtain ⟨ha0, hg1⟩ := and_e hg0
  obtain ⟨ha1, hg2⟩ := and_e hg1
  obtain ⟨ha2, hg3⟩ := and_e hg2
  obtain ⟨ha3, hg4⟩ := and_e hg3
  obtain ⟨ha4, hg5⟩ := and_e hg4
  obtain ⟨w0, w1, w2, w3, w4, w5, rfl⟩ : ∃ w0 w1 w2 w3 w4 w5 : Value, args = #[w0, w1, w2, w3, w4, w5] := by
    have hs : args.size = 6 := by simpa [Cond.value, given_1] using hcount
    obtain ⟨L⟩ := args
    match L, hs with
    | [w0, w1, w2, w3, w4, w5], _ => exact ⟨w0, w1, w2, w3, w4, w5, rfl⟩
  have hw := fun d (hd : d ∈ tables_1) => atoms_spec (ws := Jvm.Cond.code x code maxLocals ret :: tables_1) hat d (List.mem_cons_of_mem _ hd)
  obtain ⟨i0, ei0⟩ := is_v ha0
  obtain rfl : w0 = (.int i0) := Option.some.inj ei0
  obtain ⟨i1, ei1⟩ := is_v ha1
  obtain rfl : w1 = (.int i1) := Option.some.inj ei1
  obtain ⟨i2, ei2⟩ := is_v ha2
  obtain rfl : w2 = (.int i2) := Option.some.inj ei2
  obtain ⟨i3, ei3⟩ := is_v ha3
  obtain rfl : w3 = (.int i3) := Option.some.inj ei3
  obtain ⟨i4, ei4⟩ := is_v ha4
  obtain rfl : w4 = (.int i4) := Option.some.inj ei4
  obtain ⟨i5, ei5⟩ := is_v hg5
  obtain rfl : w5 = (.int i5) := Option.some.inj ei5
  obtain ⟨n, o, h1, h2, h3, _, L, rfl, ⟨rfl, N⟩, hq⟩ := rm0 l s _ hw tables_1 i0 i1 i2 i3 i4 i5 s.heap s.heap.size (Nat.le_refl _)  p e ha hc hk s m _ below hf ((Spec.applies_iff_loose hf).mp happ).1 ⟨rfl, State.Warmed39.refl s, rfl⟩ trivial
  refine ⟨n, _, h1, h2, h3, hpost _ _ _ _ _ _ ⟨Cond.after_iff.mpr rfl, Cond.after_iff.mpr (eq_i res_at (Term.int_eval (1)) rfl), trivial⟩ ⟨hq.1, hq.2.1, (hq.2.2.sift fun y hy => Or.inr (N y hy)).mono (by decide) (by decide)⟩⟩
theorem main_1_1 : Claimed_1_1 := comes_1 fun _ _ _ _ _ _ h hF => ⟨h.1, hF⟩
theorem main_1_2 : Claimed_1_2 := comes_1 fun _ _ _ _ _ _ h hF => ⟨h.2.1, hF⟩
end Jvm.Pilot.@@N@@
namespace Jvm.Pilot.@@N@@
open Jvm Jvm.ClassFile Sem Op Lib Jvm.Free Jvm.Stand Jvm.Pilot.@@N@@.Jvm.D
/-! MADE BY PROGRAM (witnessworld.py) out of the Statement's table words and the real class files: 18 classes; the members and pool entries that the words name. The judged class is class 1, her method 1. -/
namespace start1
open Jvm.ClassFile
def u (s : String) : CpInfo := .utf8 (stringToUtf16 s)
/-- a pool by its gaps: so many unusable entries, then the entry; so many at the end -/
def gap : Nat → List CpInfo → List CpInfo
  | 0, r => r
  | n + 1, r => .unusable :: gap n r
def poolList (es : List (Nat × CpInfo)) (last : Nat) : List CpInfo := es.foldr (fun e r => gap e.1 (e.2 :: r)) (gap last [])
def pool (es : List (Nat × CpInfo)) (last : Nat) : Array CpInfo := ⟨poolList es last⟩
def fileOf (pool : Array CpInfo) (this : Nat) (attrs : Array Attribute := #[]) (ms : Array MethodInfo := #[]) (fl : Nat := 33) (sup : Nat := 0) (ifs : Array Nat := #[]) (fds : Array FieldInfo := #[]) : ClassFile where
  minorVersion := 0
  majorVersion := 65
  constantPool := pool
  accessFlags := fl
  thisClass := this
  superClass := sup
  interfaces := ifs
  fields := fds
  methods := ms
  attributes := attrs
def plain (name : String) (sup : Option ClassId) : Class where
  name := name
  kind := .ordinary
  loader := none
  accessFlags := 33
  super := sup
  interfaces := #[]
  cf := none
  fields := #[]
  methods := #[]
  instanceTypes := #[]
  staticTypes := #[]
  resolved := #[]
  callSites := []
  init := .initialized
  statics := none
  mirror := none

def pool0 : Array CpInfo := pool [(5, u "<init>"), (0, u "()V"), (1, .class_ 10), (1, u "java/lang/Object")] 113

def k0c0 : Code := { maxStack := 0, maxLocals := 1, code := object_method_1_code, exceptionTable := #[], attributes := #[] }
def k0m0 : Method := { name := "<init>", desc := "()V", sig := { parameters := [], returnType := none }, accessFlags := 1, code := some k0c0 }
/-- java/lang/Object -/
def k0 : Class := { plain "java/lang/Object" none with
  accessFlags := 33
  interfaces := #[]
  cf := some (fileOf pool0 8 #[] #[{ accessFlags := 1, nameIndex := 5, descriptorIndex := 6, attributes := #[] }] 33 0 #[] #[])
  fields := #[]
  methods := #[k0m0]
  instanceTypes := #[]
  staticTypes := #[]
  resolved := Array.replicate 124 none
  statics := none }

def pool1 : Array CpInfo := pool [(2, .class_ 4), (0, .nameAndType 5 6), (0, u "java/lang/Object"), (0, u "<init>"), (0, u "()V"), (0, .methodref 8 9), (0, .class_ 10), (0, .nameAndType 11 12), (0, u "com/example/runnel/runnel/MemorySinkToByteArrayPinLaw"), (0, u "bytesOf"), (0, u "(I)[B"), (0, .class_ 14), (0, u "com/example/runnel/runnel/MemorySink"), (0, .methodref 13 3), (0, .methodref 13 17), (0, .nameAndType 18 19), (0, u "write"), (0, u "([BII)V"), (0, .methodref 13 21), (0, .nameAndType 22 6), (0, u "commit"), (0, .methodref 13 24), (0, .nameAndType 25 6), (0, u "close"), (0, .methodref 13 27), (0, .nameAndType 28 29), (0, u "toByteArray"), (0, u "()[B"), (0, .methodref 13 31), (0, .nameAndType 32 33), (0, u "size"), (0, u "()I"), (0, .methodref 8 35), (0, .nameAndType 36 37), (0, u "at"), (0, u "([BI[BII[BI[BI)Z"), (2, u "law"), (0, u "(IIIIII)Z")] 8

def k1m0 : Method := { name := "<init>", desc := "()V", sig := { parameters := [], returnType := none }, accessFlags := 1, code := none }
def k1c1 : Code := { maxStack := 10, maxLocals := 19, code := code, exceptionTable := #[], attributes := #[] }
def k1m1 : Method := { name := "law", desc := "(IIIIII)Z", sig := { parameters := [.int, .int, .int, .int, .int, .int], returnType := some .boolean }, accessFlags := 9, code := some k1c1 }
def k1c2 : Code := { maxStack := 5, maxLocals := 1, code := method_3_code, exceptionTable := #[], attributes := #[] }
def k1m2 : Method := { name := "bytesOf", desc := "(I)[B", sig := { parameters := [.int], returnType := some (.array .byte) }, accessFlags := 10, code := some k1c2 }
def k1c3 : Code := { maxStack := 3, maxLocals := 10, code := method_4_code, exceptionTable := #[], attributes := #[] }
def k1m3 : Method := { name := "at", desc := "([BI[BII[BI[BI)Z", sig := { parameters := [(.array .byte), .int, (.array .byte), .int, .int, (.array .byte), .int, (.array .byte), .int], returnType := some .boolean }, accessFlags := 10, code := some k1c3 }
/-- com/example/runnel/runnel/MemorySinkToByteArrayPinLaw -/
def k1 : Class := { plain "com/example/runnel/runnel/MemorySinkToByteArrayPinLaw" (some 0) with
  accessFlags := 49
  interfaces := #[]
  cf := some (fileOf pool1 8 #[] #[{ accessFlags := 1, nameIndex := 5, descriptorIndex := 6, attributes := #[] }, { accessFlags := 9, nameIndex := 40, descriptorIndex := 41, attributes := #[] }, { accessFlags := 10, nameIndex := 11, descriptorIndex := 12, attributes := #[] }, { accessFlags := 10, nameIndex := 36, descriptorIndex := 37, attributes := #[] }] 49 2 #[] #[])
  fields := #[]
  methods := #[k1m0, k1m1, k1m2, k1m3]
  instanceTypes := #[]
  staticTypes := #[]
  resolved := Array.replicate 50 none
  statics := none }

def pool2 : Array CpInfo := pool [(1, .class_ 2), (0, u "java/lang/AutoCloseable"), (0, .class_ 4), (0, u "java/lang/Object")] 7

/-- java/lang/AutoCloseable -/
def k2 : Class := { plain "java/lang/AutoCloseable" (some 0) with
  accessFlags := 1537
  interfaces := #[]
  cf := some (fileOf pool2 1 #[] #[] 1537 3 #[] #[])
  fields := #[]
  methods := #[]
  instanceTypes := #[]
  staticTypes := #[]
  resolved := Array.replicate 12 none
  statics := none }

def pool3 : Array CpInfo := pool [(1, .class_ 2), (0, u "java/io/Closeable"), (0, .class_ 4), (0, u "java/lang/Object"), (0, .class_ 6), (0, u "java/lang/AutoCloseable")] 7

/-- java/io/Closeable -/
def k3 : Class := { plain "java/io/Closeable" (some 0) with
  accessFlags := 1537
  interfaces := #[2]
  cf := some (fileOf pool3 1 #[] #[] 1537 3 #[5] #[])
  fields := #[]
  methods := #[]
  instanceTypes := #[]
  staticTypes := #[]
  resolved := Array.replicate 14 none
  statics := none }

def pool4 : Array CpInfo := pool [(1, .class_ 2), (0, u "java/io/Flushable"), (0, .class_ 4), (0, u "java/lang/Object")] 7

/-- java/io/Flushable -/
def k4 : Class := { plain "java/io/Flushable" (some 0) with
  accessFlags := 1537
  interfaces := #[]
  cf := some (fileOf pool4 1 #[] #[] 1537 3 #[] #[])
  fields := #[]
  methods := #[]
  instanceTypes := #[]
  staticTypes := #[]
  resolved := Array.replicate 12 none
  statics := none }

def pool5 : Array CpInfo := pool [(12, .class_ 13), (0, u "com/example/runnel/runnel/ByteSink"), (0, .class_ 15), (0, u "java/lang/Object"), (0, .class_ 17), (0, u "java/io/Closeable"), (0, .class_ 19), (0, u "java/io/Flushable")] 15

/-- com/example/runnel/runnel/ByteSink -/
def k5 : Class := { plain "com/example/runnel/runnel/ByteSink" (some 0) with
  accessFlags := 1537
  interfaces := #[3, 4]
  cf := some (fileOf pool5 12 #[] #[] 1537 14 #[16, 18] #[])
  fields := #[]
  methods := #[]
  instanceTypes := #[]
  staticTypes := #[]
  resolved := Array.replicate 35 none
  statics := none }

def pool6 : Array CpInfo := pool [(3, .methodref 4 5), (0, .class_ 6), (0, .nameAndType 7 8), (0, u "java/lang/Object"), (0, u "<init>"), (0, u "()V"), (0, .class_ 10), (0, u "com/example/runnel/runnel/MemorySink"), (0, .fieldref 9 12), (0, .nameAndType 13 14), (0, u "bytes"), (0, u "[B"), (0, .methodref 16 17), (0, .class_ 18), (0, .nameAndType 19 20), (0, u "java/util/Objects"), (0, u "checkFromIndexSize"), (0, u "(III)I"), (0, .fieldref 9 22), (0, .nameAndType 23 24), (0, u "closed"), (0, u "Z"), (7, .fieldref 9 33), (0, .nameAndType 34 35), (0, u "size"), (0, u "I"), (0, .methodref 9 37), (0, .nameAndType 38 39), (0, u "grow"), (0, u "(I)V"), (0, .methodref 41 42), (0, .class_ 43), (0, .nameAndType 44 45), (0, u "java/lang/System"), (0, u "arraycopy"), (0, u "(Ljava/lang/Object;ILjava/lang/Object;II)V"), (0, .integer 2147483639), (4, .integer 1073741819), (0, .methodref 53 54), (0, .class_ 55), (0, .nameAndType 56 57), (0, u "java/lang/Math"), (0, u "max"), (0, u "(II)I"), (0, .methodref 59 60), (0, .class_ 61), (0, .nameAndType 62 63), (0, u "java/util/Arrays"), (0, u "copyOf"), (0, u "([BI)[B"), (0, .class_ 65), (0, u "com/example/runnel/runnel/ByteSink"), (0, u "MAX_SIZE"), (1, u "INITIAL_CAPACITY"), (3, u "write"), (0, u "([BII)V"), (3, u "commit"), (0, u "close"), (0, u "()I"), (0, u "toByteArray"), (0, u "()[B")] 17

def k6c0 : Code := { maxStack := 2, maxLocals := 1, code := prog_31_method_1_code, exceptionTable := #[], attributes := #[] }
def k6m0 : Method := { name := "<init>", desc := "()V", sig := { parameters := [], returnType := none }, accessFlags := 1, code := some k6c0 }
def k6c1 : Code := { maxStack := 5, maxLocals := 4, code := prog_31_method_2_code, exceptionTable := #[], attributes := #[] }
def k6m1 : Method := { name := "write", desc := "([BII)V", sig := { parameters := [(.array .byte), .int, .int], returnType := none }, accessFlags := 1, code := some k6c1 }
def k6c2 : Code := { maxStack := 4, maxLocals := 4, code := prog_31_method_3_code, exceptionTable := #[], attributes := #[] }
def k6m2 : Method := { name := "grow", desc := "(I)V", sig := { parameters := [.int], returnType := none }, accessFlags := 2, code := some k6c2 }
def k6c3 : Code := { maxStack := 2, maxLocals := 1, code := prog_31_method_5_code, exceptionTable := #[], attributes := #[] }
def k6m3 : Method := { name := "commit", desc := "()V", sig := { parameters := [], returnType := none }, accessFlags := 1, code := some k6c3 }
def k6c4 : Code := { maxStack := 2, maxLocals := 1, code := prog_31_method_6_code, exceptionTable := #[], attributes := #[] }
def k6m4 : Method := { name := "close", desc := "()V", sig := { parameters := [], returnType := none }, accessFlags := 1, code := some k6c4 }
def k6c5 : Code := { maxStack := 1, maxLocals := 1, code := prog_31_method_7_code, exceptionTable := #[], attributes := #[] }
def k6m5 : Method := { name := "size", desc := "()I", sig := { parameters := [], returnType := some .int }, accessFlags := 1, code := some k6c5 }
def k6c6 : Code := { maxStack := 2, maxLocals := 1, code := prog_31_method_8_code, exceptionTable := #[], attributes := #[] }
def k6m6 : Method := { name := "toByteArray", desc := "()[B", sig := { parameters := [], returnType := some (.array .byte) }, accessFlags := 1, code := some k6c6 }
/-- com/example/runnel/runnel/MemorySink -/
def k6 : Class := { plain "com/example/runnel/runnel/MemorySink" (some 0) with
  accessFlags := 49
  interfaces := #[5]
  cf := some (fileOf pool6 9 #[] #[{ accessFlags := 1, nameIndex := 7, descriptorIndex := 8, attributes := #[] }, { accessFlags := 1, nameIndex := 72, descriptorIndex := 73, attributes := #[] }, { accessFlags := 2, nameIndex := 38, descriptorIndex := 39, attributes := #[] }, { accessFlags := 1, nameIndex := 77, descriptorIndex := 8, attributes := #[] }, { accessFlags := 1, nameIndex := 78, descriptorIndex := 8, attributes := #[] }, { accessFlags := 1, nameIndex := 34, descriptorIndex := 79, attributes := #[] }, { accessFlags := 1, nameIndex := 80, descriptorIndex := 81, attributes := #[] }] 49 4 #[64] #[{ accessFlags := 25, nameIndex := 66, descriptorIndex := 35, attributes := #[] }, { accessFlags := 26, nameIndex := 68, descriptorIndex := 35, attributes := #[] }, { accessFlags := 2, nameIndex := 13, descriptorIndex := 14, attributes := #[] }, { accessFlags := 2, nameIndex := 34, descriptorIndex := 35, attributes := #[] }, { accessFlags := 2, nameIndex := 23, descriptorIndex := 24, attributes := #[] }])
  fields := #[{ name := "MAX_SIZE", type := .int, accessFlags := 25, slot := 0, constantValue := 0 }, { name := "INITIAL_CAPACITY", type := .int, accessFlags := 26, slot := 1, constantValue := 0 }, { name := "bytes", type := (.array .byte), accessFlags := 2, slot := 0, constantValue := 0 }, { name := "size", type := .int, accessFlags := 2, slot := 1, constantValue := 0 }, { name := "closed", type := .boolean, accessFlags := 2, slot := 2, constantValue := 0 }]
  methods := #[k6m0, k6m1, k6m2, k6m3, k6m4, k6m5, k6m6]
  instanceTypes := #[(.array .byte), .int, .boolean]
  staticTypes := #[.int, .int]
  resolved := Array.replicate 99 none
  statics := none }

def pool7 : Array CpInfo := pool [(2, .class_ 4), (1, u "java/lang/Object"), (0, u "<init>"), (0, u "()V"), (35, .class_ 44), (1, u "java/util/Objects"), (61, .class_ 108), (1, u "jdk/internal/util/Preconditions"), (5, u "(IIILjava/util/function/BiFunction;)I"), (0, .methodref 106 116), (0, .nameAndType 117 114), (0, u "checkFromIndexSize"), (57, u "(III)I")] 8

def k7m0 : Method := { name := "<init>", desc := "()V", sig := { parameters := [], returnType := none }, accessFlags := 2, code := none }
def k7c1 : Code := { maxStack := 4, maxLocals := 3, code := jdk_31_method_19_code, exceptionTable := #[], attributes := #[] }
def k7m1 : Method := { name := "checkFromIndexSize", desc := "(III)I", sig := { parameters := [.int, .int, .int], returnType := some .int }, accessFlags := 9, code := some k7c1 }
/-- java/util/Objects -/
def k7 : Class := { plain "java/util/Objects" (some 0) with
  accessFlags := 49
  interfaces := #[]
  cf := some (fileOf pool7 42 #[] #[{ accessFlags := 2, nameIndex := 5, descriptorIndex := 6, attributes := #[] }, { accessFlags := 9, nameIndex := 117, descriptorIndex := 175, attributes := #[] }] 49 2 #[] #[])
  fields := #[]
  methods := #[k7m0, k7m1]
  instanceTypes := #[]
  staticTypes := #[]
  resolved := Array.replicate 184 none
  statics := none }

def pool8 : Array CpInfo := pool [(2, .class_ 4), (1, u "java/lang/Object"), (0, u "<init>"), (0, u "()V"), (17, .class_ 26), (1, u "jdk/internal/util/Preconditions"), (22, u "checkFromIndexSize"), (5, .class_ 56), (0, u "jdk/internal/util/Preconditions$4"), (57, .class_ 115), (0, u "jdk/internal/util/Preconditions$1"), (7, u "SIOOBE_FORMATTER"), (0, u "Ljava/util/function/BiFunction;"), (0, .class_ 126), (0, u "jdk/internal/util/Preconditions$2"), (3, u "AIOOBE_FORMATTER"), (0, .class_ 132), (0, u "jdk/internal/util/Preconditions$3"), (3, u "IOOBE_FORMATTER"), (46, u "(IIILjava/util/function/BiFunction;)I")] 10

def k8m0 : Method := { name := "<init>", desc := "()V", sig := { parameters := [], returnType := none }, accessFlags := 1, code := none }
def k8c1 : Code := { maxStack := 4, maxLocals := 4, code := jdk_41_method_13_code, exceptionTable := #[], attributes := #[] }
def k8m1 : Method := { name := "checkFromIndexSize", desc := "(IIILjava/util/function/BiFunction;)I", sig := { parameters := [.int, .int, .int, (.object "java/util/function/BiFunction")], returnType := some .int }, accessFlags := 9, code := some k8c1 }
/-- jdk/internal/util/Preconditions -/
def k8 : Class := { plain "jdk/internal/util/Preconditions" (some 0) with
  accessFlags := 33
  interfaces := #[]
  cf := some (fileOf pool8 24 #[.nestMembers #[55, 131, 125, 114]] #[{ accessFlags := 1, nameIndex := 5, descriptorIndex := 6, attributes := #[] }, { accessFlags := 9, nameIndex := 49, descriptorIndex := 183, attributes := #[] }] 33 2 #[] #[{ accessFlags := 25, nameIndex := 123, descriptorIndex := 124, attributes := #[] }, { accessFlags := 25, nameIndex := 130, descriptorIndex := 124, attributes := #[] }, { accessFlags := 25, nameIndex := 136, descriptorIndex := 124, attributes := #[] }])
  fields := #[{ name := "SIOOBE_FORMATTER", type := (.object "java/util/function/BiFunction"), accessFlags := 25, slot := 0, constantValue := 0 }, { name := "AIOOBE_FORMATTER", type := (.object "java/util/function/BiFunction"), accessFlags := 25, slot := 1, constantValue := 0 }, { name := "IOOBE_FORMATTER", type := (.object "java/util/function/BiFunction"), accessFlags := 25, slot := 2, constantValue := 0 }]
  methods := #[k8m0, k8m1]
  instanceTypes := #[]
  staticTypes := #[(.object "java/util/function/BiFunction"), (.object "java/util/function/BiFunction"), (.object "java/util/function/BiFunction")]
  resolved := Array.replicate 194 none
  statics := none }

def pool9 : Array CpInfo := pool [(2, .class_ 4), (1, u "java/lang/Object"), (0, u "<init>"), (0, u "()V"), (1, .class_ 10), (1, u "java/lang/System"), (0, u "allowSecurityManager"), (0, u "I"), (16, u "cons"), (0, u "Ljava/io/Console;"), (77, .class_ 110), (1, u "java/lang/System$CallersHolder"), (43, u "initialErrStream"), (0, u "Ljava/io/PrintStream;"), (19, u "security"), (0, u "Ljava/lang/SecurityManager;"), (31, .class_ 209), (0, u "java/lang/System$1"), (7, u "props"), (0, u "Ljava/util/Properties;"), (2, u "lineSeparator"), (0, u "Ljava/lang/String;"), (96, .class_ 321), (1, u "java/lang/System$LoggerFinder"), (5, .class_ 328), (0, u "java/lang/System$Logger"), (67, u "err"), (2, u "out"), (91, u "notSupportedJnuEncoding"), (15, u "in"), (17, u "initialIn"), (0, u "Ljava/io/InputStream;"), (35, u "bootLayer"), (0, u "Ljava/lang/ModuleLayer;"), (99, .class_ 664), (0, u "java/lang/System$2"), (9, u "NEVER"), (2, u "MAYBE"), (49, u "arraycopy"), (0, u "(Ljava/lang/Object;ILjava/lang/Object;II)V"), (72, .class_ 802), (0, u "java/lang/System$Logger$Level")] 31

def k9m0 : Method := { name := "<init>", desc := "()V", sig := { parameters := [], returnType := none }, accessFlags := 2, code := none }
def k9m1 : Method := { name := "arraycopy", desc := "(Ljava/lang/Object;ILjava/lang/Object;II)V", sig := { parameters := [(.object "java/lang/Object"), .int, (.object "java/lang/Object"), .int, .int], returnType := none }, accessFlags := 265, code := none }
/-- java/lang/System -/
def k9 : Class := { plain "java/lang/System" (some 0) with
  accessFlags := 49
  interfaces := #[]
  cf := some (fileOf pool9 8 #[.nestMembers #[319, 327, 801, 108, 663, 208]] #[{ accessFlags := 2, nameIndex := 5, descriptorIndex := 6, attributes := #[] }, { accessFlags := 265, nameIndex := 727, descriptorIndex := 728, attributes := #[] }] 49 2 #[] #[{ accessFlags := 25, nameIndex := 507, descriptorIndex := 526, attributes := #[] }, { accessFlags := 25, nameIndex := 399, descriptorIndex := 155, attributes := #[] }, { accessFlags := 25, nameIndex := 396, descriptorIndex := 155, attributes := #[] }, { accessFlags := 10, nameIndex := 525, descriptorIndex := 526, attributes := #[] }, { accessFlags := 26, nameIndex := 674, descriptorIndex := 12, attributes := #[] }, { accessFlags := 26, nameIndex := 677, descriptorIndex := 12, attributes := #[] }, { accessFlags := 10, nameIndex := 11, descriptorIndex := 12, attributes := #[] }, { accessFlags := 74, nameIndex := 175, descriptorIndex := 176, attributes := #[] }, { accessFlags := 10, nameIndex := 491, descriptorIndex := 222, attributes := #[] }, { accessFlags := 74, nameIndex := 29, descriptorIndex := 30, attributes := #[] }, { accessFlags := 74, nameIndex := 154, descriptorIndex := 155, attributes := #[] }, { accessFlags := 10, nameIndex := 217, descriptorIndex := 218, attributes := #[] }, { accessFlags := 10, nameIndex := 221, descriptorIndex := 222, attributes := #[] }, { accessFlags := 8, nameIndex := 562, descriptorIndex := 563, attributes := #[] }])
  fields := #[{ name := "in", type := (.object "java/io/InputStream"), accessFlags := 25, slot := 0, constantValue := 0 }, { name := "out", type := (.object "java/io/PrintStream"), accessFlags := 25, slot := 1, constantValue := 0 }, { name := "err", type := (.object "java/io/PrintStream"), accessFlags := 25, slot := 2, constantValue := 0 }, { name := "initialIn", type := (.object "java/io/InputStream"), accessFlags := 10, slot := 3, constantValue := 0 }, { name := "NEVER", type := .int, accessFlags := 26, slot := 4, constantValue := 0 }, { name := "MAYBE", type := .int, accessFlags := 26, slot := 5, constantValue := 0 }, { name := "allowSecurityManager", type := .int, accessFlags := 10, slot := 6, constantValue := 0 }, { name := "security", type := (.object "java/lang/SecurityManager"), accessFlags := 74, slot := 7, constantValue := 0 }, { name := "notSupportedJnuEncoding", type := (.object "java/lang/String"), accessFlags := 10, slot := 8, constantValue := 0 }, { name := "cons", type := (.object "java/io/Console"), accessFlags := 74, slot := 9, constantValue := 0 }, { name := "initialErrStream", type := (.object "java/io/PrintStream"), accessFlags := 74, slot := 10, constantValue := 0 }, { name := "props", type := (.object "java/util/Properties"), accessFlags := 10, slot := 11, constantValue := 0 }, { name := "lineSeparator", type := (.object "java/lang/String"), accessFlags := 10, slot := 12, constantValue := 0 }, { name := "bootLayer", type := (.object "java/lang/ModuleLayer"), accessFlags := 8, slot := 13, constantValue := 0 }]
  methods := #[k9m0, k9m1]
  instanceTypes := #[]
  staticTypes := #[(.object "java/io/InputStream"), (.object "java/io/PrintStream"), (.object "java/io/PrintStream"), (.object "java/io/InputStream"), .int, .int, .int, (.object "java/lang/SecurityManager"), (.object "java/lang/String"), (.object "java/io/Console"), (.object "java/io/PrintStream"), (.object "java/util/Properties"), (.object "java/lang/String"), (.object "java/lang/ModuleLayer")]
  resolved := Array.replicate 834 none
  statics := none }

def pool10 : Array CpInfo := pool [(1, .class_ 2), (0, u "java/lang/Math"), (1, .class_ 6), (1, u "java/lang/Object"), (0, u "<init>"), (0, u "()V"), (89, .class_ 100), (1, u "java/lang/Math$RandomNumberGeneratorHolder"), (71, u "negativeZeroFloatBits"), (0, u "J"), (2, u "negativeZeroDoubleBits"), (21, u "max"), (2, u "min"), (43, u "$assertionsDisabled"), (0, u "Z"), (88, u "(II)I"), (2, u "twoToTheDoubleScaleDown"), (0, u "D"), (4, u "twoToTheDoubleScaleUp"), (9, u "E"), (3, u "PI"), (2, u "TAU"), (2, u "DEGREES_TO_RADIANS"), (0, u "RADIANS_TO_DEGREES")] 94

def k10m0 : Method := { name := "<init>", desc := "()V", sig := { parameters := [], returnType := none }, accessFlags := 2, code := none }
def k10c1 : Code := { maxStack := 2, maxLocals := 2, code := jdk_29_method_65_code, exceptionTable := #[], attributes := #[] }
def k10m1 : Method := { name := "max", desc := "(II)I", sig := { parameters := [.int, .int], returnType := some .int }, accessFlags := 9, code := some k10c1 }
def k10c2 : Code := { maxStack := 2, maxLocals := 2, code := jdk_29_method_69_code, exceptionTable := #[], attributes := #[] }
def k10m2 : Method := { name := "min", desc := "(II)I", sig := { parameters := [.int, .int], returnType := some .int }, accessFlags := 9, code := some k10c2 }
/-- java/lang/Math -/
def k10 : Class := { plain "java/lang/Math" (some 0) with
  accessFlags := 49
  interfaces := #[]
  cf := some (fileOf pool10 1 #[.nestMembers #[98]] #[{ accessFlags := 2, nameIndex := 7, descriptorIndex := 8, attributes := #[] }, { accessFlags := 9, nameIndex := 198, descriptorIndex := 335, attributes := #[] }, { accessFlags := 9, nameIndex := 201, descriptorIndex := 335, attributes := #[] }] 49 4 #[] #[{ accessFlags := 25, nameIndex := 354, descriptorIndex := 339, attributes := #[] }, { accessFlags := 25, nameIndex := 358, descriptorIndex := 339, attributes := #[] }, { accessFlags := 25, nameIndex := 361, descriptorIndex := 339, attributes := #[] }, { accessFlags := 26, nameIndex := 364, descriptorIndex := 339, attributes := #[] }, { accessFlags := 26, nameIndex := 365, descriptorIndex := 339, attributes := #[] }, { accessFlags := 26, nameIndex := 172, descriptorIndex := 173, attributes := #[] }, { accessFlags := 26, nameIndex := 176, descriptorIndex := 173, attributes := #[] }, { accessFlags := 8, nameIndex := 344, descriptorIndex := 339, attributes := #[] }, { accessFlags := 8, nameIndex := 338, descriptorIndex := 339, attributes := #[] }, { accessFlags := 4120, nameIndex := 245, descriptorIndex := 246, attributes := #[] }])
  fields := #[{ name := "E", type := .double, accessFlags := 25, slot := 0, constantValue := 0 }, { name := "PI", type := .double, accessFlags := 25, slot := 1, constantValue := 0 }, { name := "TAU", type := .double, accessFlags := 25, slot := 2, constantValue := 0 }, { name := "DEGREES_TO_RADIANS", type := .double, accessFlags := 26, slot := 3, constantValue := 0 }, { name := "RADIANS_TO_DEGREES", type := .double, accessFlags := 26, slot := 4, constantValue := 0 }, { name := "negativeZeroFloatBits", type := .long, accessFlags := 26, slot := 5, constantValue := 0 }, { name := "negativeZeroDoubleBits", type := .long, accessFlags := 26, slot := 6, constantValue := 0 }, { name := "twoToTheDoubleScaleUp", type := .double, accessFlags := 8, slot := 7, constantValue := 0 }, { name := "twoToTheDoubleScaleDown", type := .double, accessFlags := 8, slot := 8, constantValue := 0 }, { name := "$assertionsDisabled", type := .boolean, accessFlags := 4120, slot := 9, constantValue := 0 }]
  methods := #[k10m0, k10m1, k10m2]
  instanceTypes := #[]
  staticTypes := #[.double, .double, .double, .double, .double, .long, .long, .double, .double, .boolean]
  resolved := Array.replicate 460 none
  statics := none }

def pool11 : Array CpInfo := pool [(2, .class_ 4), (1, u "java/lang/Object"), (0, u "<init>"), (0, u "()V"), (7, .class_ 16), (1, u "java/util/Arrays"), (57, .class_ 76), (1, u "java/util/Arrays$NaturalOrder"), (36, .class_ 115), (1, u "java/util/Arrays$LegacyMergeSort"), (1, u "Z"), (32, .methodref 151 152), (0, .class_ 153), (0, .nameAndType 154 155), (0, u "java/lang/System"), (0, u "arraycopy"), (0, u "(Ljava/lang/Object;ILjava/lang/Object;II)V"), (146, u "copyOf"), (1, .methodref 305 306), (0, .class_ 307), (0, .nameAndType 308 309), (0, u "java/lang/Math"), (0, u "min"), (0, u "(II)I"), (65, .class_ 376), (0, u "java/util/Arrays$ArrayList"), (68, u "$assertionsDisabled"), (269, u "MIN_ARRAY_SORT_GRAN"), (0, u "I"), (2, u "INSERTIONSORT_THRESHOLD"), (149, u "([BI)[B"), (105, .class_ 976), (0, u "java/util/Arrays$ArrayItr")] 52

def k11m0 : Method := { name := "<init>", desc := "()V", sig := { parameters := [], returnType := none }, accessFlags := 2, code := none }
def k11c1 : Code := { maxStack := 6, maxLocals := 3, code := jdk_65_method_121_code, exceptionTable := #[], attributes := #[] }
def k11m1 : Method := { name := "copyOf", desc := "([BI)[B", sig := { parameters := [(.array .byte), .int], returnType := some (.array .byte) }, accessFlags := 9, code := some k11c1 }
/-- java/util/Arrays -/
def k11 : Class := { plain "java/util/Arrays" (some 0) with
  accessFlags := 49
  interfaces := #[]
  cf := some (fileOf pool11 14 #[.nestMembers #[975, 375, 113, 74]] #[{ accessFlags := 2, nameIndex := 5, descriptorIndex := 6, attributes := #[] }, { accessFlags := 9, nameIndex := 302, descriptorIndex := 869, attributes := #[] }] 49 2 #[] #[{ accessFlags := 26, nameIndex := 715, descriptorIndex := 716, attributes := #[] }, { accessFlags := 26, nameIndex := 719, descriptorIndex := 716, attributes := #[] }, { accessFlags := 4120, nameIndex := 445, descriptorIndex := 117, attributes := #[] }])
  fields := #[{ name := "MIN_ARRAY_SORT_GRAN", type := .int, accessFlags := 26, slot := 0, constantValue := 0 }, { name := "INSERTIONSORT_THRESHOLD", type := .int, accessFlags := 26, slot := 1, constantValue := 0 }, { name := "$assertionsDisabled", type := .boolean, accessFlags := 4120, slot := 2, constantValue := 0 }]
  methods := #[k11m0, k11m1]
  instanceTypes := #[]
  staticTypes := #[.int, .int, .boolean]
  resolved := Array.replicate 1029 none
  statics := none }

def pool12 : Array CpInfo := pool [(1, u "java/lang/Cloneable"), (0, .class_ 1), (0, u "java/lang/Object"), (0, .class_ 3)] 3

/-- java/lang/Cloneable -/
def k12 : Class := { plain "java/lang/Cloneable" (some 0) with
  accessFlags := 1537
  interfaces := #[]
  cf := some (fileOf pool12 2 #[] #[] 1537 4 #[] #[])
  fields := #[]
  methods := #[]
  instanceTypes := #[]
  staticTypes := #[]
  resolved := Array.replicate 8 none
  statics := none }

def pool13 : Array CpInfo := pool [(1, u "java/io/Serializable"), (0, .class_ 1), (0, u "java/lang/Object"), (0, .class_ 3)] 3

/-- java/io/Serializable -/
def k13 : Class := { plain "java/io/Serializable" (some 0) with
  accessFlags := 1537
  interfaces := #[]
  cf := some (fileOf pool13 2 #[] #[] 1537 4 #[] #[])
  fields := #[]
  methods := #[]
  instanceTypes := #[]
  staticTypes := #[]
  resolved := Array.replicate 8 none
  statics := none }

/-- the primitive byte -/
def k14 : Class := { plain "byte" none with kind := .primitive 'B', accessFlags := 0x411 }
/-- [B -/
def k15 : Class := { plain "[B" (some 0) with kind := .array 14 .byte, interfaces := #[12, 13], accessFlags := 1041 }

/-- the primitive int -/
def k16 : Class := { plain "int" none with kind := .primitive 'I', accessFlags := 0x411 }
/-- [I -/
def k17 : Class := { plain "[I" (some 0) with kind := .array 16 .int, interfaces := #[12, 13], accessFlags := 1041 }

def heap : Heap := #[]
def classes : Array Class := #[k0, k1, k2, k3, k4, k5, k6, k7, k8, k9, k10, k11, k12, k13, k14, k15, k16, k17]
def interned : List (Array UInt16 × Addr) := []
def slotsUsed : Nat := 0
def theMethod : MethodId := ⟨1, 1⟩
def args0 : Array Value := #[.int 5, .int 7, .int 3, .int 4, .int 6, .int 9]
def aboutOver (below : List Frame) : State where
  vm := { classes := classes, interned := interned.toArray }
  heap := heap
  slotsUsed := slotsUsed
  threads := #[{ frames := .invoking theMethod args0 :: below }]
def below0 : List Frame := [.native { method := ⟨0, 0⟩, args := #[] }]
def about1 : State := aboutOver below0
def p0 : Program := .bare "" "" ""
def e0 : Env := launch0.env 0 0 0
theorem w_frames : about1.frames = Frame.invoking theMethod args0 :: below0 := rfl
set_option maxRecDepth 65536 in
theorem w_args : argsFit about1.vm theMethod args0 = true := by decide +kernel
set_option maxRecDepth 65536 in
theorem w_heap : heapFits about1 = true := by decide +kernel
set_option maxRecDepth 65536 in
theorem w_runnable : about1.curStatus? = some .runnable := by decide +kernel
set_option maxRecDepth 65536 in
theorem w_alone : about1.alone = true := by decide +kernel
set_option maxRecDepth 65536 in
theorem w_named : about1.methodNamed? x = some theMethod := by decide +kernel
set_option maxRecDepth 65536 in
theorem w_hears : about1.hears theMethod below0 = true := by decide +kernel
set_option maxRecDepth 65536 in
theorem w_ripe : about1.ripe theMethod args0 below0 = true := by decide +kernel
theorem w_running : about1.status = .running := rfl
set_option maxRecDepth 65536 in
theorem w_room : about1.hasRoom e0.platform room_1 = true :=
  launch0.hasRoom_least _ room_1 (by decide +kernel) (by decide +kernel) (by decide +kernel) (by decide +kernel) (by decide +kernel) (by decide +kernel)
theorem allAtoms_all (ts : List Jvm.Cond) (a : Array Jvm.Value) (st : Jvm.State) : (allAtoms ts).before a st = ts.all (fun c => c.before a st) := by
  induction ts with
  | nil => rfl
  | cons c t ih =>
    show (Jvm.Cond.and c (allAtoms t)).before a st = _
    rw [Jvm.Cond.before_and, ih, List.all_cons]
def words1 : List Jvm.Cond := Jvm.Cond.code x code maxLocals ret :: tables_1
/-- a 'code' word, met by the world's own term for the bytes: nothing is compared byte by byte -/
theorem code_word {y : MethodName} {bytes : ByteArray} {mx : Nat} {rt : Option FieldType} {a : Array Value} {s : State} {m : MethodId} {meth : Method} {c : Code} (h1 : s.methodNamed? y = some m) (h2 : s.vm.method? m = some meth) (h3 : meth.code = some c) (h4 : c.code = bytes)
    (h5 : (c.maxLocals == mx && c.exceptionTable.isEmpty && decide (c.maxStack ≤ mostOperands) && decide (meth.sig.returnType = rt) && !meth.locks && decide (parseMethodDescriptor y.desc = some meth.sig)) = true) : (Jvm.Cond.code y bytes mx rt).before a s = true := by
  simp only [Bool.and_eq_true, beq_iff_eq, Bool.not_eq_true', decide_eq_true_eq] at h5
  obtain ⟨⟨⟨⟨⟨g1, g2⟩, g3⟩, g4⟩, g5⟩, g6⟩ := h5
  simp [Cond.before, Cond.holds, Cond.value, h1, h2, h3, h4, g1, g2, g3, g4, g5, g6]
def isCode : Jvm.Cond → Bool
  | .code _ _ _ _ => true
  | _ => false
theorem all_split {L : List Jvm.Cond} {P : Jvm.Cond → Bool} (h1 : L.all (fun c => isCode c || P c) = true) (h2 : ∀ c ∈ L.filter isCode, P c = true) : L.all P = true := by
  refine List.all_eq_true.mpr fun c hc => ?_
  have h := List.all_eq_true.mp h1 c hc
  rcases Bool.eq_false_or_eq_true (isCode c) with hi | hi
  · exact h2 c (List.mem_filter.mpr ⟨hc, hi⟩)
  · simpa [hi] using h
set_option maxRecDepth 65536 in
theorem w_c0 : (Jvm.Cond.code x code maxLocals ret).before args0 about1 = true := code_word (m := ⟨1, 1⟩) (meth := k1m1) (c := k1c1) (by decide +kernel) rfl rfl rfl (by decide +kernel)
set_option maxRecDepth 65536 in
theorem w_c1 : (Jvm.Cond.code ({ cls := "com/example/runnel/runnel/MemorySinkToByteArrayPinLaw", name := "bytesOf", desc := "(I)[B" } : Jvm.MethodName) method_3_code (1 : Nat) (Option.some (Jvm.ClassFile.FieldType.array Jvm.ClassFile.FieldType.byte))).before args0 about1 = true := code_word (m := ⟨1, 2⟩) (meth := k1m2) (c := k1c2) (by decide +kernel) rfl rfl rfl (by decide +kernel)
set_option maxRecDepth 65536 in
theorem w_c2 : (Jvm.Cond.code ({ cls := "com/example/runnel/runnel/MemorySink", name := "<init>", desc := "()V" } : Jvm.MethodName) prog_31_method_1_code (1 : Nat) (Option.none : Option Jvm.ClassFile.FieldType)).before args0 about1 = true := code_word (m := ⟨6, 0⟩) (meth := k6m0) (c := k6c0) (by decide +kernel) rfl rfl rfl (by decide +kernel)
set_option maxRecDepth 65536 in
theorem w_c3 : (Jvm.Cond.code ({ cls := "java/lang/Object", name := "<init>", desc := "()V" } : Jvm.MethodName) object_method_1_code (1 : Nat) (Option.none : Option Jvm.ClassFile.FieldType)).before args0 about1 = true := code_word (m := ⟨0, 0⟩) (meth := k0m0) (c := k0c0) (by decide +kernel) rfl rfl rfl (by decide +kernel)
set_option maxRecDepth 65536 in
theorem w_c4 : (Jvm.Cond.code ({ cls := "com/example/runnel/runnel/MemorySink", name := "write", desc := "([BII)V" } : Jvm.MethodName) prog_31_method_2_code (4 : Nat) (Option.none : Option Jvm.ClassFile.FieldType)).before args0 about1 = true := code_word (m := ⟨6, 1⟩) (meth := k6m1) (c := k6c1) (by decide +kernel) rfl rfl rfl (by decide +kernel)
set_option maxRecDepth 65536 in
theorem w_c5 : (Jvm.Cond.code ({ cls := "java/util/Objects", name := "checkFromIndexSize", desc := "(III)I" } : Jvm.MethodName) jdk_31_method_19_code (3 : Nat) (Option.some Jvm.ClassFile.FieldType.int)).before args0 about1 = true := code_word (m := ⟨7, 1⟩) (meth := k7m1) (c := k7c1) (by decide +kernel) rfl rfl rfl (by decide +kernel)
set_option maxRecDepth 65536 in
theorem w_c6 : (Jvm.Cond.code ({ cls := "jdk/internal/util/Preconditions", name := "checkFromIndexSize", desc := "(IIILjava/util/function/BiFunction;)I" } : Jvm.MethodName) jdk_41_method_13_code (4 : Nat) (Option.some Jvm.ClassFile.FieldType.int)).before args0 about1 = true := code_word (m := ⟨8, 1⟩) (meth := k8m1) (c := k8c1) (by decide +kernel) rfl rfl rfl (by decide +kernel)
set_option maxRecDepth 65536 in
theorem w_c7 : (Jvm.Cond.code ({ cls := "com/example/runnel/runnel/MemorySink", name := "grow", desc := "(I)V" } : Jvm.MethodName) prog_31_method_3_code (4 : Nat) (Option.none : Option Jvm.ClassFile.FieldType)).before args0 about1 = true := code_word (m := ⟨6, 2⟩) (meth := k6m2) (c := k6c2) (by decide +kernel) rfl rfl rfl (by decide +kernel)
set_option maxRecDepth 65536 in
theorem w_c8 : (Jvm.Cond.code ({ cls := "java/lang/Math", name := "max", desc := "(II)I" } : Jvm.MethodName) jdk_29_method_65_code (2 : Nat) (Option.some Jvm.ClassFile.FieldType.int)).before args0 about1 = true := code_word (m := ⟨10, 1⟩) (meth := k10m1) (c := k10c1) (by decide +kernel) rfl rfl rfl (by decide +kernel)
set_option maxRecDepth 65536 in
theorem w_c9 : (Jvm.Cond.code ({ cls := "java/util/Arrays", name := "copyOf", desc := "([BI)[B" } : Jvm.MethodName) jdk_65_method_121_code (3 : Nat) (Option.some (Jvm.ClassFile.FieldType.array Jvm.ClassFile.FieldType.byte))).before args0 about1 = true := code_word (m := ⟨11, 1⟩) (meth := k11m1) (c := k11c1) (by decide +kernel) rfl rfl rfl (by decide +kernel)
set_option maxRecDepth 65536 in
theorem w_c10 : (Jvm.Cond.code ({ cls := "java/lang/Math", name := "min", desc := "(II)I" } : Jvm.MethodName) jdk_29_method_69_code (2 : Nat) (Option.some Jvm.ClassFile.FieldType.int)).before args0 about1 = true := code_word (m := ⟨10, 2⟩) (meth := k10m2) (c := k10c2) (by decide +kernel) rfl rfl rfl (by decide +kernel)
set_option maxRecDepth 65536 in
theorem w_c11 : (Jvm.Cond.code ({ cls := "com/example/runnel/runnel/MemorySink", name := "commit", desc := "()V" } : Jvm.MethodName) prog_31_method_5_code (1 : Nat) (Option.none : Option Jvm.ClassFile.FieldType)).before args0 about1 = true := code_word (m := ⟨6, 3⟩) (meth := k6m3) (c := k6c3) (by decide +kernel) rfl rfl rfl (by decide +kernel)
set_option maxRecDepth 65536 in
theorem w_c12 : (Jvm.Cond.code ({ cls := "com/example/runnel/runnel/MemorySink", name := "toByteArray", desc := "()[B" } : Jvm.MethodName) prog_31_method_8_code (1 : Nat) (Option.some (Jvm.ClassFile.FieldType.array Jvm.ClassFile.FieldType.byte))).before args0 about1 = true := code_word (m := ⟨6, 6⟩) (meth := k6m6) (c := k6c6) (by decide +kernel) rfl rfl rfl (by decide +kernel)
set_option maxRecDepth 65536 in
theorem w_c13 : (Jvm.Cond.code ({ cls := "com/example/runnel/runnel/MemorySink", name := "size", desc := "()I" } : Jvm.MethodName) prog_31_method_7_code (1 : Nat) (Option.some Jvm.ClassFile.FieldType.int)).before args0 about1 = true := code_word (m := ⟨6, 5⟩) (meth := k6m5) (c := k6c5) (by decide +kernel) rfl rfl rfl (by decide +kernel)
set_option maxRecDepth 65536 in
theorem w_c14 : (Jvm.Cond.code ({ cls := "com/example/runnel/runnel/MemorySinkToByteArrayPinLaw", name := "at", desc := "([BI[BII[BI[BI)Z" } : Jvm.MethodName) method_4_code (10 : Nat) (Option.some Jvm.ClassFile.FieldType.boolean)).before args0 about1 = true := code_word (m := ⟨1, 3⟩) (meth := k1m3) (c := k1c3) (by decide +kernel) rfl rfl rfl (by decide +kernel)
set_option maxRecDepth 65536 in
theorem w_c15 : (Jvm.Cond.code ({ cls := "com/example/runnel/runnel/MemorySink", name := "close", desc := "()V" } : Jvm.MethodName) prog_31_method_6_code (1 : Nat) (Option.none : Option Jvm.ClassFile.FieldType)).before args0 about1 = true := code_word (m := ⟨6, 4⟩) (meth := k6m4) (c := k6c4) (by decide +kernel) rfl rfl rfl (by decide +kernel)
def codes1 : List Jvm.Cond := [Jvm.Cond.code x code maxLocals ret, Jvm.Cond.code ({ cls := "com/example/runnel/runnel/MemorySinkToByteArrayPinLaw", name := "bytesOf", desc := "(I)[B" } : Jvm.MethodName) method_3_code (1 : Nat) (Option.some (Jvm.ClassFile.FieldType.array Jvm.ClassFile.FieldType.byte)), Jvm.Cond.code ({ cls := "com/example/runnel/runnel/MemorySink", name := "<init>", desc := "()V" } : Jvm.MethodName) prog_31_method_1_code (1 : Nat) (Option.none : Option Jvm.ClassFile.FieldType), Jvm.Cond.code ({ cls := "java/lang/Object", name := "<init>", desc := "()V" } : Jvm.MethodName) object_method_1_code (1 : Nat) (Option.none : Option Jvm.ClassFile.FieldType), Jvm.Cond.code ({ cls := "com/example/runnel/runnel/MemorySink", name := "write", desc := "([BII)V" } : Jvm.MethodName) prog_31_method_2_code (4 : Nat) (Option.none : Option Jvm.ClassFile.FieldType), Jvm.Cond.code ({ cls := "java/util/Objects", name := "checkFromIndexSize", desc := "(III)I" } : Jvm.MethodName) jdk_31_method_19_code (3 : Nat) (Option.some Jvm.ClassFile.FieldType.int), Jvm.Cond.code ({ cls := "jdk/internal/util/Preconditions", name := "checkFromIndexSize", desc := "(IIILjava/util/function/BiFunction;)I" } : Jvm.MethodName) jdk_41_method_13_code (4 : Nat) (Option.some Jvm.ClassFile.FieldType.int), Jvm.Cond.code ({ cls := "com/example/runnel/runnel/MemorySink", name := "grow", desc := "(I)V" } : Jvm.MethodName) prog_31_method_3_code (4 : Nat) (Option.none : Option Jvm.ClassFile.FieldType), Jvm.Cond.code ({ cls := "java/lang/Math", name := "max", desc := "(II)I" } : Jvm.MethodName) jdk_29_method_65_code (2 : Nat) (Option.some Jvm.ClassFile.FieldType.int), Jvm.Cond.code ({ cls := "java/util/Arrays", name := "copyOf", desc := "([BI)[B" } : Jvm.MethodName) jdk_65_method_121_code (3 : Nat) (Option.some (Jvm.ClassFile.FieldType.array Jvm.ClassFile.FieldType.byte)), Jvm.Cond.code ({ cls := "java/lang/Math", name := "min", desc := "(II)I" } : Jvm.MethodName) jdk_29_method_69_code (2 : Nat) (Option.some Jvm.ClassFile.FieldType.int), Jvm.Cond.code ({ cls := "com/example/runnel/runnel/MemorySink", name := "commit", desc := "()V" } : Jvm.MethodName) prog_31_method_5_code (1 : Nat) (Option.none : Option Jvm.ClassFile.FieldType), Jvm.Cond.code ({ cls := "com/example/runnel/runnel/MemorySink", name := "toByteArray", desc := "()[B" } : Jvm.MethodName) prog_31_method_8_code (1 : Nat) (Option.some (Jvm.ClassFile.FieldType.array Jvm.ClassFile.FieldType.byte)), Jvm.Cond.code ({ cls := "com/example/runnel/runnel/MemorySink", name := "size", desc := "()I" } : Jvm.MethodName) prog_31_method_7_code (1 : Nat) (Option.some Jvm.ClassFile.FieldType.int), Jvm.Cond.code ({ cls := "com/example/runnel/runnel/MemorySinkToByteArrayPinLaw", name := "at", desc := "([BI[BII[BI[BI)Z" } : Jvm.MethodName) method_4_code (10 : Nat) (Option.some Jvm.ClassFile.FieldType.boolean), Jvm.Cond.code ({ cls := "com/example/runnel/runnel/MemorySink", name := "close", desc := "()V" } : Jvm.MethodName) prog_31_method_6_code (1 : Nat) (Option.none : Option Jvm.ClassFile.FieldType)]
set_option maxRecDepth 65536 in
theorem codes_eq : words1.filter isCode = codes1 := rfl
theorem w_codes : ∀ c ∈ words1.filter isCode, c.before args0 about1 = true := by
  rw [codes_eq]
  intro c hc
  simp only [codes1, List.mem_cons, List.not_mem_nil, or_false] at hc
  rcases hc with rfl | rfl | rfl | rfl | rfl | rfl | rfl | rfl | rfl | rfl | rfl | rfl | rfl | rfl | rfl | rfl
  · exact w_c0
  · exact w_c1
  · exact w_c2
  · exact w_c3
  · exact w_c4
  · exact w_c5
  · exact w_c6
  · exact w_c7
  · exact w_c8
  · exact w_c9
  · exact w_c10
  · exact w_c11
  · exact w_c12
  · exact w_c13
  · exact w_c14
  · exact w_c15
set_option maxRecDepth 65536 in
theorem w_t1 : (words1.take 24).all (fun c => isCode c || c.before args0 about1) = true := by decide +kernel
set_option maxRecDepth 65536 in
theorem w_t2 : ((words1.drop 24).take 24).all (fun c => isCode c || c.before args0 about1) = true := by decide +kernel
set_option maxRecDepth 65536 in
theorem w_t3 : (((words1.drop 24).drop 24).take 24).all (fun c => isCode c || c.before args0 about1) = true := by decide +kernel
set_option maxRecDepth 65536 in
theorem w_t4 : (((words1.drop 24).drop 24).drop 24).all (fun c => isCode c || c.before args0 about1) = true := by decide +kernel
theorem w_tables : (allAtoms (Jvm.Cond.code x code maxLocals ret :: tables_1)).before args0 about1 = true := by
  rw [allAtoms_all]
  show words1.all (fun c => c.before args0 about1) = true
  refine all_split ?_ w_codes
  rw [← List.take_append_drop 24 words1, List.all_append, w_t1, ← List.take_append_drop 24 (words1.drop 24), List.all_append, w_t2, ← List.take_append_drop 24 ((words1.drop 24).drop 24), List.all_append, w_t3, w_t4]
  rfl
set_option maxRecDepth 65536 in
theorem w_case : (Jvm.Cond.and given_1 narrow_1).before args0 about1 = true := by decide +kernel
theorem w_applies : (headSpec (Jvm.Cond.code x code maxLocals ret :: tables_1) room_1).applies x e0.platform about1 = true :=
  (Spec.applies_iff w_frames).mpr ⟨w_running, w_runnable, w_alone, w_named, w_hears, w_ripe, w_room, w_tables⟩
theorem atStart : AtStart classFile x code maxLocals ret World_1 tables_1 room_1 Calls_1 rest_1 Pre_1 launch0 p0 e0 about1 theMethod args0 below0 :=
  ⟨lists_1, trivial, launch0.admits_env _ _ _, launch0.least_env, fairChoices_fair.cas, fairChoices_fair.clock, w_frames, w_args, w_heap, w_applies, trivial, trivial, w_case⟩
end start1
theorem witness_1 : WitnessClaimed_1 := ⟨start1.p0, start1.e0, start1.about1, start1.theMethod, start1.args0, start1.below0, start1.atStart⟩
end Jvm.Pilot.@@N@@
