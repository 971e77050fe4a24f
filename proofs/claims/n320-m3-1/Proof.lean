import JvmDerived
import JvmDerived.Pilot.@@N@@Statement
import JvmDerived.Pilot.@@N@@Code
set_option linter.unusedVariables false
set_option linter.unusedSimpArgs false
namespace Jvm.Pilot.@@N@@
open Jvm Jvm.ClassFile Sem Op Lib Jvm.Free Jvm.Stand Jvm.LawKit Jvm.RoadKit Bundle Jvm.Pilot.@@N@@.Jvm.D
section OwnWalk
/-- what a walk still owes from where it stands -/
def Go (p : Program) (e : Env) (below : List Frame) (Q : Outcome → State → Prop) (T : State) (g : JFrame) : Prop :=
  ∃ s₂ o, Steps p.tables e below (T.setTop g) s₂ ∧ s₂.status = .running ∧ Ended s₂ below o ∧ Q o s₂
/-- what a body owes at its end -/
def Qend (s : State) (Qf : Option Value → Heap → List Loc → Prop) (kc ks : Nat) (o : Outcome) (U : State) : Prop :=
  ∃ v L, o = .returned v ∧ Qf v U.heap L ∧ FrameEnd s o U L kc ks
variable {p : Program} {l : Launch} {e : Env} {R : Room} {s : State} {m : MethodId} {args : Array Value} {below : List Frame} {meth : Method} {c : Code} {T : State} {locs : List Loc} {cells slots : Nat} {Q : Outcome → State → Prop} {pc : Nat} {Ls : Array Slot} {rest : List Value}
theorem Go.step {T' : State} {g g' : JFrame} (k : ∀ t, Steps p.tables e below (T'.setTop g') t → Steps p.tables e below (T.setTop g) t) (h : Go p e below Q T' g') : Go p e below Q T g := by
  obtain ⟨t, o, h1, h2⟩ := h
  exact ⟨t, o, k t h1, h2⟩
theorem Go.cast {g g' : JFrame} (q : g = g') (h : Go p e below Q T g') : Go p e below Q T g := q ▸ h
theorem g_iadd (X : Stand p l e R s m args below meth c T locs cells slots) (hx : p.tables.exec = Jvm.exec) {x y : Int32} (pc' : Nat) (hd : decode c.code pc = .ok (.iadd, 1))  (hp : pc + 1 = pc')
    (k : Go p e below Q T (mkF m pc' Ls (.int (x + y) :: rest))) : Go p e below Q T (mkF m pc Ls (.int y :: .int x :: rest)) := by
  subst hp; exact Go.step (fun t k => XS.iadd X.here hx rfl hd rfl k) k
theorem g_isub (X : Stand p l e R s m args below meth c T locs cells slots) (hx : p.tables.exec = Jvm.exec) {x y : Int32} (pc' : Nat) (hd : decode c.code pc = .ok (.isub, 1))  (hp : pc + 1 = pc')
    (k : Go p e below Q T (mkF m pc' Ls (.int (x - y) :: rest))) : Go p e below Q T (mkF m pc Ls (.int y :: .int x :: rest)) := by
  subst hp; exact Go.step (fun t k => XS.isub X.here hx rfl hd rfl k) k
theorem g_imul (X : Stand p l e R s m args below meth c T locs cells slots) (hx : p.tables.exec = Jvm.exec) {x y : Int32} (pc' : Nat) (hd : decode c.code pc = .ok (.imul, 1))  (hp : pc + 1 = pc')
    (k : Go p e below Q T (mkF m pc' Ls (.int (x * y) :: rest))) : Go p e below Q T (mkF m pc Ls (.int y :: .int x :: rest)) := by
  subst hp; exact Go.step (fun t k => XS.imul X.here hx rfl hd rfl k) k
theorem g_iand (X : Stand p l e R s m args below meth c T locs cells slots) (hx : p.tables.exec = Jvm.exec) {x y : Int32} (pc' : Nat) (hd : decode c.code pc = .ok (.iand, 1))  (hp : pc + 1 = pc')
    (k : Go p e below Q T (mkF m pc' Ls (.int (x &&& y) :: rest))) : Go p e below Q T (mkF m pc Ls (.int y :: .int x :: rest)) := by
  subst hp; exact Go.step (fun t k => XS.iand X.here hx rfl hd rfl k) k
theorem g_ior (X : Stand p l e R s m args below meth c T locs cells slots) (hx : p.tables.exec = Jvm.exec) {x y : Int32} (pc' : Nat) (hd : decode c.code pc = .ok (.ior, 1))  (hp : pc + 1 = pc')
    (k : Go p e below Q T (mkF m pc' Ls (.int (x ||| y) :: rest))) : Go p e below Q T (mkF m pc Ls (.int y :: .int x :: rest)) := by
  subst hp; exact Go.step (fun t k => XS.ior X.here hx rfl hd rfl k) k
theorem g_ixor (X : Stand p l e R s m args below meth c T locs cells slots) (hx : p.tables.exec = Jvm.exec) {x y : Int32} (pc' : Nat) (hd : decode c.code pc = .ok (.ixor, 1))  (hp : pc + 1 = pc')
    (k : Go p e below Q T (mkF m pc' Ls (.int (x ^^^ y) :: rest))) : Go p e below Q T (mkF m pc Ls (.int y :: .int x :: rest)) := by
  subst hp; exact Go.step (fun t k => XS.ixor X.here hx rfl hd rfl k) k
theorem g_ishl (X : Stand p l e R s m args below meth c T locs cells slots) (hx : p.tables.exec = Jvm.exec) {x y : Int32} (pc' : Nat) (hd : decode c.code pc = .ok (.ishl, 1))  (hp : pc + 1 = pc')
    (k : Go p e below Q T (mkF m pc' Ls (.int (x <<< (y &&& 31)) :: rest))) : Go p e below Q T (mkF m pc Ls (.int y :: .int x :: rest)) := by
  subst hp; exact Go.step (fun t k => XS.ishl X.here hx rfl hd rfl k) k
theorem g_ishr (X : Stand p l e R s m args below meth c T locs cells slots) (hx : p.tables.exec = Jvm.exec) {x y : Int32} (pc' : Nat) (hd : decode c.code pc = .ok (.ishr, 1))  (hp : pc + 1 = pc')
    (k : Go p e below Q T (mkF m pc' Ls (.int (x >>> (y &&& 31)) :: rest))) : Go p e below Q T (mkF m pc Ls (.int y :: .int x :: rest)) := by
  subst hp; exact Go.step (fun t k => XS.ishr X.here hx rfl hd rfl k) k
theorem g_iushr (X : Stand p l e R s m args below meth c T locs cells slots) (hx : p.tables.exec = Jvm.exec) {x y : Int32} (pc' : Nat) (hd : decode c.code pc = .ok (.iushr, 1))  (hp : pc + 1 = pc')
    (k : Go p e below Q T (mkF m pc' Ls (.int ((x.toUInt32 >>> (y &&& 31).toUInt32).toInt32) :: rest))) : Go p e below Q T (mkF m pc Ls (.int y :: .int x :: rest)) := by
  subst hp; exact Go.step (fun t k => XS.iushr X.here hx rfl hd rfl k) k
theorem g_irem (X : Stand p l e R s m args below meth c T locs cells slots) (hx : p.tables.exec = Jvm.exec) {x y : Int32} (pc' : Nat) (hd : decode c.code pc = .ok (.irem, 1)) (hy : y ≠ 0) (hp : pc + 1 = pc')
    (k : Go p e below Q T (mkF m pc' Ls (.int (x % y) :: rest))) : Go p e below Q T (mkF m pc Ls (.int y :: .int x :: rest)) := by
  subst hp; exact Go.step (fun t k => iremM X hx rfl hd rfl hy k) k
theorem g_idiv (X : Stand p l e R s m args below meth c T locs cells slots) (hx : p.tables.exec = Jvm.exec) {x y : Int32} (pc' : Nat) (hd : decode c.code pc = .ok (.idiv, 1)) (hy : y ≠ 0) (hp : pc + 1 = pc')
    (k : Go p e below Q T (mkF m pc' Ls (.int (x / y) :: rest))) : Go p e below Q T (mkF m pc Ls (.int y :: .int x :: rest)) := by
  subst hp; exact Go.step (fun t k => XS.idiv X.here hx rfl hd rfl hy k) k
theorem g_ladd (X : Stand p l e R s m args below meth c T locs cells slots) (hx : p.tables.exec = Jvm.exec) {x y : Int64} (pc' : Nat) (hd : decode c.code pc = .ok (.ladd, 1))  (hp : pc + 1 = pc')
    (k : Go p e below Q T (mkF m pc' Ls (.long (x + y) :: rest))) : Go p e below Q T (mkF m pc Ls (.long y :: .long x :: rest)) := by
  subst hp; exact Go.step (fun t k => XS.ladd X.here hx rfl hd rfl k) k
theorem g_lsub (X : Stand p l e R s m args below meth c T locs cells slots) (hx : p.tables.exec = Jvm.exec) {x y : Int64} (pc' : Nat) (hd : decode c.code pc = .ok (.lsub, 1))  (hp : pc + 1 = pc')
    (k : Go p e below Q T (mkF m pc' Ls (.long (x - y) :: rest))) : Go p e below Q T (mkF m pc Ls (.long y :: .long x :: rest)) := by
  subst hp; exact Go.step (fun t k => XS.lsub X.here hx rfl hd rfl k) k
theorem g_lmul (X : Stand p l e R s m args below meth c T locs cells slots) (hx : p.tables.exec = Jvm.exec) {x y : Int64} (pc' : Nat) (hd : decode c.code pc = .ok (.lmul, 1))  (hp : pc + 1 = pc')
    (k : Go p e below Q T (mkF m pc' Ls (.long (x * y) :: rest))) : Go p e below Q T (mkF m pc Ls (.long y :: .long x :: rest)) := by
  subst hp; exact Go.step (fun t k => XS.lmul X.here hx rfl hd rfl k) k
theorem g_land (X : Stand p l e R s m args below meth c T locs cells slots) (hx : p.tables.exec = Jvm.exec) {x y : Int64} (pc' : Nat) (hd : decode c.code pc = .ok (.land, 1))  (hp : pc + 1 = pc')
    (k : Go p e below Q T (mkF m pc' Ls (.long (x &&& y) :: rest))) : Go p e below Q T (mkF m pc Ls (.long y :: .long x :: rest)) := by
  subst hp; exact Go.step (fun t k => XS.land X.here hx rfl hd rfl k) k
theorem g_lor (X : Stand p l e R s m args below meth c T locs cells slots) (hx : p.tables.exec = Jvm.exec) {x y : Int64} (pc' : Nat) (hd : decode c.code pc = .ok (.lor, 1))  (hp : pc + 1 = pc')
    (k : Go p e below Q T (mkF m pc' Ls (.long (x ||| y) :: rest))) : Go p e below Q T (mkF m pc Ls (.long y :: .long x :: rest)) := by
  subst hp; exact Go.step (fun t k => XS.lor X.here hx rfl hd rfl k) k
theorem g_lxor (X : Stand p l e R s m args below meth c T locs cells slots) (hx : p.tables.exec = Jvm.exec) {x y : Int64} (pc' : Nat) (hd : decode c.code pc = .ok (.lxor, 1))  (hp : pc + 1 = pc')
    (k : Go p e below Q T (mkF m pc' Ls (.long (x ^^^ y) :: rest))) : Go p e below Q T (mkF m pc Ls (.long y :: .long x :: rest)) := by
  subst hp; exact Go.step (fun t k => XS.lxor X.here hx rfl hd rfl k) k
theorem g_ldiv (X : Stand p l e R s m args below meth c T locs cells slots) (hx : p.tables.exec = Jvm.exec) {x y : Int64} (pc' : Nat) (hd : decode c.code pc = .ok (.ldiv, 1)) (hy : y ≠ 0) (hp : pc + 1 = pc')
    (k : Go p e below Q T (mkF m pc' Ls (.long (x / y) :: rest))) : Go p e below Q T (mkF m pc Ls (.long y :: .long x :: rest)) := by
  subst hp; exact Go.step (fun t k => XS.ldiv X.here hx rfl hd rfl hy k) k
theorem g_lshl (X : Stand p l e R s m args below meth c T locs cells slots) (hx : p.tables.exec = Jvm.exec) {x : Int64} {y : Int32} (pc' : Nat) (hd : decode c.code pc = .ok (.lshl, 1))  (hp : pc + 1 = pc')
    (k : Go p e below Q T (mkF m pc' Ls (.long (x <<< (y &&& 0x3f).toInt64) :: rest))) : Go p e below Q T (mkF m pc Ls (.int y :: .long x :: rest)) := by
  subst hp; exact Go.step (fun t k => XS.lshl X.here hx rfl hd rfl k) k
theorem g_lshr (X : Stand p l e R s m args below meth c T locs cells slots) (hx : p.tables.exec = Jvm.exec) {x : Int64} {y : Int32} (pc' : Nat) (hd : decode c.code pc = .ok (.lshr, 1))  (hp : pc + 1 = pc')
    (k : Go p e below Q T (mkF m pc' Ls (.long (x >>> (y &&& 0x3f).toInt64) :: rest))) : Go p e below Q T (mkF m pc Ls (.int y :: .long x :: rest)) := by
  subst hp; exact Go.step (fun t k => XS.lshr X.here hx rfl hd rfl k) k
theorem g_lushr (X : Stand p l e R s m args below meth c T locs cells slots) (hx : p.tables.exec = Jvm.exec) {x : Int64} {y : Int32} (pc' : Nat) (hd : decode c.code pc = .ok (.lushr, 1))  (hp : pc + 1 = pc')
    (k : Go p e below Q T (mkF m pc' Ls (.long ((x.toUInt64 >>> (y &&& 0x3f).toInt64.toUInt64).toInt64) :: rest))) : Go p e below Q T (mkF m pc Ls (.int y :: .long x :: rest)) := by
  subst hp; exact Go.step (fun t k => XS.lushr X.here hx rfl hd rfl k) k
theorem g_i2b (X : Stand p l e R s m args below meth c T locs cells slots) (hx : p.tables.exec = Jvm.exec) {x : Int32} (pc' : Nat) (hd : decode c.code pc = .ok (.i2b, 1))  (hp : pc + 1 = pc')
    (k : Go p e below Q T (mkF m pc' Ls (.int (x.toInt8.toInt32) :: rest))) : Go p e below Q T (mkF m pc Ls (.int x :: rest)) := by
  subst hp; exact Go.step (fun t k => XS.i2b X.here hx rfl hd rfl k) k
theorem g_i2c (X : Stand p l e R s m args below meth c T locs cells slots) (hx : p.tables.exec = Jvm.exec) {x : Int32} (pc' : Nat) (hd : decode c.code pc = .ok (.i2c, 1))  (hp : pc + 1 = pc')
    (k : Go p e below Q T (mkF m pc' Ls (.int (x.toUInt32.toUInt16.toUInt32.toInt32) :: rest))) : Go p e below Q T (mkF m pc Ls (.int x :: rest)) := by
  subst hp; exact Go.step (fun t k => XS.i2c X.here hx rfl hd rfl k) k
theorem g_i2s (X : Stand p l e R s m args below meth c T locs cells slots) (hx : p.tables.exec = Jvm.exec) {x : Int32} (pc' : Nat) (hd : decode c.code pc = .ok (.i2s, 1))  (hp : pc + 1 = pc')
    (k : Go p e below Q T (mkF m pc' Ls (.int (x.toInt16.toInt32) :: rest))) : Go p e below Q T (mkF m pc Ls (.int x :: rest)) := by
  subst hp; exact Go.step (fun t k => XS.i2s X.here hx rfl hd rfl k) k
theorem g_i2l (X : Stand p l e R s m args below meth c T locs cells slots) (hx : p.tables.exec = Jvm.exec) {x : Int32} (pc' : Nat) (hd : decode c.code pc = .ok (.i2l, 1))  (hp : pc + 1 = pc')
    (k : Go p e below Q T (mkF m pc' Ls (.long (x.toInt64) :: rest))) : Go p e below Q T (mkF m pc Ls (.int x :: rest)) := by
  subst hp; exact Go.step (fun t k => XS.i2l X.here hx rfl hd rfl k) k
theorem g_l2i (X : Stand p l e R s m args below meth c T locs cells slots) (hx : p.tables.exec = Jvm.exec) {x : Int64} (pc' : Nat) (hd : decode c.code pc = .ok (.l2i, 1))  (hp : pc + 1 = pc')
    (k : Go p e below Q T (mkF m pc' Ls (.int (x.toInt32) :: rest))) : Go p e below Q T (mkF m pc Ls (.long x :: rest)) := by
  subst hp; exact Go.step (fun t k => XS.l2i X.here hx rfl hd rfl k) k
theorem g_ineg (X : Stand p l e R s m args below meth c T locs cells slots) (hx : p.tables.exec = Jvm.exec) {x : Int32} (pc' : Nat) (hd : decode c.code pc = .ok (.ineg, 1))  (hp : pc + 1 = pc')
    (k : Go p e below Q T (mkF m pc' Ls (.int (-x) :: rest))) : Go p e below Q T (mkF m pc Ls (.int x :: rest)) := by
  subst hp; exact Go.step (fun t k => XS.ineg X.here hx rfl hd rfl k) k
theorem g_lneg (X : Stand p l e R s m args below meth c T locs cells slots) (hx : p.tables.exec = Jvm.exec) {x : Int64} (pc' : Nat) (hd : decode c.code pc = .ok (.lneg, 1))  (hp : pc + 1 = pc')
    (k : Go p e below Q T (mkF m pc' Ls (.long (-x) :: rest))) : Go p e below Q T (mkF m pc Ls (.long x :: rest)) := by
  subst hp; exact Go.step (fun t k => XS.lneg X.here hx rfl hd rfl k) k
theorem g_lcmp (X : Stand p l e R s m args below meth c T locs cells slots) (hx : p.tables.exec = Jvm.exec) {x y : Int64} (pc' : Nat) (hd : decode c.code pc = .ok (.lcmp, 1))  (hp : pc + 1 = pc')
    (k : Go p e below Q T (mkF m pc' Ls (.int (Jvm.Free.XT.cmpL x y) :: rest))) : Go p e below Q T (mkF m pc Ls (.long y :: .long x :: rest)) := by
  subst hp; exact Go.step (fun t k => Jvm.Free.XT.lcmp X.here hx rfl hd rfl k) k
theorem g_iloadN (X : Stand p l e R s m args below meth c T locs cells slots) (hx : p.tables.exec = Jvm.exec) {k' : Fin 4} {v : Int32} (pc' : Nat) (hd : decode c.code pc = .ok (.iload_n k', 1)) (hl : Ls[k'.val]? = some (.val (.int v))) (hp : pc + 1 = pc')
    (k : Go p e below Q T (mkF m pc' Ls (.int v :: rest))) : Go p e below Q T (mkF m pc Ls (rest)) := by
  subst hp; exact Go.step (fun t k => XS.iloadN X.here hx rfl hd hl k) k
theorem g_iload (X : Stand p l e R s m args below meth c T locs cells slots) (hx : p.tables.exec = Jvm.exec) {k' : Nat} {v : Int32} (pc' : Nat) (hd : decode c.code pc = .ok (.iload k', 2)) (hl : Ls[k']? = some (.val (.int v))) (hp : pc + 2 = pc')
    (k : Go p e below Q T (mkF m pc' Ls (.int v :: rest))) : Go p e below Q T (mkF m pc Ls (rest)) := by
  subst hp; exact Go.step (fun t k => XS.iload X.here hx rfl hd hl k) k
theorem g_lloadN (X : Stand p l e R s m args below meth c T locs cells slots) (hx : p.tables.exec = Jvm.exec) {k' : Fin 4} {v : Int64} (pc' : Nat) (hd : decode c.code pc = .ok (.lload_n k', 1)) (hl : Ls[k'.val]? = some (.val (.long v))) (hp : pc + 1 = pc')
    (k : Go p e below Q T (mkF m pc' Ls (.long v :: rest))) : Go p e below Q T (mkF m pc Ls (rest)) := by
  subst hp; exact Go.step (fun t k => XS.lloadN X.here hx rfl hd hl k) k
theorem g_lload (X : Stand p l e R s m args below meth c T locs cells slots) (hx : p.tables.exec = Jvm.exec) {k' : Nat} {v : Int64} (pc' : Nat) (hd : decode c.code pc = .ok (.lload k', 2)) (hl : Ls[k']? = some (.val (.long v))) (hp : pc + 2 = pc')
    (k : Go p e below Q T (mkF m pc' Ls (.long v :: rest))) : Go p e below Q T (mkF m pc Ls (rest)) := by
  subst hp; exact Go.step (fun t k => XS.lload X.here hx rfl hd hl k) k
theorem g_aloadN (X : Stand p l e R s m args below meth c T locs cells slots) (hx : p.tables.exec = Jvm.exec) {k' : Fin 4} {v : Value} (pc' : Nat) (hd : decode c.code pc = .ok (.aload_n k', 1)) (hl : Ls[k'.val]? = some (.val v)) (hv : v.isRef = true) (hp : pc + 1 = pc')
    (k : Go p e below Q T (mkF m pc' Ls (v :: rest))) : Go p e below Q T (mkF m pc Ls (rest)) := by
  subst hp; exact Go.step (fun t k => XS.aloadN X.here hx rfl hd hl hv k) k
theorem g_aload (X : Stand p l e R s m args below meth c T locs cells slots) (hx : p.tables.exec = Jvm.exec) {k' : Nat} {v : Value} (pc' : Nat) (hd : decode c.code pc = .ok (.aload k', 2)) (hl : Ls[k']? = some (.val v)) (hv : v.isRef = true) (hp : pc + 2 = pc')
    (k : Go p e below Q T (mkF m pc' Ls (v :: rest))) : Go p e below Q T (mkF m pc Ls (rest)) := by
  subst hp; exact Go.step (fun t k => XS.aload X.here hx rfl hd hl hv k) k
theorem g_istoreN (X : Stand p l e R s m args below meth c T locs cells slots) (hx : p.tables.exec = Jvm.exec) {k' : Fin 4} {x : Int32} (pc' : Nat) (hd : decode c.code pc = .ok (.istore_n k', 1)) (Ls' : Array Slot) (hl : storeLocals Ls k'.val (.int x) = some Ls') (hp : pc + 1 = pc')
    (k : Go p e below Q T (mkF m pc' Ls' (rest))) : Go p e below Q T (mkF m pc Ls (.int x :: rest)) := by
  subst hp; exact Go.step (fun t k => XS.istoreN X.here hx rfl hd rfl hl k) k
theorem g_istore (X : Stand p l e R s m args below meth c T locs cells slots) (hx : p.tables.exec = Jvm.exec) {k' : Nat} {x : Int32} (pc' : Nat) (hd : decode c.code pc = .ok (.istore k', 2)) (Ls' : Array Slot) (hl : storeLocals Ls k' (.int x) = some Ls') (hp : pc + 2 = pc')
    (k : Go p e below Q T (mkF m pc' Ls' (rest))) : Go p e below Q T (mkF m pc Ls (.int x :: rest)) := by
  subst hp; exact Go.step (fun t k => XS.istore X.here hx rfl hd rfl hl k) k
theorem g_lstoreN (X : Stand p l e R s m args below meth c T locs cells slots) (hx : p.tables.exec = Jvm.exec) {k' : Fin 4} {x : Int64} (pc' : Nat) (hd : decode c.code pc = .ok (.lstore_n k', 1)) (Ls' : Array Slot) (hl : storeLocals Ls k'.val (.long x) = some Ls') (hp : pc + 1 = pc')
    (k : Go p e below Q T (mkF m pc' Ls' (rest))) : Go p e below Q T (mkF m pc Ls (.long x :: rest)) := by
  subst hp; exact Go.step (fun t k => XS.lstoreN X.here hx rfl hd rfl hl k) k
theorem g_lstore (X : Stand p l e R s m args below meth c T locs cells slots) (hx : p.tables.exec = Jvm.exec) {k' : Nat} {x : Int64} (pc' : Nat) (hd : decode c.code pc = .ok (.lstore k', 2)) (Ls' : Array Slot) (hl : storeLocals Ls k' (.long x) = some Ls') (hp : pc + 2 = pc')
    (k : Go p e below Q T (mkF m pc' Ls' (rest))) : Go p e below Q T (mkF m pc Ls (.long x :: rest)) := by
  subst hp; exact Go.step (fun t k => XS.lstore X.here hx rfl hd rfl hl k) k
theorem g_astoreN (X : Stand p l e R s m args below meth c T locs cells slots) (hx : p.tables.exec = Jvm.exec) {k' : Fin 4} {x : Value} (pc' : Nat) (hd : decode c.code pc = .ok (.astore_n k', 1)) (hv : x.isRef = true) (Ls' : Array Slot) (hl : storeLocals Ls k'.val x = some Ls') (hp : pc + 1 = pc')
    (k : Go p e below Q T (mkF m pc' Ls' (rest))) : Go p e below Q T (mkF m pc Ls (x :: rest)) := by
  subst hp; exact Go.step (fun t k => XS.astoreN X.here hx rfl hd rfl hv hl k) k
theorem g_astore (X : Stand p l e R s m args below meth c T locs cells slots) (hx : p.tables.exec = Jvm.exec) {k' : Nat} {x : Value} (pc' : Nat) (hd : decode c.code pc = .ok (.astore k', 2)) (hv : x.isRef = true) (Ls' : Array Slot) (hl : storeLocals Ls k' x = some Ls') (hp : pc + 2 = pc')
    (k : Go p e below Q T (mkF m pc' Ls' (rest))) : Go p e below Q T (mkF m pc Ls (x :: rest)) := by
  subst hp; exact Go.step (fun t k => XS.astore X.here hx rfl hd rfl hv hl k) k
theorem g_iinc (X : Stand p l e R s m args below meth c T locs cells slots) (hx : p.tables.exec = Jvm.exec) {k' : Nat} {cst : Int} {x : Int32} (pc' : Nat) (hd : decode c.code pc = .ok (.iinc k' cst, 3)) (v : Int32) (hv : Int32.ofInt cst = v) (hl : Ls[k']? = some (.val (.int x))) (Ls' : Array Slot) (hl' : storeLocals Ls k' (.int (x + v)) = some Ls') (hp : pc + 3 = pc')
    (k : Go p e below Q T (mkF m pc' Ls' (rest))) : Go p e below Q T (mkF m pc Ls (rest)) := by
  subst hp; exact Go.step (fun t k => XS.iinc X.here hx rfl hd hl (by rw [hv]; exact hl') k) k
theorem g_iincC (X : Stand p l e R s m args below meth c T locs cells slots) (hx : p.tables.exec = Jvm.exec) {k' : Nat} {cst : Int} {x : Int32} (pc' : Nat) (hd : decode c.code pc = .ok (.iinc k' cst, 3)) (v w : Int32) (hv : Int32.ofInt cst = v) (hw : x + v = w) (hl : Ls[k']? = some (.val (.int x))) (Ls' : Array Slot) (hl' : storeLocals Ls k' (.int w) = some Ls') (hp : pc + 3 = pc')
    (k : Go p e below Q T (mkF m pc' Ls' (rest))) : Go p e below Q T (mkF m pc Ls (rest)) := by
  subst hp; exact Go.step (fun t k => XS.iinc X.here hx rfl hd hl (by rw [hv, hw]; exact hl') k) k
theorem g_iconst (X : Stand p l e R s m args below meth c T locs cells slots) (hx : p.tables.exec = Jvm.exec) {i : Int} (pc' : Nat) (hd : decode c.code pc = .ok (.iconst i, 1)) (v : Int32) (hv : Int32.ofInt i = v) (hp : pc + 1 = pc')
    (k : Go p e below Q T (mkF m pc' Ls (.int v :: rest))) : Go p e below Q T (mkF m pc Ls (rest)) := by
  subst hp; exact Go.step (fun t k => XS.iconst X.here hx rfl hd (by rw [hv]; exact k)) k
theorem g_bipush (X : Stand p l e R s m args below meth c T locs cells slots) (hx : p.tables.exec = Jvm.exec) {i : Int} (pc' : Nat) (hd : decode c.code pc = .ok (.bipush i, 2)) (v : Int32) (hv : (Int8.ofInt i).toInt32 = v) (hp : pc + 2 = pc')
    (k : Go p e below Q T (mkF m pc' Ls (.int v :: rest))) : Go p e below Q T (mkF m pc Ls (rest)) := by
  subst hp; exact Go.step (fun t k => XS.bipush X.here hx rfl hd (by rw [hv]; exact k)) k
theorem g_sipush (X : Stand p l e R s m args below meth c T locs cells slots) (hx : p.tables.exec = Jvm.exec) {i : Int} (pc' : Nat) (hd : decode c.code pc = .ok (.sipush i, 3)) (v : Int32) (hv : (Int16.ofInt i).toInt32 = v) (hp : pc + 3 = pc')
    (k : Go p e below Q T (mkF m pc' Ls (.int v :: rest))) : Go p e below Q T (mkF m pc Ls (rest)) := by
  subst hp; exact Go.step (fun t k => XS.sipush X.here hx rfl hd (by rw [hv]; exact k)) k
theorem g_lconst (X : Stand p l e R s m args below meth c T locs cells slots) (hx : p.tables.exec = Jvm.exec) {i : Fin 2} (pc' : Nat) (hd : decode c.code pc = .ok (.lconst i, 1)) (v : Int64) (hv : Int64.ofNat i = v) (hp : pc + 1 = pc')
    (k : Go p e below Q T (mkF m pc' Ls (.long v :: rest))) : Go p e below Q T (mkF m pc Ls (rest)) := by
  subst hp; exact Go.step (fun t k => XS.lconst X.here hx rfl hd (by rw [hv]; exact k)) k
theorem g_null (X : Stand p l e R s m args below meth c T locs cells slots) (hx : p.tables.exec = Jvm.exec)  (pc' : Nat) (hd : decode c.code pc = .ok (.aconst_null, 1))  (hp : pc + 1 = pc')
    (k : Go p e below Q T (mkF m pc' Ls (.null :: rest))) : Go p e below Q T (mkF m pc Ls (rest)) := by
  subst hp; exact Go.step (fun t k => XS.aconstNull X.here hx rfl hd k) k
theorem g_dup (X : Stand p l e R s m args below meth c T locs cells slots) (hx : p.tables.exec = Jvm.exec) {x : Value} (pc' : Nat) (hd : decode c.code pc = .ok (.dup, 1)) (hc : x.category = 1) (hp : pc + 1 = pc')
    (k : Go p e below Q T (mkF m pc' Ls (x :: x :: rest))) : Go p e below Q T (mkF m pc Ls (x :: rest)) := by
  subst hp; exact Go.step (fun t k => XS.dup X.here hx rfl hd rfl hc k) k
theorem g_pop (X : Stand p l e R s m args below meth c T locs cells slots) (hx : p.tables.exec = Jvm.exec) {x : Value} (pc' : Nat) (hd : decode c.code pc = .ok (.pop, 1)) (hc : x.category = 1) (hp : pc + 1 = pc')
    (k : Go p e below Q T (mkF m pc' Ls (rest))) : Go p e below Q T (mkF m pc Ls (x :: rest)) := by
  subst hp; exact Go.step (fun t k => XS.pop X.here hx rfl hd rfl hc k) k
theorem g_dup2 (X : Stand p l e R s m args below meth c T locs cells slots) (hx : p.tables.exec = Jvm.exec) {x y : Value} (pc' : Nat) (hd : decode c.code pc = .ok (.dup2, 1)) (hc : x.category = 1) (hc' : y.category = 1) (hp : pc + 1 = pc')
    (k : Go p e below Q T (mkF m pc' Ls (x :: y :: x :: y :: rest))) : Go p e below Q T (mkF m pc Ls (x :: y :: rest)) := by
  subst hp; exact Go.step (fun t k => Jvm.Free.XT.dup2 X.here hx rfl hd rfl hc hc' k) k
theorem g_dupX1 (X : Stand p l e R s m args below meth c T locs cells slots) (hx : p.tables.exec = Jvm.exec) {x y : Value} (pc' : Nat) (hd : decode c.code pc = .ok (.dup_x1, 1)) (hc : x.category = 1) (hc' : y.category = 1) (hp : pc + 1 = pc')
    (k : Go p e below Q T (mkF m pc' Ls (x :: y :: x :: rest))) : Go p e below Q T (mkF m pc Ls (x :: y :: rest)) := by
  subst hp; exact Go.step (fun t k => XS.dupX1 X.here hx rfl hd rfl hc hc' k) k
theorem g_ldcI (X : Stand p l e R s m args below meth c T locs cells slots) (hx : p.tables.exec = Jvm.exec) {Z : State} {a0 : Array Value} (hZ : Z.Warmed39 s.vm) {own : String} {index : Nat} (v : Int32) (hown : s.vm.findClass own = some m.cls) (w : (Jvm.Cond.constant own index v).before a0 Z = true) (pc' : Nat) (hd : decode c.code pc = .ok (.ldc index, 2))  (hp : pc + 2 = pc')
    (k : Go p e below Q T (mkF m pc' Ls (.int v :: rest))) : Go p e below Q T (mkF m pc Ls (rest)) := by
  subst hp; exact Go.step (fun t k => X.ldcI hx hown (mv hZ w) rfl hd k) k
theorem g_ldcWI (X : Stand p l e R s m args below meth c T locs cells slots) (hx : p.tables.exec = Jvm.exec) {Z : State} {a0 : Array Value} (hZ : Z.Warmed39 s.vm) {own : String} {index : Nat} (v : Int32) (hown : s.vm.findClass own = some m.cls) (w : (Jvm.Cond.constant own index v).before a0 Z = true) (pc' : Nat) (hd : decode c.code pc = .ok (.ldc_w index, 3))  (hp : pc + 3 = pc')
    (k : Go p e below Q T (mkF m pc' Ls (.int v :: rest))) : Go p e below Q T (mkF m pc Ls (rest)) := by
  subst hp; exact Go.step (fun t k => X.ldcWI hx hown (mv hZ w) rfl hd k) k
theorem g_ldc2J (X : Stand p l e R s m args below meth c T locs cells slots) (hx : p.tables.exec = Jvm.exec) {Z : State} {a0 : Array Value} (hZ : Z.Warmed39 s.vm) {own : String} {index : Nat} (v : Int64) (hown : s.vm.findClass own = some m.cls) (w : (Jvm.Cond.constantLong own index v).before a0 Z = true) (pc' : Nat) (hd : decode c.code pc = .ok (.ldc2_w index, 3))  (hp : pc + 3 = pc')
    (k : Go p e below Q T (mkF m pc' Ls (.long v :: rest))) : Go p e below Q T (mkF m pc Ls (rest)) := by
  subst hp; exact Go.step (fun t k => X.ldc2J hx hown (mv hZ w) rfl hd k) k
theorem g_goto (X : Stand p l e R s m args below meth c T locs cells slots) (hx : p.tables.exec = Jvm.exec) (pc' : Nat) {o : Int} (hd : decode c.code pc = .ok (.goto o, 3)) (ho : 0 ≤ (pc : Int) + o) (hp : ((pc : Int) + o).toNat = pc') {st : List Value}
    (k : Go p e below Q T (mkF m pc' Ls st)) : Go p e below Q T (mkF m pc Ls st) := Go.step (fun t k => XS.goto X.here hx rfl rfl hd ho hp k) k
theorem g_ifT (X : Stand p l e R s m args below meth c T locs cells slots) (hx : p.tables.exec = Jvm.exec) (pc' : Nat) {o : Int} {cd : ClassFile.Cond} {x : Int32} (hd : decode c.code pc = .ok (.ifCond cd o, 3)) (hc : ifCond.holds cd x = true) (ho : 0 ≤ (pc : Int) + o) (hp : ((pc : Int) + o).toNat = pc')
    (k : Go p e below Q T (mkF m pc' Ls rest)) : Go p e below Q T (mkF m pc Ls (.int x :: rest)) := Go.step (fun t k => XS.ifYes X.here hx rfl rfl hd rfl hc ho hp k) k
theorem g_ifF (X : Stand p l e R s m args below meth c T locs cells slots) (hx : p.tables.exec = Jvm.exec) (pc' : Nat) {o : Int} {cd : ClassFile.Cond} {x : Int32} (hd : decode c.code pc = .ok (.ifCond cd o, 3)) (hc : ifCond.holds cd x = false) (hp : pc + 3 = pc')
    (k : Go p e below Q T (mkF m pc' Ls rest)) : Go p e below Q T (mkF m pc Ls (.int x :: rest)) := by subst hp; exact Go.step (fun t k => XS.ifNo X.here hx rfl hd rfl hc k) k
theorem g_icT (X : Stand p l e R s m args below meth c T locs cells slots) (hx : p.tables.exec = Jvm.exec) (pc' : Nat) {o : Int} {cd : ClassFile.Cond} {x y : Int32} (hd : decode c.code pc = .ok (.if_icmp cd o, 3)) (hc : if_icmp.holds cd x y = true) (ho : 0 ≤ (pc : Int) + o) (hp : ((pc : Int) + o).toNat = pc')
    (k : Go p e below Q T (mkF m pc' Ls rest)) : Go p e below Q T (mkF m pc Ls (.int y :: .int x :: rest)) := Go.step (fun t k => XS.icmpYes X.here hx rfl rfl hd rfl hc ho hp k) k
theorem g_icF (X : Stand p l e R s m args below meth c T locs cells slots) (hx : p.tables.exec = Jvm.exec) (pc' : Nat) {o : Int} {cd : ClassFile.Cond} {x y : Int32} (hd : decode c.code pc = .ok (.if_icmp cd o, 3)) (hc : if_icmp.holds cd x y = false) (hp : pc + 3 = pc')
    (k : Go p e below Q T (mkF m pc' Ls rest)) : Go p e below Q T (mkF m pc Ls (.int y :: .int x :: rest)) := by subst hp; exact Go.step (fun t k => XS.icmpNo X.here hx rfl hd rfl hc k) k
theorem g_swIn (X : Stand p l e R s m args below meth c T locs cells slots) (hx : p.tables.exec = Jvm.exec) (pc' : Nat) {dflt low high : Int} {offs : Array Int} {len : Nat} {o : Int} {i : Int32} (hd : decode c.code pc = .ok (.tableswitch dflt low high offs, len)) (hin : ¬ (i.toInt < low ∨ i.toInt > high)) (hoff : offs[(i.toInt - low).toNat]? = some o) (ho : 0 ≤ (pc : Int) + o) (hp : ((pc : Int) + o).toNat = pc')
    (k : Go p e below Q T (mkF m pc' Ls rest)) : Go p e below Q T (mkF m pc Ls (.int i :: rest)) := Go.step (fun t k => XS.tswIn X.here hx rfl rfl hd rfl hin hoff ho hp k) k
theorem g_swOut (X : Stand p l e R s m args below meth c T locs cells slots) (hx : p.tables.exec = Jvm.exec) (pc' : Nat) {dflt low high : Int} {offs : Array Int} {len : Nat} {i : Int32} (hd : decode c.code pc = .ok (.tableswitch dflt low high offs, len)) (hout : i.toInt < low ∨ i.toInt > high) (ho : 0 ≤ (pc : Int) + dflt) (hp : ((pc : Int) + dflt).toNat = pc')
    (k : Go p e below Q T (mkF m pc' Ls rest)) : Go p e below Q T (mkF m pc Ls (.int i :: rest)) := Go.step (fun t k => XS.tswOut X.here hx rfl rfl hd rfl hout ho hp k) k
theorem g_nullT (X : Stand p l e R s m args below meth c T locs cells slots) (hx : p.tables.exec = Jvm.exec) (pc' : Nat) {o : Int} (hd : decode c.code pc = .ok (.ifnull o, 3)) (ho : 0 ≤ (pc : Int) + o) (hp : ((pc : Int) + o).toNat = pc')
    (k : Go p e below Q T (mkF m pc' Ls rest)) : Go p e below Q T (mkF m pc Ls (.null :: rest)) := Go.step (fun t k => XS.ifnullYes X.here hx rfl rfl hd rfl ho hp k) k
theorem g_nullF (X : Stand p l e R s m args below meth c T locs cells slots) (hx : p.tables.exec = Jvm.exec) (pc' : Nat) {o : Int} {b : Addr} (hd : decode c.code pc = .ok (.ifnull o, 3)) (hp : pc + 3 = pc')
    (k : Go p e below Q T (mkF m pc' Ls rest)) : Go p e below Q T (mkF m pc Ls (.ref b :: rest)) := by subst hp; exact Go.step (fun t k => XS.ifnullNo X.here hx rfl hd rfl k) k
theorem g_nonnullT (X : Stand p l e R s m args below meth c T locs cells slots) (hx : p.tables.exec = Jvm.exec) (pc' : Nat) {o : Int} {b : Addr} (hd : decode c.code pc = .ok (.ifnonnull o, 3)) (ho : 0 ≤ (pc : Int) + o) (hp : ((pc : Int) + o).toNat = pc')
    (k : Go p e below Q T (mkF m pc' Ls rest)) : Go p e below Q T (mkF m pc Ls (.ref b :: rest)) := Go.step (fun t k => XS.ifnonnullYes X.here hx rfl rfl hd rfl ho hp k) k
theorem g_nonnullF (X : Stand p l e R s m args below meth c T locs cells slots) (hx : p.tables.exec = Jvm.exec) (pc' : Nat) {o : Int} (hd : decode c.code pc = .ok (.ifnonnull o, 3)) (hp : pc + 3 = pc')
    (k : Go p e below Q T (mkF m pc' Ls rest)) : Go p e below Q T (mkF m pc Ls (.null :: rest)) := by subst hp; exact Go.step (fun t k => XS.ifnonnullNo X.here hx rfl hd rfl k) k
theorem own_end {Qf : Option Value → Heap → List Loc → Prop} {kc ks : Nat} {g : JFrame} (X : Stand p l e R s m args below meth c T locs cells slots) (hx : p.tables.exec = Jvm.exec) (v : Option Value) (hv : meth.sig.returnType = none → v = none) (hlocks : meth.locks = false)
    (st : ∀ fs, (∀ (f : JFrame) (acts : List Action), f.method = m → f.locked = none → f.entered = [] → (doReturn e (T.setTop f) acts v).1 = T.setFrames fs) → Steps p.tables e below (T.setTop g) (T.setFrames fs))
    (hc : cells ≤ kc) (hs : slots ≤ ks) (hQ : Qf v T.heap locs) : Go p e below (Qend s Qf kc ks) T g := by
  obtain ⟨fs, hr, hrun, hended, hW, hsame⟩ := X.leave (v := v) hv hlocks
  exact ⟨_, _, st fs hr, hrun, hended, _, _, rfl, hQ, ⟨_, rfl⟩, hW, hsame.mono hc hs⟩
theorem g_iret {Qf : Option Value → Heap → List Loc → Prop} {kc ks : Nat} (X : Stand p l e R s m args below meth c T locs cells slots) (hx : p.tables.exec = Jvm.exec) {z : Int32} (hret : meth.sig.returnType = some .int) (hlocks : meth.locks = false) (hd : decode c.code pc = .ok (.ireturn, 1)) (hc : cells ≤ kc) (hs : slots ≤ ks)
    (hQ : Qf (some (.int z)) T.heap locs) : Go p e below (Qend s Qf kc ks) T (mkF m pc Ls (.int z :: rest)) :=
  own_end X hx _ (fun h => by rw [hret] at h; cases h) hlocks (fun fs hr => retOut X hx hret rfl (Or.inl ⟨rfl, Or.inl rfl, _, rfl⟩) hd hr) hc hs hQ
theorem g_lret {Qf : Option Value → Heap → List Loc → Prop} {kc ks : Nat} (X : Stand p l e R s m args below meth c T locs cells slots) (hx : p.tables.exec = Jvm.exec) {z : Int64} (hret : meth.sig.returnType = some .long) (hlocks : meth.locks = false) (hd : decode c.code pc = .ok (.lreturn, 1)) (hc : cells ≤ kc) (hs : slots ≤ ks)
    (hQ : Qf (some (.long z)) T.heap locs) : Go p e below (Qend s Qf kc ks) T (mkF m pc Ls (.long z :: rest)) :=
  own_end X hx _ (fun h => by rw [hret] at h; cases h) hlocks (fun fs hr => retOut X hx hret rfl (Or.inr (Or.inl ⟨rfl, rfl, _, rfl⟩)) hd hr) hc hs hQ
theorem g_nret {Qf : Option Value → Heap → List Loc → Prop} {kc ks : Nat} (X : Stand p l e R s m args below meth c T locs cells slots) (hx : p.tables.exec = Jvm.exec) {z : Int32} {t : FieldType} (ht : t = .boolean ∨ t = .byte ∨ t = .char ∨ t = .short) (hret : meth.sig.returnType = some t) (hlocks : meth.locks = false) (hd : decode c.code pc = .ok (.ireturn, 1)) (hc : cells ≤ kc) (hs : slots ≤ ks)
    (hQ : Qf (some (.int (nar t z))) T.heap locs) : Go p e below (Qend s Qf kc ks) T (mkF m pc Ls (.int z :: rest)) :=
  own_end X hx _ (fun h => by rw [hret] at h; cases h) hlocks (fun fs hr => retN X hx hret ht hd hr) hc hs hQ
theorem g_aret {Qf : Option Value → Heap → List Loc → Prop} {kc ks : Nat} (X : Stand p l e R s m args below meth c T locs cells slots) (hx : p.tables.exec = Jvm.exec) {w : Value} {t : FieldType} (ht : t.isReference = true) (hw : w.isRef = true) (hn : narrow t w = w) (hret : meth.sig.returnType = some t) (hlocks : meth.locks = false) (hd : decode c.code pc = .ok (.areturn, 1)) (hc : cells ≤ kc) (hs : slots ≤ ks)
    (hQ : Qf (some w) T.heap locs) : Go p e below (Qend s Qf kc ks) T (mkF m pc Ls (w :: rest)) :=
  own_end X hx _ (fun h => by rw [hret] at h; cases h) hlocks (fun fs hr => retOut X hx hret hn (Or.inr (Or.inr (Or.inr (Or.inr ⟨rfl, ht, hw⟩)))) hd hr) hc hs hQ
theorem g_ret0 {Qf : Option Value → Heap → List Loc → Prop} {kc ks : Nat} (X : Stand p l e R s m args below meth c T locs cells slots) (hx : p.tables.exec = Jvm.exec) (hret : meth.sig.returnType = none) (hlocks : meth.locks = false) (hd : decode c.code pc = .ok (.return_, 1)) (hc : cells ≤ kc) (hs : slots ≤ ks)
    (hQ : Qf none T.heap locs) : Go p e below (Qend s Qf kc ks) T (mkF m pc Ls []) :=
  own_end X hx _ (fun _ => rfl) hlocks (fun fs hr => X.returnOut hx hret hd hr) hc hs hQ
/-- from a body's first row -/
theorem own_start {y : MethodName} {bytes : ByteArray} {maxL : Nat} {ret : Option FieldType} {ws : List Jvm.Cond} {rm : Room} {as' : Array Value} {Z : State} {h0 : Heap} {Qf : Option Value → Heap → List Loc → Prop} (hp : plainFor y = true)
    (body : ∀ (p : Program) (e : Env) (s : State) (m : MethodId) (below : List Frame) (meth : Method) (c : Code) (T : State), Stand p l e rm s m as' below meth c T [] 0 0 → p.tables.exec = Jvm.exec → c.code = bytes → c.maxLocals = maxL → s.vm.findClass y.cls = some m.cls →
      meth.name = y.name → meth.sig.returnType = ret → meth.locks = false → Z.Warmed39 s.vm → T.heap = h0 → Go p e below (Qend s Qf rm.cells rm.slots) T (entryFrame m as' maxL)) :
    MetFree l y (head1 (Jvm.Cond.code y bytes maxL ret :: ws) rm) (fun a U => a = as' ∧ Z.Warmed39 U.vm ∧ U.heap = h0) (fun _ _ _ _ _ => True) (fun _ U o U' => ∃ v L, o = .returned v ∧ Qf v U'.heap L ∧ FrameEnd U o U' L rm.cells rm.slots) := by
  refine MetFree.of_bodySF hp hisR ?_
  intro p e s m args below meth c s₁ Bd hml0 hP hK
  obtain ⟨rfl, hZ, hh⟩ := hP
  exact body p e s m below meth c s₁ (Stand.of_body Bd) Bd.exec Bd.bytes hml0 (findClass_of_methodNamed Bd.named) (name_of_methodNamed Bd.named Bd.method).1 Bd.returns Bd.notSynchronized hZ (by rw [← hh, Bd.state]; rfl)
/-- a static call, paid by the callee's own contract -/
theorem g_callS (X : Stand p l e R s m args below meth c T locs cells slots) (hx : p.tables.exec = Jvm.exec) {Z : State} {a0 : Array Value} (hZ : Z.Warmed39 s.vm) {own : String} {index : Nat} {y : MethodName} {bytes : ByteArray} {maxL : Nat} {ret' : Option FieldType} {rm : Room} {Qc : Option Value → Heap → List Loc → Prop} {h : Heap} (pc' : Nat) (argsL : List Value) (rest : List Value) (W : Nat)
    (hown : s.vm.findClass own = some m.cls) (w1 : (Jvm.Cond.methodLink own index y).before a0 Z = true) (w2 : (Jvm.Cond.static y).before a0 Z = true) (w3 : (Jvm.Cond.initialized y.cls).before a0 Z = true) (w4 : (Jvm.Cond.code y bytes maxL ret').before a0 Z = true) (hy : y.cls ≠ "java/lang/invoke/MethodHandle" ∧ y.cls ≠ "java/lang/invoke/VarHandle")
    (eT : T.heap = h)
    (hM : MetFree l y (head1 [Jvm.Cond.code y bytes maxL ret'] rm) (fun a U => a = argsL.toArray ∧ Z.Warmed39 U.vm ∧ U.heap = h) (fun _ _ _ _ _ => True) (fun _ U o U' => ∃ v L, o = .returned v ∧ Qc v U'.heap L ∧ FrameEnd U o U' L rm.cells rm.slots))
    (hf : rm.frames + 1 ≤ R.frames) (hl : W + (maxL + 11) + rm.locals ≤ R.locals) (hcl : cells + rm.cells ≤ R.cells) (hsl : slots + rm.slots ≤ R.slots)
    (hsize : Ls.size = c.maxLocals) {st : List Value} (hstack : st = argsL.reverse ++ rest) {ps : List FieldType} {r : Option FieldType} (hdesc : parseMethodDescriptor y.desc = some ⟨ps, r⟩) (hlen : argsL.length = ps.length) (hW : (rest.map fun v => v.category).sum ≤ W) (hd : decode c.code pc = .ok (.invokestatic index, 3)) (hp : pc + 3 = pc')
    (k : ∀ (v : Option Value) (T' : State) (L : List Loc), Stand p l e R s m args below meth c T' (locs ++ L) (cells + rm.cells) (slots + rm.slots) → Qc v T'.heap L → Go p e below Q T' (mkF m pc' Ls (v.toList ++ rest))) : Go p e below Q T (mkF m pc Ls st) := by
  subst hp hstack
  obtain ⟨v, _, ⟨T', L', k', n'⟩, -, X', ⟨L, hQ, l1, y1, z1⟩, st⟩ := Jvm.LawKit.callS X hx (y := y) hown (mvT hZ w1) (mvT hZ w2) (mvT hZ w3) (mvT hZ w4) hy (backOf (W := W) hM hZ w4 w3 hf hl) (g := mkF m pc Ls (argsL.reverse ++ rest)) rfl hsize (argsL := argsL) (rest := rest) (lenOf hdesc hlen) rfl (by show 2 * 0 + _ ≤ _; omega) hd (fun _ _ => ⟨rfl, eT, hcl, hsl⟩)
  dsimp only [Pt.U, Pt.locs, Pt.cells, Pt.slots] at X' l1 y1 z1 st hQ
  subst l1 y1 z1
  exact Go.step (fun t k => st _ k) (k v T' L X' hQ)
end OwnWalk

theorem d1_0 : decode prog_18_method_4_code 0 = .ok (.iload_n 0, 1) := by decide +kernel
theorem d1_1 : decode prog_18_method_4_code 1 = .ok (.ldc 48, 2) := by decide +kernel
theorem d1_3 : decode prog_18_method_4_code 3 = .ok (.if_icmp .le 17, 3) := by decide +kernel
theorem d1_20 : decode prog_18_method_4_code 20 = .ok (.iconst 1, 1) := by decide +kernel
theorem d1_21 : decode prog_18_method_4_code 21 = .ok (.iconst 2, 1) := by decide +kernel
theorem d1_22 : decode prog_18_method_4_code 22 = .ok (.iload_n 0, 1) := by decide +kernel
theorem d1_23 : decode prog_18_method_4_code 23 = .ok (.imul, 1) := by decide +kernel
theorem d1_24 : decode prog_18_method_4_code 24 = .ok (.iconst 1, 1) := by decide +kernel
theorem d1_25 : decode prog_18_method_4_code 25 = .ok (.isub, 1) := by decide +kernel
theorem d1_26 : decode prog_18_method_4_code 26 = .ok (.invokestatic 58, 3) := by decide +kernel
theorem d1_29 : decode prog_18_method_4_code 29 = .ok (.invokestatic 64, 3) := by decide +kernel
theorem d1_32 : decode prog_18_method_4_code 32 = .ok (.iconst 1, 1) := by decide +kernel
theorem d1_33 : decode prog_18_method_4_code 33 = .ok (.ishl, 1) := by decide +kernel
theorem d1_34 : decode prog_18_method_4_code 34 = .ok (.istore_n 1, 1) := by decide +kernel
theorem d1_35 : decode prog_18_method_4_code 35 = .ok (.iconst 4, 1) := by decide +kernel
theorem d1_36 : decode prog_18_method_4_code 36 = .ok (.iload_n 1, 1) := by decide +kernel
theorem d1_37 : decode prog_18_method_4_code 37 = .ok (.invokestatic 58, 3) := by decide +kernel
theorem d1_40 : decode prog_18_method_4_code 40 = .ok (.ireturn, 1) := by decide +kernel
theorem d2_0 : decode jdk_29_method_65_code 0 = .ok (.iload_n 0, 1) := by decide +kernel
theorem d2_1 : decode jdk_29_method_65_code 1 = .ok (.iload_n 1, 1) := by decide +kernel
theorem d2_2 : decode jdk_29_method_65_code 2 = .ok (.if_icmp .lt 7, 3) := by decide +kernel
theorem d2_5 : decode jdk_29_method_65_code 5 = .ok (.iload_n 0, 1) := by decide +kernel
theorem d2_6 : decode jdk_29_method_65_code 6 = .ok (.goto 4, 3) := by decide +kernel
theorem d2_9 : decode jdk_29_method_65_code 9 = .ok (.iload_n 1, 1) := by decide +kernel
theorem d2_10 : decode jdk_29_method_65_code 10 = .ok (.ireturn, 1) := by decide +kernel
theorem d3_0 : decode jdk_33_method_45_code 0 = .ok (.iload_n 0, 1) := by decide +kernel
theorem d3_1 : decode jdk_33_method_45_code 1 = .ok (.ldc 127, 2) := by decide +kernel
theorem d3_3 : decode jdk_33_method_45_code 3 = .ok (.iload_n 0, 1) := by decide +kernel
theorem d3_4 : decode jdk_33_method_45_code 4 = .ok (.invokestatic 51, 3) := by decide +kernel
theorem d3_7 : decode jdk_33_method_45_code 7 = .ok (.iushr, 1) := by decide +kernel
theorem d3_8 : decode jdk_33_method_45_code 8 = .ok (.iand, 1) := by decide +kernel
theorem d3_9 : decode jdk_33_method_45_code 9 = .ok (.ireturn, 1) := by decide +kernel
theorem d4_0 : decode jdk_33_method_47_code 0 = .ok (.iload_n 0, 1) := by decide +kernel
theorem d4_1 : decode jdk_33_method_47_code 1 = .ok (.ifCond .gt 14, 3) := by decide +kernel
theorem d4_15 : decode jdk_33_method_47_code 15 = .ok (.bipush 31, 2) := by decide +kernel
theorem d4_17 : decode jdk_33_method_47_code 17 = .ok (.istore_n 1, 1) := by decide +kernel
theorem d4_18 : decode jdk_33_method_47_code 18 = .ok (.iload_n 0, 1) := by decide +kernel
theorem d4_19 : decode jdk_33_method_47_code 19 = .ok (.ldc_w 264, 3) := by decide +kernel
theorem d4_22 : decode jdk_33_method_47_code 22 = .ok (.if_icmp .lt 11, 3) := by decide +kernel
theorem d4_25 : decode jdk_33_method_47_code 25 = .ok (.iinc 1 (-16), 3) := by decide +kernel
theorem d4_28 : decode jdk_33_method_47_code 28 = .ok (.iload_n 0, 1) := by decide +kernel
theorem d4_29 : decode jdk_33_method_47_code 29 = .ok (.bipush 16, 2) := by decide +kernel
theorem d4_31 : decode jdk_33_method_47_code 31 = .ok (.iushr, 1) := by decide +kernel
theorem d4_32 : decode jdk_33_method_47_code 32 = .ok (.istore_n 0, 1) := by decide +kernel
theorem d4_33 : decode jdk_33_method_47_code 33 = .ok (.iload_n 0, 1) := by decide +kernel
theorem d4_34 : decode jdk_33_method_47_code 34 = .ok (.sipush 256, 3) := by decide +kernel
theorem d4_37 : decode jdk_33_method_47_code 37 = .ok (.if_icmp .lt 11, 3) := by decide +kernel
theorem d4_40 : decode jdk_33_method_47_code 40 = .ok (.iinc 1 (-8), 3) := by decide +kernel
theorem d4_43 : decode jdk_33_method_47_code 43 = .ok (.iload_n 0, 1) := by decide +kernel
theorem d4_44 : decode jdk_33_method_47_code 44 = .ok (.bipush 8, 2) := by decide +kernel
theorem d4_46 : decode jdk_33_method_47_code 46 = .ok (.iushr, 1) := by decide +kernel
theorem d4_47 : decode jdk_33_method_47_code 47 = .ok (.istore_n 0, 1) := by decide +kernel
theorem d4_48 : decode jdk_33_method_47_code 48 = .ok (.iload_n 0, 1) := by decide +kernel
theorem d4_49 : decode jdk_33_method_47_code 49 = .ok (.bipush 16, 2) := by decide +kernel
theorem d4_51 : decode jdk_33_method_47_code 51 = .ok (.if_icmp .lt 10, 3) := by decide +kernel
theorem d4_54 : decode jdk_33_method_47_code 54 = .ok (.iinc 1 (-4), 3) := by decide +kernel
theorem d4_57 : decode jdk_33_method_47_code 57 = .ok (.iload_n 0, 1) := by decide +kernel
theorem d4_58 : decode jdk_33_method_47_code 58 = .ok (.iconst 4, 1) := by decide +kernel
theorem d4_59 : decode jdk_33_method_47_code 59 = .ok (.iushr, 1) := by decide +kernel
theorem d4_60 : decode jdk_33_method_47_code 60 = .ok (.istore_n 0, 1) := by decide +kernel
theorem d4_61 : decode jdk_33_method_47_code 61 = .ok (.iload_n 0, 1) := by decide +kernel
theorem d4_62 : decode jdk_33_method_47_code 62 = .ok (.iconst 4, 1) := by decide +kernel
theorem d4_63 : decode jdk_33_method_47_code 63 = .ok (.if_icmp .lt 10, 3) := by decide +kernel
theorem d4_66 : decode jdk_33_method_47_code 66 = .ok (.iinc 1 (-2), 3) := by decide +kernel
theorem d4_69 : decode jdk_33_method_47_code 69 = .ok (.iload_n 0, 1) := by decide +kernel
theorem d4_70 : decode jdk_33_method_47_code 70 = .ok (.iconst 2, 1) := by decide +kernel
theorem d4_71 : decode jdk_33_method_47_code 71 = .ok (.iushr, 1) := by decide +kernel
theorem d4_72 : decode jdk_33_method_47_code 72 = .ok (.istore_n 0, 1) := by decide +kernel
theorem d4_73 : decode jdk_33_method_47_code 73 = .ok (.iload_n 1, 1) := by decide +kernel
theorem d4_74 : decode jdk_33_method_47_code 74 = .ok (.iload_n 0, 1) := by decide +kernel
theorem d4_75 : decode jdk_33_method_47_code 75 = .ok (.iconst 1, 1) := by decide +kernel
theorem d4_76 : decode jdk_33_method_47_code 76 = .ok (.iushr, 1) := by decide +kernel
theorem d4_77 : decode jdk_33_method_47_code 77 = .ok (.isub, 1) := by decide +kernel
theorem d4_78 : decode jdk_33_method_47_code 78 = .ok (.ireturn, 1) := by decide +kernel
theorem pd_0 : parseMethodDescriptor "(I)I" = some ⟨[.int], some .int⟩ := by decide +kernel
theorem pd_1 : parseMethodDescriptor "(II)I" = some ⟨[.int, .int], some .int⟩ := by decide +kernel
theorem pn_0 : plainFor (⟨"java/lang/Math", "max", "(II)I"⟩ : MethodName) = true := by first | exact plainFor_of_name (by first | (simp [plainName, overriddenIn]; done) | decide +kernel) | decide +kernel
theorem pn_1 : plainFor (⟨"java/lang/Integer", "numberOfLeadingZeros", "(I)I"⟩ : MethodName) = true := by first | exact plainFor_of_name (by first | (simp [plainName, overriddenIn]; done) | decide +kernel) | decide +kernel
theorem pn_2 : plainFor (⟨"java/lang/Integer", "highestOneBit", "(I)I"⟩ : MethodName) = true := by first | exact plainFor_of_name (by first | (simp [plainName, overriddenIn]; done) | decide +kernel) | decide +kernel
theorem pn_3 : plainFor (⟨"com/example/lean_throttle/leanthrottle/keyed/KeyTable", "slotsFor", "(I)I"⟩ : MethodName) = true := by first | exact plainFor_of_name (by first | (simp [plainName, overriddenIn]; done) | decide +kernel) | decide +kernel
theorem pn_4 : plainFor x = true := by first | exact plainFor_of_name (by first | (simp [plainName, overriddenIn]; done) | decide +kernel) | decide +kernel
def fMax (a b : Int32) : Int32 := if a < b then b else a
def QM (a b : Int32) (h0 : Heap) (n0 : Nat) (v : Option Value) (h : Heap) (L : List Loc) : Prop := v = some (.int (fMax a b)) ∧ Fr n0 L ∧ h = h0
theorem own_max (a b : Int32) : (fMax a b).toInt = if a.toInt < b.toInt then b.toInt else a.toInt := by
  unfold fMax
  by_cases h : a < b
  · have h' := Int32.lt_iff_toInt_lt.mp h
    rw [if_pos h, if_pos h']
  · have h' : ¬ a.toInt < b.toInt := fun q => h (Int32.lt_iff_toInt_lt.mpr q)
    rw [if_neg h, if_neg h']
/-- x lies between the j-th power of two and the next -/
def Top (x : Int32) (j : Nat) : Prop := j ≤ 30 ∧ ((2 ^ j : Nat) : Int) ≤ x.toInt ∧ x.toInt < ((2 ^ (j + 1) : Nat) : Int)
def QN (x : Int32) (h0 : Heap) (n0 : Nat) (v : Option Value) (h : Heap) (L : List Loc) : Prop := ∃ (r : Int32) (j : Nat), v = some (.int r) ∧ Fr n0 L ∧ h = h0 ∧ r.toInt = 31 - (j : Int) ∧ Top x j
def QH (x : Int32) (h0 : Heap) (n0 : Nat) (v : Option Value) (h : Heap) (L : List Loc) : Prop := ∃ r j, v = some (.int r) ∧ Fr n0 L ∧ h = h0 ∧ r.toInt = ((2 ^ j : Nat) : Int) ∧ Top x j
theorem own_bit {x y : Int32} {j : Nat} (hx : Top x j) (hy : y.toInt = ((2 ^ j : Nat) : Int)) : (x &&& y).toInt = ((2 ^ j : Nat) : Int) := by
  obtain ⟨h1, h2, h3⟩ := hx
  have p1 : (2 ^ j : Nat) ≤ 2 ^ 30 := Nat.pow_le_pow_right (by decide) h1
  have p2 : (2 ^ 30 : Nat) = 1073741824 := by decide
  have bx := rng32 x
  have nx : x.toInt = (x.toBitVec.toNat : Int) := by
    have := x.toBitVec.toInt_eq_toNat_cond
    have q : x.toInt = x.toBitVec.toInt := rfl
    have l := x.toBitVec.isLt
    rw [q] at h2 ⊢
    rw [this] at h2 ⊢
    split at h2 <;> split <;> omega
  have ny : y.toInt = (y.toBitVec.toNat : Int) := by
    have := y.toBitVec.toInt_eq_toNat_cond
    have q : y.toInt = y.toBitVec.toInt := rfl
    have l := y.toBitVec.isLt
    rw [q] at hy ⊢
    rw [this] at hy ⊢
    split at hy <;> split <;> omega
  have ey : y.toBitVec.toNat = 2 ^ j := by omega
  have tb : x.toBitVec.toNat.testBit j = true := by
    rw [Nat.testBit_eq_decide_div_mod_eq]
    have d : x.toBitVec.toNat / 2 ^ j = 1 := by
      rw [Nat.pow_succ] at h3
      apply Nat.div_eq_of_lt_le <;> omega
    simp [d]
  have e : (x &&& y).toBitVec.toNat = 2 ^ j := by
    have q : (x &&& y).toBitVec = x.toBitVec &&& y.toBitVec := rfl
    rw [q, BitVec.toNat_and, ey]
    apply Nat.eq_of_testBit_eq
    intro i
    rw [Nat.testBit_and, Nat.testBit_two_pow]
    by_cases hij : j = i
    · subst hij; simp [tb]
    · simp [hij]
  have nz : (x &&& y).toInt = ((x &&& y).toBitVec.toNat : Int) := by
    have := (x &&& y).toBitVec.toInt_eq_toNat_cond
    have q : (x &&& y).toInt = (x &&& y).toBitVec.toInt := rfl
    rw [q, this, e]
    split <;> omega
  rw [nz, e]
theorem own_min {z : Int32} {j : Nat} (hj : j ≤ 30) (hz : z.toInt = 31 - (j : Int)) : (((-2147483648 : Int32).toUInt32 >>> (z &&& 31).toUInt32).toInt32).toInt = ((2 ^ j : Nat) : Int) := by
  have e : z = Int32.ofInt (31 - (j : Int)) := Int32.toInt_inj.mp (by rw [hz, Int32.toInt_ofInt_of_le (by omega) (by omega)])
  subst e
  have all : ∀ j : Fin 31, (((-2147483648 : Int32).toUInt32 >>> (Int32.ofInt (31 - (j.1 : Int)) &&& 31).toUInt32).toInt32).toInt = ((2 ^ j.1 : Nat) : Int) := by decide +kernel
  exact all ⟨j, by omega⟩
set_option maxRecDepth 65536 in
set_option maxHeartbeats 40000000 in
theorem rm2 (l : Launch) (Z : State) (a0 : Array Value) (hw : ∀ d ∈ tables_1, d.before a0 Z = true) (ws : List Jvm.Cond) (a b : Int32) (h0 : Heap) (n0 : Nat) (Z0 : n0 ≤ h0.size)  :
    MetFree l (⟨"java/lang/Math", "max", "(II)I"⟩ : MethodName) (head1 (Jvm.Cond.code (⟨"java/lang/Math", "max", "(II)I"⟩ : MethodName) jdk_29_method_65_code 2 (some .int) :: ws) ({ frames := 0, cells := 0, slots := 0, locals := 0 } : Room)) (fun av_ U_ => av_ = #[(.int a), (.int b)] ∧ Z.Warmed39 U_.vm ∧ U_.heap = h0) (fun _ _ _ _ _ => True) (fun _ U_ o_ W_ => ∃ v_ L_, o_ = .returned v_ ∧ QM a b h0 n0 v_ W_.heap L_ ∧ FrameEnd U_ o_ W_ L_ ({ frames := 0, cells := 0, slots := 0, locals := 0 } : Room).cells ({ frames := 0, cells := 0, slots := 0, locals := 0 } : Room).slots) := by
  refine own_start pn_0 ?_
  intro p e s m below meth c T0 X0 hx hby hml hown hnm hret hlk hZ e0
  have N0 := Fr.nil n0
  have M0 := Z0
  refine Go.cast (show entryFrame m #[(.int a), (.int b)] 2 = (mkF m 0 #[.val (.int a), .val (.int b)] []) from (by first | (simp [entryFrame, mkF, argsToLocals, Value.category, maxLocals]; done) | rfl)) ?_
  refine g_iloadN X0 hx 1 (hb hby d2_0) rfl rfl ?_
  refine g_iloadN X0 hx 2 (hb hby d2_1) rfl rfl ?_
  by_cases c2 : a < b
  · refine g_icT X0 hx 9 (hb hby d2_2) (Jvm.Free.XT.ii_lt_t c2) (by decide) (by decide) ?_
    refine g_iloadN X0 hx 10 (hb hby d2_9) rfl rfl ?_
    refine g_iret X0 hx hret hlk (hb hby d2_10) (by decide) (by decide) ?_
    exact ⟨by simp [fMax, c2], N0, e0⟩
  · refine g_icF X0 hx 5 (hb hby d2_2) (Jvm.Free.XT.ii_lt_f c2) rfl ?_
    refine g_iloadN X0 hx 6 (hb hby d2_5) rfl rfl ?_
    refine g_goto X0 hx 10 (hb hby d2_6) (by decide) (by decide) ?_
    refine g_iret X0 hx hret hlk (hb hby d2_10) (by decide) (by decide) ?_
    exact ⟨by simp [fMax, c2], N0, e0⟩
set_option maxRecDepth 65536 in
set_option maxHeartbeats 40000000 in
theorem rm4 (l : Launch) (Z : State) (a0 : Array Value) (hw : ∀ d ∈ tables_1, d.before a0 Z = true) (ws : List Jvm.Cond) (x : Int32) (h0 : Heap) (n0 : Nat) (Z0 : n0 ≤ h0.size) (hx0 : 1 ≤ x.toInt) :
    MetFree l (⟨"java/lang/Integer", "numberOfLeadingZeros", "(I)I"⟩ : MethodName) (head1 (Jvm.Cond.code (⟨"java/lang/Integer", "numberOfLeadingZeros", "(I)I"⟩ : MethodName) jdk_33_method_47_code 2 (some .int) :: ws) ({ frames := 0, cells := 0, slots := 0, locals := 0 } : Room)) (fun av_ U_ => av_ = #[(.int x)] ∧ Z.Warmed39 U_.vm ∧ U_.heap = h0) (fun _ _ _ _ _ => True) (fun _ U_ o_ W_ => ∃ v_ L_, o_ = .returned v_ ∧ QN x h0 n0 v_ W_.heap L_ ∧ FrameEnd U_ o_ W_ L_ ({ frames := 0, cells := 0, slots := 0, locals := 0 } : Room).cells ({ frames := 0, cells := 0, slots := 0, locals := 0 } : Room).slots) := by
  refine own_start pn_1 ?_
  intro p e s m below meth c T0 X0 hx hby hml hown hnm hret hlk hZ e0
  have N0 := Fr.nil n0
  have M0 := Z0
  refine Go.cast (show entryFrame m #[(.int x)] 2 = (mkF m 0 #[.val (.int x), .unset] []) from (by first | (simp [entryFrame, mkF, argsToLocals, Value.category, maxLocals]; done) | rfl)) ?_
  refine g_iloadN X0 hx 1 (hb hby d4_0) rfl rfl ?_
  refine g_ifT X0 hx 15 (hb hby d4_1) (Jvm.Free.XT.i0_gt_t (show (0 : Int32) < x from (by rw [Int32.lt_iff_toInt_lt]; show (0 : Int) < _; omega))) (by decide) (by decide) ?_
  refine g_bipush X0 hx 17 (hb hby d4_15) (31 : Int32) (by decide) rfl ?_
  refine g_istoreN X0 hx 18 (hb hby d4_17) #[.val (.int x), .val (.int (31 : Int32))] rfl rfl ?_
  refine g_iloadN X0 hx 19 (hb hby d4_18) rfl rfl ?_
  refine g_ldcWI X0 hx hZ (65536 : Int32) hown (hw _ (List.mem_of_getElem? (i := 19) rfl)) 22 (hb hby d4_19) rfl ?_
  by_cases c22 : x < (65536 : Int32)
  · refine g_icT X0 hx 33 (hb hby d4_22) (Jvm.Free.XT.ii_lt_t c22) (by decide) (by decide) ?_
    refine g_iloadN X0 hx 34 (hb hby d4_33) rfl rfl ?_
    refine g_sipush X0 hx 37 (hb hby d4_34) (256 : Int32) (by decide) rfl ?_
    by_cases c37 : x < (256 : Int32)
    · refine g_icT X0 hx 48 (hb hby d4_37) (Jvm.Free.XT.ii_lt_t c37) (by decide) (by decide) ?_
      refine g_iloadN X0 hx 49 (hb hby d4_48) rfl rfl ?_
      refine g_bipush X0 hx 51 (hb hby d4_49) (16 : Int32) (by decide) rfl ?_
      by_cases c51 : x < (16 : Int32)
      · refine g_icT X0 hx 61 (hb hby d4_51) (Jvm.Free.XT.ii_lt_t c51) (by decide) (by decide) ?_
        refine g_iloadN X0 hx 62 (hb hby d4_61) rfl rfl ?_
        refine g_iconst X0 hx 63 (hb hby d4_62) (4 : Int32) (by decide) rfl ?_
        by_cases c63 : x < (4 : Int32)
        · refine g_icT X0 hx 73 (hb hby d4_63) (Jvm.Free.XT.ii_lt_t c63) (by decide) (by decide) ?_
          refine g_iloadN X0 hx 74 (hb hby d4_73) rfl rfl ?_
          refine g_iloadN X0 hx 75 (hb hby d4_74) rfl rfl ?_
          refine g_iconst X0 hx 76 (hb hby d4_75) (1 : Int32) (by decide) rfl ?_
          refine g_iushr X0 hx 77 (hb hby d4_76) rfl ?_
          refine g_isub X0 hx 78 (hb hby d4_77) rfl ?_
          refine g_iret X0 hx hret hlk (hb hby d4_78) (by decide) (by decide) ?_
          have z65536 : (65536 : Int32).toInt = 65536 := by decide
          have z256 : (256 : Int32).toInt = 256 := by decide
          have z16 : (16 : Int32).toInt = 16 := by decide
          have z4 : (4 : Int32).toInt = 4 := by decide
          have z31 : (31 : Int32).toInt = 31 := by decide
          have z1 : (1 : Int32).toInt = 1 := by decide
          have zn : (31 : Int32).toInt = 31 := by decide
          have tl := c_iushr x 1 1 (by decide) (by decide)
          have tq := c_isub (31 : Int32) (((x).toUInt32 >>> ((1 : Int32) &&& 31).toUInt32).toInt32)
          have tb := rng32 ((31 : Int32) - (((x).toUInt32 >>> ((1 : Int32) &&& 31).toUInt32).toInt32))
          have bx := rng32 x
          rw [zn] at tq
          simp only [Int32.lt_iff_toInt_lt, z65536, z256, z16, z4] at c22 c37 c51 c63
          by_cases hy : (x).toInt = 1
          · exact ⟨_, 0, rfl, N0, e0, by omega, by decide, by show (1 : Int) ≤ x.toInt; omega, by show x.toInt < (2 : Int); omega⟩
          · exact ⟨_, 1, rfl, N0, e0, by omega, by decide, by show (2 : Int) ≤ x.toInt; omega, by show x.toInt < (4 : Int); omega⟩
        · refine g_icF X0 hx 66 (hb hby d4_63) (Jvm.Free.XT.ii_lt_f c63) rfl ?_
          refine g_iincC X0 hx 69 (hb hby d4_66) (-2 : Int32) (29 : Int32) (by decide) (by decide) rfl #[.val (.int x), .val (.int (29 : Int32))] rfl rfl ?_
          refine g_iloadN X0 hx 70 (hb hby d4_69) rfl rfl ?_
          refine g_iconst X0 hx 71 (hb hby d4_70) (2 : Int32) (by decide) rfl ?_
          refine g_iushr X0 hx 72 (hb hby d4_71) rfl ?_
          refine g_istoreN X0 hx 73 (hb hby d4_72) #[.val (.int ((x.toUInt32 >>> ((2 : Int32) &&& 31).toUInt32).toInt32)), .val (.int (29 : Int32))] rfl rfl ?_
          generalize h_y4 : ((x.toUInt32 >>> ((2 : Int32) &&& 31).toUInt32).toInt32) = y4
          refine g_iloadN X0 hx 74 (hb hby d4_73) rfl rfl ?_
          refine g_iloadN X0 hx 75 (hb hby d4_74) rfl rfl ?_
          refine g_iconst X0 hx 76 (hb hby d4_75) (1 : Int32) (by decide) rfl ?_
          refine g_iushr X0 hx 77 (hb hby d4_76) rfl ?_
          refine g_isub X0 hx 78 (hb hby d4_77) rfl ?_
          refine g_iret X0 hx hret hlk (hb hby d4_78) (by decide) (by decide) ?_
          have z65536 : (65536 : Int32).toInt = 65536 := by decide
          have z256 : (256 : Int32).toInt = 256 := by decide
          have z16 : (16 : Int32).toInt = 16 := by decide
          have z4 : (4 : Int32).toInt = 4 := by decide
          have z31 : (31 : Int32).toInt = 31 := by decide
          have z1 : (1 : Int32).toInt = 1 := by decide
          have t2 := c_iushr x 2 2 (by decide) (by decide)
          rw [h_y4] at t2
          have zn : (29 : Int32).toInt = 29 := by decide
          have tl := c_iushr y4 1 1 (by decide) (by decide)
          have tq := c_isub (29 : Int32) (((y4).toUInt32 >>> ((1 : Int32) &&& 31).toUInt32).toInt32)
          have tb := rng32 ((29 : Int32) - (((y4).toUInt32 >>> ((1 : Int32) &&& 31).toUInt32).toInt32))
          have bx := rng32 x
          rw [zn] at tq
          simp only [Int32.lt_iff_toInt_lt, z65536, z256, z16, z4] at c22 c37 c51 c63
          by_cases hy : (y4).toInt = 1
          · exact ⟨_, 2, rfl, N0, e0, by omega, by decide, by show (4 : Int) ≤ x.toInt; omega, by show x.toInt < (8 : Int); omega⟩
          · exact ⟨_, 3, rfl, N0, e0, by omega, by decide, by show (8 : Int) ≤ x.toInt; omega, by show x.toInt < (16 : Int); omega⟩
      · refine g_icF X0 hx 54 (hb hby d4_51) (Jvm.Free.XT.ii_lt_f c51) rfl ?_
        refine g_iincC X0 hx 57 (hb hby d4_54) (-4 : Int32) (27 : Int32) (by decide) (by decide) rfl #[.val (.int x), .val (.int (27 : Int32))] rfl rfl ?_
        refine g_iloadN X0 hx 58 (hb hby d4_57) rfl rfl ?_
        refine g_iconst X0 hx 59 (hb hby d4_58) (4 : Int32) (by decide) rfl ?_
        refine g_iushr X0 hx 60 (hb hby d4_59) rfl ?_
        refine g_istoreN X0 hx 61 (hb hby d4_60) #[.val (.int ((x.toUInt32 >>> ((4 : Int32) &&& 31).toUInt32).toInt32)), .val (.int (27 : Int32))] rfl rfl ?_
        generalize h_y3 : ((x.toUInt32 >>> ((4 : Int32) &&& 31).toUInt32).toInt32) = y3
        refine g_iloadN X0 hx 62 (hb hby d4_61) rfl rfl ?_
        refine g_iconst X0 hx 63 (hb hby d4_62) (4 : Int32) (by decide) rfl ?_
        by_cases c63 : y3 < (4 : Int32)
        · refine g_icT X0 hx 73 (hb hby d4_63) (Jvm.Free.XT.ii_lt_t c63) (by decide) (by decide) ?_
          refine g_iloadN X0 hx 74 (hb hby d4_73) rfl rfl ?_
          refine g_iloadN X0 hx 75 (hb hby d4_74) rfl rfl ?_
          refine g_iconst X0 hx 76 (hb hby d4_75) (1 : Int32) (by decide) rfl ?_
          refine g_iushr X0 hx 77 (hb hby d4_76) rfl ?_
          refine g_isub X0 hx 78 (hb hby d4_77) rfl ?_
          refine g_iret X0 hx hret hlk (hb hby d4_78) (by decide) (by decide) ?_
          have z65536 : (65536 : Int32).toInt = 65536 := by decide
          have z256 : (256 : Int32).toInt = 256 := by decide
          have z16 : (16 : Int32).toInt = 16 := by decide
          have z4 : (4 : Int32).toInt = 4 := by decide
          have z31 : (31 : Int32).toInt = 31 := by decide
          have z1 : (1 : Int32).toInt = 1 := by decide
          have t4 := c_iushr x 4 4 (by decide) (by decide)
          rw [h_y3] at t4
          have zn : (27 : Int32).toInt = 27 := by decide
          have tl := c_iushr y3 1 1 (by decide) (by decide)
          have tq := c_isub (27 : Int32) (((y3).toUInt32 >>> ((1 : Int32) &&& 31).toUInt32).toInt32)
          have tb := rng32 ((27 : Int32) - (((y3).toUInt32 >>> ((1 : Int32) &&& 31).toUInt32).toInt32))
          have bx := rng32 x
          rw [zn] at tq
          simp only [Int32.lt_iff_toInt_lt, z65536, z256, z16, z4] at c22 c37 c51 c63
          by_cases hy : (y3).toInt = 1
          · exact ⟨_, 4, rfl, N0, e0, by omega, by decide, by show (16 : Int) ≤ x.toInt; omega, by show x.toInt < (32 : Int); omega⟩
          · exact ⟨_, 5, rfl, N0, e0, by omega, by decide, by show (32 : Int) ≤ x.toInt; omega, by show x.toInt < (64 : Int); omega⟩
        · refine g_icF X0 hx 66 (hb hby d4_63) (Jvm.Free.XT.ii_lt_f c63) rfl ?_
          refine g_iincC X0 hx 69 (hb hby d4_66) (-2 : Int32) (25 : Int32) (by decide) (by decide) rfl #[.val (.int y3), .val (.int (25 : Int32))] rfl rfl ?_
          refine g_iloadN X0 hx 70 (hb hby d4_69) rfl rfl ?_
          refine g_iconst X0 hx 71 (hb hby d4_70) (2 : Int32) (by decide) rfl ?_
          refine g_iushr X0 hx 72 (hb hby d4_71) rfl ?_
          refine g_istoreN X0 hx 73 (hb hby d4_72) #[.val (.int ((y3.toUInt32 >>> ((2 : Int32) &&& 31).toUInt32).toInt32)), .val (.int (25 : Int32))] rfl rfl ?_
          generalize h_y4 : ((y3.toUInt32 >>> ((2 : Int32) &&& 31).toUInt32).toInt32) = y4
          refine g_iloadN X0 hx 74 (hb hby d4_73) rfl rfl ?_
          refine g_iloadN X0 hx 75 (hb hby d4_74) rfl rfl ?_
          refine g_iconst X0 hx 76 (hb hby d4_75) (1 : Int32) (by decide) rfl ?_
          refine g_iushr X0 hx 77 (hb hby d4_76) rfl ?_
          refine g_isub X0 hx 78 (hb hby d4_77) rfl ?_
          refine g_iret X0 hx hret hlk (hb hby d4_78) (by decide) (by decide) ?_
          have z65536 : (65536 : Int32).toInt = 65536 := by decide
          have z256 : (256 : Int32).toInt = 256 := by decide
          have z16 : (16 : Int32).toInt = 16 := by decide
          have z4 : (4 : Int32).toInt = 4 := by decide
          have z31 : (31 : Int32).toInt = 31 := by decide
          have z1 : (1 : Int32).toInt = 1 := by decide
          have t4 := c_iushr x 4 4 (by decide) (by decide)
          rw [h_y3] at t4
          have t2 := c_iushr y3 2 2 (by decide) (by decide)
          rw [h_y4] at t2
          have zn : (25 : Int32).toInt = 25 := by decide
          have tl := c_iushr y4 1 1 (by decide) (by decide)
          have tq := c_isub (25 : Int32) (((y4).toUInt32 >>> ((1 : Int32) &&& 31).toUInt32).toInt32)
          have tb := rng32 ((25 : Int32) - (((y4).toUInt32 >>> ((1 : Int32) &&& 31).toUInt32).toInt32))
          have bx := rng32 x
          rw [zn] at tq
          simp only [Int32.lt_iff_toInt_lt, z65536, z256, z16, z4] at c22 c37 c51 c63
          by_cases hy : (y4).toInt = 1
          · exact ⟨_, 6, rfl, N0, e0, by omega, by decide, by show (64 : Int) ≤ x.toInt; omega, by show x.toInt < (128 : Int); omega⟩
          · exact ⟨_, 7, rfl, N0, e0, by omega, by decide, by show (128 : Int) ≤ x.toInt; omega, by show x.toInt < (256 : Int); omega⟩
    · refine g_icF X0 hx 40 (hb hby d4_37) (Jvm.Free.XT.ii_lt_f c37) rfl ?_
      refine g_iincC X0 hx 43 (hb hby d4_40) (-8 : Int32) (23 : Int32) (by decide) (by decide) rfl #[.val (.int x), .val (.int (23 : Int32))] rfl rfl ?_
      refine g_iloadN X0 hx 44 (hb hby d4_43) rfl rfl ?_
      refine g_bipush X0 hx 46 (hb hby d4_44) (8 : Int32) (by decide) rfl ?_
      refine g_iushr X0 hx 47 (hb hby d4_46) rfl ?_
      refine g_istoreN X0 hx 48 (hb hby d4_47) #[.val (.int ((x.toUInt32 >>> ((8 : Int32) &&& 31).toUInt32).toInt32)), .val (.int (23 : Int32))] rfl rfl ?_
      generalize h_y2 : ((x.toUInt32 >>> ((8 : Int32) &&& 31).toUInt32).toInt32) = y2
      refine g_iloadN X0 hx 49 (hb hby d4_48) rfl rfl ?_
      refine g_bipush X0 hx 51 (hb hby d4_49) (16 : Int32) (by decide) rfl ?_
      by_cases c51 : y2 < (16 : Int32)
      · refine g_icT X0 hx 61 (hb hby d4_51) (Jvm.Free.XT.ii_lt_t c51) (by decide) (by decide) ?_
        refine g_iloadN X0 hx 62 (hb hby d4_61) rfl rfl ?_
        refine g_iconst X0 hx 63 (hb hby d4_62) (4 : Int32) (by decide) rfl ?_
        by_cases c63 : y2 < (4 : Int32)
        · refine g_icT X0 hx 73 (hb hby d4_63) (Jvm.Free.XT.ii_lt_t c63) (by decide) (by decide) ?_
          refine g_iloadN X0 hx 74 (hb hby d4_73) rfl rfl ?_
          refine g_iloadN X0 hx 75 (hb hby d4_74) rfl rfl ?_
          refine g_iconst X0 hx 76 (hb hby d4_75) (1 : Int32) (by decide) rfl ?_
          refine g_iushr X0 hx 77 (hb hby d4_76) rfl ?_
          refine g_isub X0 hx 78 (hb hby d4_77) rfl ?_
          refine g_iret X0 hx hret hlk (hb hby d4_78) (by decide) (by decide) ?_
          have z65536 : (65536 : Int32).toInt = 65536 := by decide
          have z256 : (256 : Int32).toInt = 256 := by decide
          have z16 : (16 : Int32).toInt = 16 := by decide
          have z4 : (4 : Int32).toInt = 4 := by decide
          have z31 : (31 : Int32).toInt = 31 := by decide
          have z1 : (1 : Int32).toInt = 1 := by decide
          have t8 := c_iushr x 8 8 (by decide) (by decide)
          rw [h_y2] at t8
          have zn : (23 : Int32).toInt = 23 := by decide
          have tl := c_iushr y2 1 1 (by decide) (by decide)
          have tq := c_isub (23 : Int32) (((y2).toUInt32 >>> ((1 : Int32) &&& 31).toUInt32).toInt32)
          have tb := rng32 ((23 : Int32) - (((y2).toUInt32 >>> ((1 : Int32) &&& 31).toUInt32).toInt32))
          have bx := rng32 x
          rw [zn] at tq
          simp only [Int32.lt_iff_toInt_lt, z65536, z256, z16, z4] at c22 c37 c51 c63
          by_cases hy : (y2).toInt = 1
          · exact ⟨_, 8, rfl, N0, e0, by omega, by decide, by show (256 : Int) ≤ x.toInt; omega, by show x.toInt < (512 : Int); omega⟩
          · exact ⟨_, 9, rfl, N0, e0, by omega, by decide, by show (512 : Int) ≤ x.toInt; omega, by show x.toInt < (1024 : Int); omega⟩
        · refine g_icF X0 hx 66 (hb hby d4_63) (Jvm.Free.XT.ii_lt_f c63) rfl ?_
          refine g_iincC X0 hx 69 (hb hby d4_66) (-2 : Int32) (21 : Int32) (by decide) (by decide) rfl #[.val (.int y2), .val (.int (21 : Int32))] rfl rfl ?_
          refine g_iloadN X0 hx 70 (hb hby d4_69) rfl rfl ?_
          refine g_iconst X0 hx 71 (hb hby d4_70) (2 : Int32) (by decide) rfl ?_
          refine g_iushr X0 hx 72 (hb hby d4_71) rfl ?_
          refine g_istoreN X0 hx 73 (hb hby d4_72) #[.val (.int ((y2.toUInt32 >>> ((2 : Int32) &&& 31).toUInt32).toInt32)), .val (.int (21 : Int32))] rfl rfl ?_
          generalize h_y4 : ((y2.toUInt32 >>> ((2 : Int32) &&& 31).toUInt32).toInt32) = y4
          refine g_iloadN X0 hx 74 (hb hby d4_73) rfl rfl ?_
          refine g_iloadN X0 hx 75 (hb hby d4_74) rfl rfl ?_
          refine g_iconst X0 hx 76 (hb hby d4_75) (1 : Int32) (by decide) rfl ?_
          refine g_iushr X0 hx 77 (hb hby d4_76) rfl ?_
          refine g_isub X0 hx 78 (hb hby d4_77) rfl ?_
          refine g_iret X0 hx hret hlk (hb hby d4_78) (by decide) (by decide) ?_
          have z65536 : (65536 : Int32).toInt = 65536 := by decide
          have z256 : (256 : Int32).toInt = 256 := by decide
          have z16 : (16 : Int32).toInt = 16 := by decide
          have z4 : (4 : Int32).toInt = 4 := by decide
          have z31 : (31 : Int32).toInt = 31 := by decide
          have z1 : (1 : Int32).toInt = 1 := by decide
          have t8 := c_iushr x 8 8 (by decide) (by decide)
          rw [h_y2] at t8
          have t2 := c_iushr y2 2 2 (by decide) (by decide)
          rw [h_y4] at t2
          have zn : (21 : Int32).toInt = 21 := by decide
          have tl := c_iushr y4 1 1 (by decide) (by decide)
          have tq := c_isub (21 : Int32) (((y4).toUInt32 >>> ((1 : Int32) &&& 31).toUInt32).toInt32)
          have tb := rng32 ((21 : Int32) - (((y4).toUInt32 >>> ((1 : Int32) &&& 31).toUInt32).toInt32))
          have bx := rng32 x
          rw [zn] at tq
          simp only [Int32.lt_iff_toInt_lt, z65536, z256, z16, z4] at c22 c37 c51 c63
          by_cases hy : (y4).toInt = 1
          · exact ⟨_, 10, rfl, N0, e0, by omega, by decide, by show (1024 : Int) ≤ x.toInt; omega, by show x.toInt < (2048 : Int); omega⟩
          · exact ⟨_, 11, rfl, N0, e0, by omega, by decide, by show (2048 : Int) ≤ x.toInt; omega, by show x.toInt < (4096 : Int); omega⟩
      · refine g_icF X0 hx 54 (hb hby d4_51) (Jvm.Free.XT.ii_lt_f c51) rfl ?_
        refine g_iincC X0 hx 57 (hb hby d4_54) (-4 : Int32) (19 : Int32) (by decide) (by decide) rfl #[.val (.int y2), .val (.int (19 : Int32))] rfl rfl ?_
        refine g_iloadN X0 hx 58 (hb hby d4_57) rfl rfl ?_
        refine g_iconst X0 hx 59 (hb hby d4_58) (4 : Int32) (by decide) rfl ?_
        refine g_iushr X0 hx 60 (hb hby d4_59) rfl ?_
        refine g_istoreN X0 hx 61 (hb hby d4_60) #[.val (.int ((y2.toUInt32 >>> ((4 : Int32) &&& 31).toUInt32).toInt32)), .val (.int (19 : Int32))] rfl rfl ?_
        generalize h_y3 : ((y2.toUInt32 >>> ((4 : Int32) &&& 31).toUInt32).toInt32) = y3
        refine g_iloadN X0 hx 62 (hb hby d4_61) rfl rfl ?_
        refine g_iconst X0 hx 63 (hb hby d4_62) (4 : Int32) (by decide) rfl ?_
        by_cases c63 : y3 < (4 : Int32)
        · refine g_icT X0 hx 73 (hb hby d4_63) (Jvm.Free.XT.ii_lt_t c63) (by decide) (by decide) ?_
          refine g_iloadN X0 hx 74 (hb hby d4_73) rfl rfl ?_
          refine g_iloadN X0 hx 75 (hb hby d4_74) rfl rfl ?_
          refine g_iconst X0 hx 76 (hb hby d4_75) (1 : Int32) (by decide) rfl ?_
          refine g_iushr X0 hx 77 (hb hby d4_76) rfl ?_
          refine g_isub X0 hx 78 (hb hby d4_77) rfl ?_
          refine g_iret X0 hx hret hlk (hb hby d4_78) (by decide) (by decide) ?_
          have z65536 : (65536 : Int32).toInt = 65536 := by decide
          have z256 : (256 : Int32).toInt = 256 := by decide
          have z16 : (16 : Int32).toInt = 16 := by decide
          have z4 : (4 : Int32).toInt = 4 := by decide
          have z31 : (31 : Int32).toInt = 31 := by decide
          have z1 : (1 : Int32).toInt = 1 := by decide
          have t8 := c_iushr x 8 8 (by decide) (by decide)
          rw [h_y2] at t8
          have t4 := c_iushr y2 4 4 (by decide) (by decide)
          rw [h_y3] at t4
          have zn : (19 : Int32).toInt = 19 := by decide
          have tl := c_iushr y3 1 1 (by decide) (by decide)
          have tq := c_isub (19 : Int32) (((y3).toUInt32 >>> ((1 : Int32) &&& 31).toUInt32).toInt32)
          have tb := rng32 ((19 : Int32) - (((y3).toUInt32 >>> ((1 : Int32) &&& 31).toUInt32).toInt32))
          have bx := rng32 x
          rw [zn] at tq
          simp only [Int32.lt_iff_toInt_lt, z65536, z256, z16, z4] at c22 c37 c51 c63
          by_cases hy : (y3).toInt = 1
          · exact ⟨_, 12, rfl, N0, e0, by omega, by decide, by show (4096 : Int) ≤ x.toInt; omega, by show x.toInt < (8192 : Int); omega⟩
          · exact ⟨_, 13, rfl, N0, e0, by omega, by decide, by show (8192 : Int) ≤ x.toInt; omega, by show x.toInt < (16384 : Int); omega⟩
        · refine g_icF X0 hx 66 (hb hby d4_63) (Jvm.Free.XT.ii_lt_f c63) rfl ?_
          refine g_iincC X0 hx 69 (hb hby d4_66) (-2 : Int32) (17 : Int32) (by decide) (by decide) rfl #[.val (.int y3), .val (.int (17 : Int32))] rfl rfl ?_
          refine g_iloadN X0 hx 70 (hb hby d4_69) rfl rfl ?_
          refine g_iconst X0 hx 71 (hb hby d4_70) (2 : Int32) (by decide) rfl ?_
          refine g_iushr X0 hx 72 (hb hby d4_71) rfl ?_
          refine g_istoreN X0 hx 73 (hb hby d4_72) #[.val (.int ((y3.toUInt32 >>> ((2 : Int32) &&& 31).toUInt32).toInt32)), .val (.int (17 : Int32))] rfl rfl ?_
          generalize h_y4 : ((y3.toUInt32 >>> ((2 : Int32) &&& 31).toUInt32).toInt32) = y4
          refine g_iloadN X0 hx 74 (hb hby d4_73) rfl rfl ?_
          refine g_iloadN X0 hx 75 (hb hby d4_74) rfl rfl ?_
          refine g_iconst X0 hx 76 (hb hby d4_75) (1 : Int32) (by decide) rfl ?_
          refine g_iushr X0 hx 77 (hb hby d4_76) rfl ?_
          refine g_isub X0 hx 78 (hb hby d4_77) rfl ?_
          refine g_iret X0 hx hret hlk (hb hby d4_78) (by decide) (by decide) ?_
          have z65536 : (65536 : Int32).toInt = 65536 := by decide
          have z256 : (256 : Int32).toInt = 256 := by decide
          have z16 : (16 : Int32).toInt = 16 := by decide
          have z4 : (4 : Int32).toInt = 4 := by decide
          have z31 : (31 : Int32).toInt = 31 := by decide
          have z1 : (1 : Int32).toInt = 1 := by decide
          have t8 := c_iushr x 8 8 (by decide) (by decide)
          rw [h_y2] at t8
          have t4 := c_iushr y2 4 4 (by decide) (by decide)
          rw [h_y3] at t4
          have t2 := c_iushr y3 2 2 (by decide) (by decide)
          rw [h_y4] at t2
          have zn : (17 : Int32).toInt = 17 := by decide
          have tl := c_iushr y4 1 1 (by decide) (by decide)
          have tq := c_isub (17 : Int32) (((y4).toUInt32 >>> ((1 : Int32) &&& 31).toUInt32).toInt32)
          have tb := rng32 ((17 : Int32) - (((y4).toUInt32 >>> ((1 : Int32) &&& 31).toUInt32).toInt32))
          have bx := rng32 x
          rw [zn] at tq
          simp only [Int32.lt_iff_toInt_lt, z65536, z256, z16, z4] at c22 c37 c51 c63
          by_cases hy : (y4).toInt = 1
          · exact ⟨_, 14, rfl, N0, e0, by omega, by decide, by show (16384 : Int) ≤ x.toInt; omega, by show x.toInt < (32768 : Int); omega⟩
          · exact ⟨_, 15, rfl, N0, e0, by omega, by decide, by show (32768 : Int) ≤ x.toInt; omega, by show x.toInt < (65536 : Int); omega⟩
  · refine g_icF X0 hx 25 (hb hby d4_22) (Jvm.Free.XT.ii_lt_f c22) rfl ?_
    refine g_iincC X0 hx 28 (hb hby d4_25) (-16 : Int32) (15 : Int32) (by decide) (by decide) rfl #[.val (.int x), .val (.int (15 : Int32))] rfl rfl ?_
    refine g_iloadN X0 hx 29 (hb hby d4_28) rfl rfl ?_
    refine g_bipush X0 hx 31 (hb hby d4_29) (16 : Int32) (by decide) rfl ?_
    refine g_iushr X0 hx 32 (hb hby d4_31) rfl ?_
    refine g_istoreN X0 hx 33 (hb hby d4_32) #[.val (.int ((x.toUInt32 >>> ((16 : Int32) &&& 31).toUInt32).toInt32)), .val (.int (15 : Int32))] rfl rfl ?_
    generalize h_y1 : ((x.toUInt32 >>> ((16 : Int32) &&& 31).toUInt32).toInt32) = y1
    refine g_iloadN X0 hx 34 (hb hby d4_33) rfl rfl ?_
    refine g_sipush X0 hx 37 (hb hby d4_34) (256 : Int32) (by decide) rfl ?_
    by_cases c37 : y1 < (256 : Int32)
    · refine g_icT X0 hx 48 (hb hby d4_37) (Jvm.Free.XT.ii_lt_t c37) (by decide) (by decide) ?_
      refine g_iloadN X0 hx 49 (hb hby d4_48) rfl rfl ?_
      refine g_bipush X0 hx 51 (hb hby d4_49) (16 : Int32) (by decide) rfl ?_
      by_cases c51 : y1 < (16 : Int32)
      · refine g_icT X0 hx 61 (hb hby d4_51) (Jvm.Free.XT.ii_lt_t c51) (by decide) (by decide) ?_
        refine g_iloadN X0 hx 62 (hb hby d4_61) rfl rfl ?_
        refine g_iconst X0 hx 63 (hb hby d4_62) (4 : Int32) (by decide) rfl ?_
        by_cases c63 : y1 < (4 : Int32)
        · refine g_icT X0 hx 73 (hb hby d4_63) (Jvm.Free.XT.ii_lt_t c63) (by decide) (by decide) ?_
          refine g_iloadN X0 hx 74 (hb hby d4_73) rfl rfl ?_
          refine g_iloadN X0 hx 75 (hb hby d4_74) rfl rfl ?_
          refine g_iconst X0 hx 76 (hb hby d4_75) (1 : Int32) (by decide) rfl ?_
          refine g_iushr X0 hx 77 (hb hby d4_76) rfl ?_
          refine g_isub X0 hx 78 (hb hby d4_77) rfl ?_
          refine g_iret X0 hx hret hlk (hb hby d4_78) (by decide) (by decide) ?_
          have z65536 : (65536 : Int32).toInt = 65536 := by decide
          have z256 : (256 : Int32).toInt = 256 := by decide
          have z16 : (16 : Int32).toInt = 16 := by decide
          have z4 : (4 : Int32).toInt = 4 := by decide
          have z31 : (31 : Int32).toInt = 31 := by decide
          have z1 : (1 : Int32).toInt = 1 := by decide
          have t16 := c_iushr x 16 16 (by decide) (by decide)
          rw [h_y1] at t16
          have zn : (15 : Int32).toInt = 15 := by decide
          have tl := c_iushr y1 1 1 (by decide) (by decide)
          have tq := c_isub (15 : Int32) (((y1).toUInt32 >>> ((1 : Int32) &&& 31).toUInt32).toInt32)
          have tb := rng32 ((15 : Int32) - (((y1).toUInt32 >>> ((1 : Int32) &&& 31).toUInt32).toInt32))
          have bx := rng32 x
          rw [zn] at tq
          simp only [Int32.lt_iff_toInt_lt, z65536, z256, z16, z4] at c22 c37 c51 c63
          by_cases hy : (y1).toInt = 1
          · exact ⟨_, 16, rfl, N0, e0, by omega, by decide, by show (65536 : Int) ≤ x.toInt; omega, by show x.toInt < (131072 : Int); omega⟩
          · exact ⟨_, 17, rfl, N0, e0, by omega, by decide, by show (131072 : Int) ≤ x.toInt; omega, by show x.toInt < (262144 : Int); omega⟩
        · refine g_icF X0 hx 66 (hb hby d4_63) (Jvm.Free.XT.ii_lt_f c63) rfl ?_
          refine g_iincC X0 hx 69 (hb hby d4_66) (-2 : Int32) (13 : Int32) (by decide) (by decide) rfl #[.val (.int y1), .val (.int (13 : Int32))] rfl rfl ?_
          refine g_iloadN X0 hx 70 (hb hby d4_69) rfl rfl ?_
          refine g_iconst X0 hx 71 (hb hby d4_70) (2 : Int32) (by decide) rfl ?_
          refine g_iushr X0 hx 72 (hb hby d4_71) rfl ?_
          refine g_istoreN X0 hx 73 (hb hby d4_72) #[.val (.int ((y1.toUInt32 >>> ((2 : Int32) &&& 31).toUInt32).toInt32)), .val (.int (13 : Int32))] rfl rfl ?_
          generalize h_y4 : ((y1.toUInt32 >>> ((2 : Int32) &&& 31).toUInt32).toInt32) = y4
          refine g_iloadN X0 hx 74 (hb hby d4_73) rfl rfl ?_
          refine g_iloadN X0 hx 75 (hb hby d4_74) rfl rfl ?_
          refine g_iconst X0 hx 76 (hb hby d4_75) (1 : Int32) (by decide) rfl ?_
          refine g_iushr X0 hx 77 (hb hby d4_76) rfl ?_
          refine g_isub X0 hx 78 (hb hby d4_77) rfl ?_
          refine g_iret X0 hx hret hlk (hb hby d4_78) (by decide) (by decide) ?_
          have z65536 : (65536 : Int32).toInt = 65536 := by decide
          have z256 : (256 : Int32).toInt = 256 := by decide
          have z16 : (16 : Int32).toInt = 16 := by decide
          have z4 : (4 : Int32).toInt = 4 := by decide
          have z31 : (31 : Int32).toInt = 31 := by decide
          have z1 : (1 : Int32).toInt = 1 := by decide
          have t16 := c_iushr x 16 16 (by decide) (by decide)
          rw [h_y1] at t16
          have t2 := c_iushr y1 2 2 (by decide) (by decide)
          rw [h_y4] at t2
          have zn : (13 : Int32).toInt = 13 := by decide
          have tl := c_iushr y4 1 1 (by decide) (by decide)
          have tq := c_isub (13 : Int32) (((y4).toUInt32 >>> ((1 : Int32) &&& 31).toUInt32).toInt32)
          have tb := rng32 ((13 : Int32) - (((y4).toUInt32 >>> ((1 : Int32) &&& 31).toUInt32).toInt32))
          have bx := rng32 x
          rw [zn] at tq
          simp only [Int32.lt_iff_toInt_lt, z65536, z256, z16, z4] at c22 c37 c51 c63
          by_cases hy : (y4).toInt = 1
          · exact ⟨_, 18, rfl, N0, e0, by omega, by decide, by show (262144 : Int) ≤ x.toInt; omega, by show x.toInt < (524288 : Int); omega⟩
          · exact ⟨_, 19, rfl, N0, e0, by omega, by decide, by show (524288 : Int) ≤ x.toInt; omega, by show x.toInt < (1048576 : Int); omega⟩
      · refine g_icF X0 hx 54 (hb hby d4_51) (Jvm.Free.XT.ii_lt_f c51) rfl ?_
        refine g_iincC X0 hx 57 (hb hby d4_54) (-4 : Int32) (11 : Int32) (by decide) (by decide) rfl #[.val (.int y1), .val (.int (11 : Int32))] rfl rfl ?_
        refine g_iloadN X0 hx 58 (hb hby d4_57) rfl rfl ?_
        refine g_iconst X0 hx 59 (hb hby d4_58) (4 : Int32) (by decide) rfl ?_
        refine g_iushr X0 hx 60 (hb hby d4_59) rfl ?_
        refine g_istoreN X0 hx 61 (hb hby d4_60) #[.val (.int ((y1.toUInt32 >>> ((4 : Int32) &&& 31).toUInt32).toInt32)), .val (.int (11 : Int32))] rfl rfl ?_
        generalize h_y3 : ((y1.toUInt32 >>> ((4 : Int32) &&& 31).toUInt32).toInt32) = y3
        refine g_iloadN X0 hx 62 (hb hby d4_61) rfl rfl ?_
        refine g_iconst X0 hx 63 (hb hby d4_62) (4 : Int32) (by decide) rfl ?_
        by_cases c63 : y3 < (4 : Int32)
        · refine g_icT X0 hx 73 (hb hby d4_63) (Jvm.Free.XT.ii_lt_t c63) (by decide) (by decide) ?_
          refine g_iloadN X0 hx 74 (hb hby d4_73) rfl rfl ?_
          refine g_iloadN X0 hx 75 (hb hby d4_74) rfl rfl ?_
          refine g_iconst X0 hx 76 (hb hby d4_75) (1 : Int32) (by decide) rfl ?_
          refine g_iushr X0 hx 77 (hb hby d4_76) rfl ?_
          refine g_isub X0 hx 78 (hb hby d4_77) rfl ?_
          refine g_iret X0 hx hret hlk (hb hby d4_78) (by decide) (by decide) ?_
          have z65536 : (65536 : Int32).toInt = 65536 := by decide
          have z256 : (256 : Int32).toInt = 256 := by decide
          have z16 : (16 : Int32).toInt = 16 := by decide
          have z4 : (4 : Int32).toInt = 4 := by decide
          have z31 : (31 : Int32).toInt = 31 := by decide
          have z1 : (1 : Int32).toInt = 1 := by decide
          have t16 := c_iushr x 16 16 (by decide) (by decide)
          rw [h_y1] at t16
          have t4 := c_iushr y1 4 4 (by decide) (by decide)
          rw [h_y3] at t4
          have zn : (11 : Int32).toInt = 11 := by decide
          have tl := c_iushr y3 1 1 (by decide) (by decide)
          have tq := c_isub (11 : Int32) (((y3).toUInt32 >>> ((1 : Int32) &&& 31).toUInt32).toInt32)
          have tb := rng32 ((11 : Int32) - (((y3).toUInt32 >>> ((1 : Int32) &&& 31).toUInt32).toInt32))
          have bx := rng32 x
          rw [zn] at tq
          simp only [Int32.lt_iff_toInt_lt, z65536, z256, z16, z4] at c22 c37 c51 c63
          by_cases hy : (y3).toInt = 1
          · exact ⟨_, 20, rfl, N0, e0, by omega, by decide, by show (1048576 : Int) ≤ x.toInt; omega, by show x.toInt < (2097152 : Int); omega⟩
          · exact ⟨_, 21, rfl, N0, e0, by omega, by decide, by show (2097152 : Int) ≤ x.toInt; omega, by show x.toInt < (4194304 : Int); omega⟩
        · refine g_icF X0 hx 66 (hb hby d4_63) (Jvm.Free.XT.ii_lt_f c63) rfl ?_
          refine g_iincC X0 hx 69 (hb hby d4_66) (-2 : Int32) (9 : Int32) (by decide) (by decide) rfl #[.val (.int y3), .val (.int (9 : Int32))] rfl rfl ?_
          refine g_iloadN X0 hx 70 (hb hby d4_69) rfl rfl ?_
          refine g_iconst X0 hx 71 (hb hby d4_70) (2 : Int32) (by decide) rfl ?_
          refine g_iushr X0 hx 72 (hb hby d4_71) rfl ?_
          refine g_istoreN X0 hx 73 (hb hby d4_72) #[.val (.int ((y3.toUInt32 >>> ((2 : Int32) &&& 31).toUInt32).toInt32)), .val (.int (9 : Int32))] rfl rfl ?_
          generalize h_y4 : ((y3.toUInt32 >>> ((2 : Int32) &&& 31).toUInt32).toInt32) = y4
          refine g_iloadN X0 hx 74 (hb hby d4_73) rfl rfl ?_
          refine g_iloadN X0 hx 75 (hb hby d4_74) rfl rfl ?_
          refine g_iconst X0 hx 76 (hb hby d4_75) (1 : Int32) (by decide) rfl ?_
          refine g_iushr X0 hx 77 (hb hby d4_76) rfl ?_
          refine g_isub X0 hx 78 (hb hby d4_77) rfl ?_
          refine g_iret X0 hx hret hlk (hb hby d4_78) (by decide) (by decide) ?_
          have z65536 : (65536 : Int32).toInt = 65536 := by decide
          have z256 : (256 : Int32).toInt = 256 := by decide
          have z16 : (16 : Int32).toInt = 16 := by decide
          have z4 : (4 : Int32).toInt = 4 := by decide
          have z31 : (31 : Int32).toInt = 31 := by decide
          have z1 : (1 : Int32).toInt = 1 := by decide
          have t16 := c_iushr x 16 16 (by decide) (by decide)
          rw [h_y1] at t16
          have t4 := c_iushr y1 4 4 (by decide) (by decide)
          rw [h_y3] at t4
          have t2 := c_iushr y3 2 2 (by decide) (by decide)
          rw [h_y4] at t2
          have zn : (9 : Int32).toInt = 9 := by decide
          have tl := c_iushr y4 1 1 (by decide) (by decide)
          have tq := c_isub (9 : Int32) (((y4).toUInt32 >>> ((1 : Int32) &&& 31).toUInt32).toInt32)
          have tb := rng32 ((9 : Int32) - (((y4).toUInt32 >>> ((1 : Int32) &&& 31).toUInt32).toInt32))
          have bx := rng32 x
          rw [zn] at tq
          simp only [Int32.lt_iff_toInt_lt, z65536, z256, z16, z4] at c22 c37 c51 c63
          by_cases hy : (y4).toInt = 1
          · exact ⟨_, 22, rfl, N0, e0, by omega, by decide, by show (4194304 : Int) ≤ x.toInt; omega, by show x.toInt < (8388608 : Int); omega⟩
          · exact ⟨_, 23, rfl, N0, e0, by omega, by decide, by show (8388608 : Int) ≤ x.toInt; omega, by show x.toInt < (16777216 : Int); omega⟩
    · refine g_icF X0 hx 40 (hb hby d4_37) (Jvm.Free.XT.ii_lt_f c37) rfl ?_
      refine g_iincC X0 hx 43 (hb hby d4_40) (-8 : Int32) (7 : Int32) (by decide) (by decide) rfl #[.val (.int y1), .val (.int (7 : Int32))] rfl rfl ?_
      refine g_iloadN X0 hx 44 (hb hby d4_43) rfl rfl ?_
      refine g_bipush X0 hx 46 (hb hby d4_44) (8 : Int32) (by decide) rfl ?_
      refine g_iushr X0 hx 47 (hb hby d4_46) rfl ?_
      refine g_istoreN X0 hx 48 (hb hby d4_47) #[.val (.int ((y1.toUInt32 >>> ((8 : Int32) &&& 31).toUInt32).toInt32)), .val (.int (7 : Int32))] rfl rfl ?_
      generalize h_y2 : ((y1.toUInt32 >>> ((8 : Int32) &&& 31).toUInt32).toInt32) = y2
      refine g_iloadN X0 hx 49 (hb hby d4_48) rfl rfl ?_
      refine g_bipush X0 hx 51 (hb hby d4_49) (16 : Int32) (by decide) rfl ?_
      by_cases c51 : y2 < (16 : Int32)
      · refine g_icT X0 hx 61 (hb hby d4_51) (Jvm.Free.XT.ii_lt_t c51) (by decide) (by decide) ?_
        refine g_iloadN X0 hx 62 (hb hby d4_61) rfl rfl ?_
        refine g_iconst X0 hx 63 (hb hby d4_62) (4 : Int32) (by decide) rfl ?_
        by_cases c63 : y2 < (4 : Int32)
        · refine g_icT X0 hx 73 (hb hby d4_63) (Jvm.Free.XT.ii_lt_t c63) (by decide) (by decide) ?_
          refine g_iloadN X0 hx 74 (hb hby d4_73) rfl rfl ?_
          refine g_iloadN X0 hx 75 (hb hby d4_74) rfl rfl ?_
          refine g_iconst X0 hx 76 (hb hby d4_75) (1 : Int32) (by decide) rfl ?_
          refine g_iushr X0 hx 77 (hb hby d4_76) rfl ?_
          refine g_isub X0 hx 78 (hb hby d4_77) rfl ?_
          refine g_iret X0 hx hret hlk (hb hby d4_78) (by decide) (by decide) ?_
          have z65536 : (65536 : Int32).toInt = 65536 := by decide
          have z256 : (256 : Int32).toInt = 256 := by decide
          have z16 : (16 : Int32).toInt = 16 := by decide
          have z4 : (4 : Int32).toInt = 4 := by decide
          have z31 : (31 : Int32).toInt = 31 := by decide
          have z1 : (1 : Int32).toInt = 1 := by decide
          have t16 := c_iushr x 16 16 (by decide) (by decide)
          rw [h_y1] at t16
          have t8 := c_iushr y1 8 8 (by decide) (by decide)
          rw [h_y2] at t8
          have zn : (7 : Int32).toInt = 7 := by decide
          have tl := c_iushr y2 1 1 (by decide) (by decide)
          have tq := c_isub (7 : Int32) (((y2).toUInt32 >>> ((1 : Int32) &&& 31).toUInt32).toInt32)
          have tb := rng32 ((7 : Int32) - (((y2).toUInt32 >>> ((1 : Int32) &&& 31).toUInt32).toInt32))
          have bx := rng32 x
          rw [zn] at tq
          simp only [Int32.lt_iff_toInt_lt, z65536, z256, z16, z4] at c22 c37 c51 c63
          by_cases hy : (y2).toInt = 1
          · exact ⟨_, 24, rfl, N0, e0, by omega, by decide, by show (16777216 : Int) ≤ x.toInt; omega, by show x.toInt < (33554432 : Int); omega⟩
          · exact ⟨_, 25, rfl, N0, e0, by omega, by decide, by show (33554432 : Int) ≤ x.toInt; omega, by show x.toInt < (67108864 : Int); omega⟩
        · refine g_icF X0 hx 66 (hb hby d4_63) (Jvm.Free.XT.ii_lt_f c63) rfl ?_
          refine g_iincC X0 hx 69 (hb hby d4_66) (-2 : Int32) (5 : Int32) (by decide) (by decide) rfl #[.val (.int y2), .val (.int (5 : Int32))] rfl rfl ?_
          refine g_iloadN X0 hx 70 (hb hby d4_69) rfl rfl ?_
          refine g_iconst X0 hx 71 (hb hby d4_70) (2 : Int32) (by decide) rfl ?_
          refine g_iushr X0 hx 72 (hb hby d4_71) rfl ?_
          refine g_istoreN X0 hx 73 (hb hby d4_72) #[.val (.int ((y2.toUInt32 >>> ((2 : Int32) &&& 31).toUInt32).toInt32)), .val (.int (5 : Int32))] rfl rfl ?_
          generalize h_y4 : ((y2.toUInt32 >>> ((2 : Int32) &&& 31).toUInt32).toInt32) = y4
          refine g_iloadN X0 hx 74 (hb hby d4_73) rfl rfl ?_
          refine g_iloadN X0 hx 75 (hb hby d4_74) rfl rfl ?_
          refine g_iconst X0 hx 76 (hb hby d4_75) (1 : Int32) (by decide) rfl ?_
          refine g_iushr X0 hx 77 (hb hby d4_76) rfl ?_
          refine g_isub X0 hx 78 (hb hby d4_77) rfl ?_
          refine g_iret X0 hx hret hlk (hb hby d4_78) (by decide) (by decide) ?_
          have z65536 : (65536 : Int32).toInt = 65536 := by decide
          have z256 : (256 : Int32).toInt = 256 := by decide
          have z16 : (16 : Int32).toInt = 16 := by decide
          have z4 : (4 : Int32).toInt = 4 := by decide
          have z31 : (31 : Int32).toInt = 31 := by decide
          have z1 : (1 : Int32).toInt = 1 := by decide
          have t16 := c_iushr x 16 16 (by decide) (by decide)
          rw [h_y1] at t16
          have t8 := c_iushr y1 8 8 (by decide) (by decide)
          rw [h_y2] at t8
          have t2 := c_iushr y2 2 2 (by decide) (by decide)
          rw [h_y4] at t2
          have zn : (5 : Int32).toInt = 5 := by decide
          have tl := c_iushr y4 1 1 (by decide) (by decide)
          have tq := c_isub (5 : Int32) (((y4).toUInt32 >>> ((1 : Int32) &&& 31).toUInt32).toInt32)
          have tb := rng32 ((5 : Int32) - (((y4).toUInt32 >>> ((1 : Int32) &&& 31).toUInt32).toInt32))
          have bx := rng32 x
          rw [zn] at tq
          simp only [Int32.lt_iff_toInt_lt, z65536, z256, z16, z4] at c22 c37 c51 c63
          by_cases hy : (y4).toInt = 1
          · exact ⟨_, 26, rfl, N0, e0, by omega, by decide, by show (67108864 : Int) ≤ x.toInt; omega, by show x.toInt < (134217728 : Int); omega⟩
          · exact ⟨_, 27, rfl, N0, e0, by omega, by decide, by show (134217728 : Int) ≤ x.toInt; omega, by show x.toInt < (268435456 : Int); omega⟩
      · refine g_icF X0 hx 54 (hb hby d4_51) (Jvm.Free.XT.ii_lt_f c51) rfl ?_
        refine g_iincC X0 hx 57 (hb hby d4_54) (-4 : Int32) (3 : Int32) (by decide) (by decide) rfl #[.val (.int y2), .val (.int (3 : Int32))] rfl rfl ?_
        refine g_iloadN X0 hx 58 (hb hby d4_57) rfl rfl ?_
        refine g_iconst X0 hx 59 (hb hby d4_58) (4 : Int32) (by decide) rfl ?_
        refine g_iushr X0 hx 60 (hb hby d4_59) rfl ?_
        refine g_istoreN X0 hx 61 (hb hby d4_60) #[.val (.int ((y2.toUInt32 >>> ((4 : Int32) &&& 31).toUInt32).toInt32)), .val (.int (3 : Int32))] rfl rfl ?_
        generalize h_y3 : ((y2.toUInt32 >>> ((4 : Int32) &&& 31).toUInt32).toInt32) = y3
        refine g_iloadN X0 hx 62 (hb hby d4_61) rfl rfl ?_
        refine g_iconst X0 hx 63 (hb hby d4_62) (4 : Int32) (by decide) rfl ?_
        by_cases c63 : y3 < (4 : Int32)
        · refine g_icT X0 hx 73 (hb hby d4_63) (Jvm.Free.XT.ii_lt_t c63) (by decide) (by decide) ?_
          refine g_iloadN X0 hx 74 (hb hby d4_73) rfl rfl ?_
          refine g_iloadN X0 hx 75 (hb hby d4_74) rfl rfl ?_
          refine g_iconst X0 hx 76 (hb hby d4_75) (1 : Int32) (by decide) rfl ?_
          refine g_iushr X0 hx 77 (hb hby d4_76) rfl ?_
          refine g_isub X0 hx 78 (hb hby d4_77) rfl ?_
          refine g_iret X0 hx hret hlk (hb hby d4_78) (by decide) (by decide) ?_
          have z65536 : (65536 : Int32).toInt = 65536 := by decide
          have z256 : (256 : Int32).toInt = 256 := by decide
          have z16 : (16 : Int32).toInt = 16 := by decide
          have z4 : (4 : Int32).toInt = 4 := by decide
          have z31 : (31 : Int32).toInt = 31 := by decide
          have z1 : (1 : Int32).toInt = 1 := by decide
          have t16 := c_iushr x 16 16 (by decide) (by decide)
          rw [h_y1] at t16
          have t8 := c_iushr y1 8 8 (by decide) (by decide)
          rw [h_y2] at t8
          have t4 := c_iushr y2 4 4 (by decide) (by decide)
          rw [h_y3] at t4
          have zn : (3 : Int32).toInt = 3 := by decide
          have tl := c_iushr y3 1 1 (by decide) (by decide)
          have tq := c_isub (3 : Int32) (((y3).toUInt32 >>> ((1 : Int32) &&& 31).toUInt32).toInt32)
          have tb := rng32 ((3 : Int32) - (((y3).toUInt32 >>> ((1 : Int32) &&& 31).toUInt32).toInt32))
          have bx := rng32 x
          rw [zn] at tq
          simp only [Int32.lt_iff_toInt_lt, z65536, z256, z16, z4] at c22 c37 c51 c63
          by_cases hy : (y3).toInt = 1
          · exact ⟨_, 28, rfl, N0, e0, by omega, by decide, by show (268435456 : Int) ≤ x.toInt; omega, by show x.toInt < (536870912 : Int); omega⟩
          · exact ⟨_, 29, rfl, N0, e0, by omega, by decide, by show (536870912 : Int) ≤ x.toInt; omega, by show x.toInt < (1073741824 : Int); omega⟩
        · refine g_icF X0 hx 66 (hb hby d4_63) (Jvm.Free.XT.ii_lt_f c63) rfl ?_
          refine g_iincC X0 hx 69 (hb hby d4_66) (-2 : Int32) (1 : Int32) (by decide) (by decide) rfl #[.val (.int y3), .val (.int (1 : Int32))] rfl rfl ?_
          refine g_iloadN X0 hx 70 (hb hby d4_69) rfl rfl ?_
          refine g_iconst X0 hx 71 (hb hby d4_70) (2 : Int32) (by decide) rfl ?_
          refine g_iushr X0 hx 72 (hb hby d4_71) rfl ?_
          refine g_istoreN X0 hx 73 (hb hby d4_72) #[.val (.int ((y3.toUInt32 >>> ((2 : Int32) &&& 31).toUInt32).toInt32)), .val (.int (1 : Int32))] rfl rfl ?_
          generalize h_y4 : ((y3.toUInt32 >>> ((2 : Int32) &&& 31).toUInt32).toInt32) = y4
          refine g_iloadN X0 hx 74 (hb hby d4_73) rfl rfl ?_
          refine g_iloadN X0 hx 75 (hb hby d4_74) rfl rfl ?_
          refine g_iconst X0 hx 76 (hb hby d4_75) (1 : Int32) (by decide) rfl ?_
          refine g_iushr X0 hx 77 (hb hby d4_76) rfl ?_
          refine g_isub X0 hx 78 (hb hby d4_77) rfl ?_
          refine g_iret X0 hx hret hlk (hb hby d4_78) (by decide) (by decide) ?_
          have z65536 : (65536 : Int32).toInt = 65536 := by decide
          have z256 : (256 : Int32).toInt = 256 := by decide
          have z16 : (16 : Int32).toInt = 16 := by decide
          have z4 : (4 : Int32).toInt = 4 := by decide
          have z31 : (31 : Int32).toInt = 31 := by decide
          have z1 : (1 : Int32).toInt = 1 := by decide
          have t16 := c_iushr x 16 16 (by decide) (by decide)
          rw [h_y1] at t16
          have t8 := c_iushr y1 8 8 (by decide) (by decide)
          rw [h_y2] at t8
          have t4 := c_iushr y2 4 4 (by decide) (by decide)
          rw [h_y3] at t4
          have t2 := c_iushr y3 2 2 (by decide) (by decide)
          rw [h_y4] at t2
          have zn : (1 : Int32).toInt = 1 := by decide
          have tl := c_iushr y4 1 1 (by decide) (by decide)
          have tq := c_isub (1 : Int32) (((y4).toUInt32 >>> ((1 : Int32) &&& 31).toUInt32).toInt32)
          have tb := rng32 ((1 : Int32) - (((y4).toUInt32 >>> ((1 : Int32) &&& 31).toUInt32).toInt32))
          have bx := rng32 x
          rw [zn] at tq
          simp only [Int32.lt_iff_toInt_lt, z65536, z256, z16, z4] at c22 c37 c51 c63
          by_cases hy : (y4).toInt = 1
          · exact ⟨_, 30, rfl, N0, e0, by omega, by decide, by show (1073741824 : Int) ≤ x.toInt; omega, by show x.toInt < (2147483648 : Int); omega⟩
          · exfalso; omega
set_option maxRecDepth 65536 in
set_option maxHeartbeats 40000000 in
theorem rm3 (l : Launch) (Z : State) (a0 : Array Value) (hw : ∀ d ∈ tables_1, d.before a0 Z = true) (ws : List Jvm.Cond) (x : Int32) (h0 : Heap) (n0 : Nat) (Z0 : n0 ≤ h0.size) (hx0 : 1 ≤ x.toInt) :
    MetFree l (⟨"java/lang/Integer", "highestOneBit", "(I)I"⟩ : MethodName) (head1 (Jvm.Cond.code (⟨"java/lang/Integer", "highestOneBit", "(I)I"⟩ : MethodName) jdk_33_method_45_code 1 (some .int) :: ws) ({ frames := 1, cells := 0, slots := 0, locals := 15 } : Room)) (fun av_ U_ => av_ = #[(.int x)] ∧ Z.Warmed39 U_.vm ∧ U_.heap = h0) (fun _ _ _ _ _ => True) (fun _ U_ o_ W_ => ∃ v_ L_, o_ = .returned v_ ∧ QH x h0 n0 v_ W_.heap L_ ∧ FrameEnd U_ o_ W_ L_ ({ frames := 1, cells := 0, slots := 0, locals := 15 } : Room).cells ({ frames := 1, cells := 0, slots := 0, locals := 15 } : Room).slots) := by
  refine own_start pn_2 ?_
  intro p e s m below meth c T0 X0 hx hby hml hown hnm hret hlk hZ e0
  have N0 := Fr.nil n0
  have M0 := Z0
  refine Go.cast (show entryFrame m #[(.int x)] 1 = (mkF m 0 #[.val (.int x)] []) from (by first | (simp [entryFrame, mkF, argsToLocals, Value.category, maxLocals]; done) | rfl)) ?_
  refine g_iloadN X0 hx 1 (hb hby d3_0) rfl rfl ?_
  refine g_ldcI X0 hx hZ (-2147483648 : Int32) hown (hw _ (List.mem_of_getElem? (i := 15) rfl)) 3 (hb hby d3_1) rfl ?_
  refine g_iloadN X0 hx 4 (hb hby d3_3) rfl rfl ?_
  refine g_callS X0 hx hZ 7 [(.int x)] [(.int (-2147483648 : Int32)), (.int x)] 2 hown (hw _ (List.mem_of_getElem? (i := 16) rfl)) (hw _ (List.mem_of_getElem? (i := 17) rfl)) (hw _ (List.mem_of_getElem? (i := 13) rfl)) (hw _ (List.mem_of_getElem? (i := 18) rfl)) (by decide) e0 (rm4 l Z a0 hw [] x h0 n0 Z0 hx0) (by decide) (by decide) (by decide) (by decide) (by rw [hml]; rfl) rfl pd_0 rfl (Nat.le_of_eq rfl) (hb hby d3_4) rfl ?_
  intro v1 T1 L1 X1 q1
  obtain ⟨z, j, rfl, Nq1, e1, hz, hT⟩ := q1
  have N1 := Fr.app N0 Nq1
  have M1 := M0
  refine g_iushr X1 hx 8 (hb hby d3_7) rfl ?_
  refine g_iand X1 hx 9 (hb hby d3_8) rfl ?_
  refine g_iret X1 hx hret hlk (hb hby d3_9) (by decide) (by decide) ?_
  exact ⟨_, j, rfl, N1, e1, own_bit hT (own_min hT.1 hz), hT⟩
/-- what slotsFor answers -/
def QS (k : Int32) (h0 : Heap) (n0 : Nat) (v : Option Value) (h : Heap) (L : List Loc) : Prop :=
  ∃ r j, v = some (.int r) ∧ Fr n0 L ∧ h = h0 ∧ j ≤ 30 ∧ r.toInt = ((2 ^ j : Nat) : Int) ∧ 4 ≤ r.toInt ∧ 2 * k.toInt ≤ r.toInt ∧ (r.toInt = 4 ∨ r.toInt < 4 * k.toInt)
theorem own_arg {k : Int32} (hk : 0 ≤ k.toInt ∧ k.toInt ≤ 536870912) : ((2 : Int32) * k - (1 : Int32)).toInt = 2 * k.toInt - 1 := by
  have q := c_imul 2 k
  have b := rng32 ((2 : Int32) * k)
  have z2 : (2 : Int32).toInt = 2 := by decide
  have z1 : (1 : Int32).toInt = 1 := by decide
  rw [z2] at q
  have r := c_isub ((2 : Int32) * k) 1
  have b2 := rng32 ((2 : Int32) * k - 1)
  rw [z1] at r
  omega
theorem own_slots {k a h r : Int32} {j : Nat} (hk : 0 ≤ k.toInt ∧ k.toInt ≤ 536870912) (ha : fMax (1 : Int32) ((2 : Int32) * k - (1 : Int32)) = a) (hh : h.toInt = ((2 ^ j : Nat) : Int)) (hT : Top a j) (hr : fMax (4 : Int32) (h <<< ((1 : Int32) &&& 31)) = r) :
    ∃ j, j ≤ 30 ∧ r.toInt = ((2 ^ j : Nat) : Int) ∧ 4 ≤ r.toInt ∧ 2 * k.toInt ≤ r.toInt ∧ (r.toInt = 4 ∨ r.toInt < 4 * k.toInt) := by
  have q1 := own_max 1 ((2 : Int32) * k - (1 : Int32))
  rw [own_arg hk, ha] at q1
  have z1 : (1 : Int32).toInt = 1 := by decide
  have z4 : (4 : Int32).toInt = 4 := by decide
  rw [z1] at q1
  obtain ⟨t1, t2, t3⟩ := hT
  have ps : (2 ^ (j + 1) : Nat) = 2 ^ j * 2 := Nat.pow_succ _ _
  have s1 := c_ishl h 1 1 (by decide)
  have s2 := rng32 (h <<< ((1 : Int32) &&& 31))
  have q2 := own_max 4 (h <<< ((1 : Int32) &&& 31))
  rw [hr, z4] at q2
  have j29 : j ≤ 29 := by
    apply Classical.byContradiction
    intro nj
    have e : j = 30 := by omega
    subst e
    have e2 : (2 ^ 30 : Nat) = 1073741824 := by decide
    rw [e2] at t2
    split at q1 <;> omega
  have pb : (2 ^ j : Nat) ≤ 2 ^ 29 := Nat.pow_le_pow_right (by decide) j29
  have pv : (2 ^ 29 : Nat) = 536870912 := by decide
  have e21 : ((2 ^ 1 : Nat) : Int) = 2 := by decide
  rw [e21, hh] at s1
  have sh : (h <<< ((1 : Int32) &&& 31)).toInt = 2 * ((2 ^ j : Nat) : Int) := by omega
  rw [sh] at q2
  rw [ps] at t3
  split at q2
  · refine ⟨j + 1, by omega, by rw [q2, ps]; omega, by omega, ?_, ?_⟩
    · split at q1 <;> omega
    · split at q1 <;> omega
  · refine ⟨2, by omega, by rw [q2]; decide, by omega, ?_, Or.inl q2⟩
    split at q1 <;> omega
set_option maxRecDepth 65536 in
set_option maxHeartbeats 40000000 in
theorem rm1 (l : Launch) (Z : State) (a0 : Array Value) (hw : ∀ d ∈ tables_1, d.before a0 Z = true) (ws : List Jvm.Cond) (k : Int32) (h0 : Heap) (n0 : Nat) (Z0 : n0 ≤ h0.size) (hk : 0 ≤ k.toInt ∧ k.toInt ≤ 536870912) :
    MetFree l (⟨"com/example/lean_throttle/leanthrottle/keyed/KeyTable", "slotsFor", "(I)I"⟩ : MethodName) (head1 (Jvm.Cond.code (⟨"com/example/lean_throttle/leanthrottle/keyed/KeyTable", "slotsFor", "(I)I"⟩ : MethodName) prog_18_method_4_code 2 (some .int) :: ws) ({ frames := 2, cells := 0, slots := 0, locals := 60 } : Room)) (fun av_ U_ => av_ = #[(.int k)] ∧ Z.Warmed39 U_.vm ∧ U_.heap = h0) (fun _ _ _ _ _ => True) (fun _ U_ o_ W_ => ∃ v_ L_, o_ = .returned v_ ∧ QS k h0 n0 v_ W_.heap L_ ∧ FrameEnd U_ o_ W_ L_ ({ frames := 2, cells := 0, slots := 0, locals := 60 } : Room).cells ({ frames := 2, cells := 0, slots := 0, locals := 60 } : Room).slots) := by
  refine own_start pn_3 ?_
  intro p e s m below meth c T0 X0 hx hby hml hown hnm hret hlk hZ e0
  have N0 := Fr.nil n0
  have M0 := Z0
  refine Go.cast (show entryFrame m #[(.int k)] 2 = (mkF m 0 #[.val (.int k), .unset] []) from (by first | (simp [entryFrame, mkF, argsToLocals, Value.category, maxLocals]; done) | rfl)) ?_
  refine g_iloadN X0 hx 1 (hb hby d1_0) rfl rfl ?_
  refine g_ldcI X0 hx hZ (536870912 : Int32) hown (hw _ (List.mem_of_getElem? (i := 6) rfl)) 3 (hb hby d1_1) rfl ?_
  refine g_icT X0 hx 20 (hb hby d1_3) (Jvm.Free.XT.ii_le_t (show ¬ ((536870912 : Int32) < k) from (by rw [Int32.lt_iff_toInt_lt]; show ¬ (536870912 : Int) < _; omega))) (by decide) (by decide) ?_
  refine g_iconst X0 hx 21 (hb hby d1_20) (1 : Int32) (by decide) rfl ?_
  refine g_iconst X0 hx 22 (hb hby d1_21) (2 : Int32) (by decide) rfl ?_
  refine g_iloadN X0 hx 23 (hb hby d1_22) rfl rfl ?_
  refine g_imul X0 hx 24 (hb hby d1_23) rfl ?_
  refine g_iconst X0 hx 25 (hb hby d1_24) (1 : Int32) (by decide) rfl ?_
  refine g_isub X0 hx 26 (hb hby d1_25) rfl ?_
  refine g_callS X0 hx hZ 29 [(.int (1 : Int32)), (.int (((2 : Int32) * k) - (1 : Int32)))] [] 0 hown (hw _ (List.mem_of_getElem? (i := 7) rfl)) (hw _ (List.mem_of_getElem? (i := 8) rfl)) (hw _ (List.mem_of_getElem? (i := 9) rfl)) (hw _ (List.mem_of_getElem? (i := 10) rfl)) (by decide) e0 (rm2 l Z a0 hw [] (1 : Int32) (((2 : Int32) * k) - (1 : Int32)) h0 n0 Z0) (by decide) (by decide) (by decide) (by decide) (by rw [hml]; rfl) rfl pd_1 rfl (Nat.le_of_eq rfl) (hb hby d1_26) rfl ?_
  intro v1 T1 L1 X1 q1
  obtain ⟨rfl, Nq1, e1⟩ := q1
  have N1 := Fr.app N0 Nq1
  have M1 := M0
  generalize h_m1 : (fMax (1 : Int32) (((2 : Int32) * k) - (1 : Int32))) = m1
  refine g_callS X1 hx hZ 32 [(.int m1)] [] 0 hown (hw _ (List.mem_of_getElem? (i := 11) rfl)) (hw _ (List.mem_of_getElem? (i := 12) rfl)) (hw _ (List.mem_of_getElem? (i := 13) rfl)) (hw _ (List.mem_of_getElem? (i := 14) rfl)) (by decide) e1 (rm3 l Z a0 hw [] m1 h0 n0 Z0 (by have q := own_max 1 ((2 : Int32) * k - (1 : Int32)); rw [h_m1] at q; have z : (1 : Int32).toInt = 1 := (by decide); rw [z] at q; split at q <;> omega)) (by decide) (by decide) (by decide) (by decide) (by rw [hml]; rfl) rfl pd_0 rfl (Nat.le_of_eq rfl) (hb hby d1_29) rfl ?_
  intro v2 T2 L2 X2 q2
  obtain ⟨hb_, j, rfl, Nq2, e2, hh, hT⟩ := q2
  have N2 := Fr.app N1 Nq2
  have M2 := M1
  refine g_iconst X2 hx 33 (hb hby d1_32) (1 : Int32) (by decide) rfl ?_
  refine g_ishl X2 hx 34 (hb hby d1_33) rfl ?_
  refine g_istoreN X2 hx 35 (hb hby d1_34) #[.val (.int k), .val (.int (hb_ <<< ((1 : Int32) &&& 31)))] rfl rfl ?_
  refine g_iconst X2 hx 36 (hb hby d1_35) (4 : Int32) (by decide) rfl ?_
  refine g_iloadN X2 hx 37 (hb hby d1_36) rfl rfl ?_
  refine g_callS X2 hx hZ 40 [(.int (4 : Int32)), (.int (hb_ <<< ((1 : Int32) &&& 31)))] [] 0 hown (hw _ (List.mem_of_getElem? (i := 7) rfl)) (hw _ (List.mem_of_getElem? (i := 8) rfl)) (hw _ (List.mem_of_getElem? (i := 9) rfl)) (hw _ (List.mem_of_getElem? (i := 10) rfl)) (by decide) e2 (rm2 l Z a0 hw [] (4 : Int32) (hb_ <<< ((1 : Int32) &&& 31)) h0 n0 Z0) (by decide) (by decide) (by decide) (by decide) (by rw [hml]; rfl) rfl pd_1 rfl (Nat.le_of_eq rfl) (hb hby d1_37) rfl ?_
  intro v3 T3 L3 X3 q3
  obtain ⟨rfl, Nq3, e3⟩ := q3
  have N3 := Fr.app N2 Nq3
  have M3 := M2
  generalize h_r : (fMax (4 : Int32) (hb_ <<< ((1 : Int32) &&& 31))) = r
  refine g_iret X3 hx hret hlk (hb hby d1_40) (by decide) (by decide) ?_
  obtain ⟨jj, s1, s2, s3, s4, s5⟩ := own_slots hk h_m1 hh hT h_r
  exact ⟨r, jj, rfl, N3, e3, s1, s2, s3, s4, s5⟩
theorem own_pow {r : Int32} {j : Nat} (hj : j ≤ 30) (hr : r.toInt = ((2 ^ j : Nat) : Int)) : r.toInt64 &&& (r.toInt64 - (1 : Int64)) = 0 := by
  have all : ∀ j : Fin 31, (Int64.ofNat (2 ^ j.1)) &&& (Int64.ofNat (2 ^ j.1) - (1 : Int64)) = 0 := by decide +kernel
  have b := rng32 r
  have e : r.toInt64 = Int64.ofNat (2 ^ j) := Int64.toInt_inj.mp (by rw [c_i2l, hr, Int64.toInt_ofNat_of_lt (by omega)])
  rw [e]
  exact all ⟨j, by omega⟩
theorem own_tw {k : Int32} (hk : 0 ≤ k.toInt ∧ k.toInt ≤ 536870912) : ((2 : Int64) * k.toInt64).toInt = 2 * k.toInt := by
  have q := c_lmul 2 k.toInt64
  have z : (2 : Int64).toInt = 2 := by decide
  rw [z, c_i2l] at q
  have b := rng64 ((2 : Int64) * k.toInt64)
  omega
theorem own_half {r : Int32} (hr : 0 ≤ r.toInt) : (r.toInt64 / (2 : Int64)).toInt = r.toInt / 2 := by
  have q := (c_ldiv r.toInt64 2 2 (by decide) (by decide)).1 (by rw [c_i2l]; exact hr)
  rw [q, c_i2l]
theorem own_ltL {x y : Int64} {a b : Int} (ha : x.toInt = a) (hb : y.toInt = b) : x < y ↔ a < b := by rw [Int64.lt_iff_toInt_lt, ha, hb]
def Q0 (n0 : Nat) (v : Option Value) (h : Heap) (L : List Loc) : Prop := v = some (.int 1) ∧ Fr n0 L
set_option maxRecDepth 65536 in
set_option maxHeartbeats 40000000 in
theorem rm0 (l : Launch) (Z : State) (a0 : Array Value) (hw : ∀ d ∈ tables_1, d.before a0 Z = true) (ws : List Jvm.Cond) (x0 : Int32) (h0 : Heap) (n0 : Nat) (Z0 : n0 ≤ h0.size)  :
    MetFree l x (head1 (Jvm.Cond.code x code maxLocals ret :: ws) room_1) (fun av_ U_ => av_ = #[(.int x0)] ∧ Z.Warmed39 U_.vm ∧ U_.heap = h0) (fun _ _ _ _ _ => True) (fun _ U_ o_ W_ => ∃ v_ L_, o_ = .returned v_ ∧ Q0 n0 v_ W_.heap L_ ∧ FrameEnd U_ o_ W_ L_ room_1.cells room_1.slots) := by
  refine own_start pn_4 ?_
  intro p e s m below meth c T0 X0 hx hby hml hown hnm hret hlk hZ e0
  have N0 := Fr.nil n0
  have M0 := Z0
  refine Go.cast (show entryFrame m #[(.int x0)] maxLocals = (mkF m 0 #[.val (.int x0), .unset, .unset, .unset, .unset, .unset, .unset, .unset, .unset] []) from (by first | (simp [entryFrame, mkF, argsToLocals, Value.category, maxLocals]; done) | rfl)) ?_
  refine g_iloadN X0 hx 1 (hb hby at_0) rfl rfl ?_
  refine g_ldcI X0 hx hZ (2147483647 : Int32) hown (hw _ (List.mem_of_getElem? (i := 0) rfl)) 3 (hb hby at_1) rfl ?_
  refine g_iand X0 hx 4 (hb hby at_3) rfl ?_
  refine g_ldcI X0 hx hZ (536870913 : Int32) hown (hw _ (List.mem_of_getElem? (i := 1) rfl)) 6 (hb hby at_4) rfl ?_
  refine g_irem X0 hx 7 (hb hby at_6) (by decide) rfl ?_
  refine g_istoreN X0 hx 8 (hb hby at_7) #[.val (.int x0), .val (.int ((x0 &&& (2147483647 : Int32)) % (536870913 : Int32))), .unset, .unset, .unset, .unset, .unset, .unset, .unset] rfl rfl ?_
  generalize h_k : ((x0 &&& (2147483647 : Int32)) % (536870913 : Int32)) = k
  have rm := c_mask x0 2147483647 31 (by decide) (by decide)
  have rk := (c_irem (x0 &&& 2147483647) 536870913 536870913 (by decide)).1 (by omega)
  rw [h_k] at rk
  have hk : 0 ≤ k.toInt ∧ k.toInt ≤ 536870912 := by omega
  refine g_iloadN X0 hx 9 (hb hby at_8) rfl rfl ?_
  refine g_callS X0 hx hZ 12 [(.int k)] [] 0 hown (hw _ (List.mem_of_getElem? (i := 2) rfl)) (hw _ (List.mem_of_getElem? (i := 3) rfl)) (hw _ (List.mem_of_getElem? (i := 4) rfl)) (hw _ (List.mem_of_getElem? (i := 5) rfl)) (by decide) e0 (rm1 l Z a0 hw [] k h0 n0 Z0 hk) (by decide) (by decide) (by decide) (by decide) (by rw [hml]; rfl) rfl pd_0 rfl (Nat.le_of_eq rfl) (hb hby at_9) rfl ?_
  intro v1 T1 L1 X1 q1
  obtain ⟨r, j, rfl, Nq1, e1, s1, s2, s3, s4, s5⟩ := q1
  have N1 := Fr.app N0 Nq1
  have M1 := M0
  have zr := c_i2l r
  have ztw := own_tw hk
  have zha := own_half (r := r) (by omega)
  have z0 : (0 : Int64).toInt = 0 := by decide
  have z4 : (4 : Int64).toInt = 4 := by decide
  refine g_i2l X1 hx 13 (hb hby at_12) rfl ?_
  refine g_lstoreN X1 hx 14 (hb hby at_13) #[.val (.int x0), .val (.int k), .val (.long (r.toInt64)), .second, .unset, .unset, .unset, .unset, .unset] rfl rfl ?_
  refine g_ldc2J X1 hx hZ (2 : Int64) hown (hw _ (List.mem_of_getElem? (i := 20) rfl)) 17 (hb hby at_14) rfl ?_
  refine g_iloadN X1 hx 18 (hb hby at_17) rfl rfl ?_
  refine g_i2l X1 hx 19 (hb hby at_18) rfl ?_
  refine g_lmul X1 hx 20 (hb hby at_19) rfl ?_
  refine g_lstore X1 hx 22 (hb hby at_20) #[.val (.int x0), .val (.int k), .val (.long (r.toInt64)), .second, .val (.long ((2 : Int64) * (k.toInt64))), .second, .unset, .unset, .unset] rfl rfl ?_
  refine g_lloadN X1 hx 23 (hb hby at_22) rfl rfl ?_
  refine g_lconst X1 hx 24 (hb hby at_23) (0 : Int64) (by decide) rfl ?_
  refine g_lcmp X1 hx 25 (hb hby at_24) rfl ?_
  refine g_ifF X1 hx 28 (hb hby at_25) (Jvm.Free.XT.ll_le_f (show (0 : Int64) < (r.toInt64) from ((own_ltL z0 zr).mpr (by omega)))) rfl ?_
  refine g_lloadN X1 hx 29 (hb hby at_28) rfl rfl ?_
  refine g_lloadN X1 hx 30 (hb hby at_29) rfl rfl ?_
  refine g_lconst X1 hx 31 (hb hby at_30) (1 : Int64) (by decide) rfl ?_
  refine g_lsub X1 hx 32 (hb hby at_31) rfl ?_
  refine g_land X1 hx 33 (hb hby at_32) rfl ?_
  refine g_lconst X1 hx 34 (hb hby at_33) (0 : Int64) (by decide) rfl ?_
  refine g_lcmp X1 hx 35 (hb hby at_34) rfl ?_
  refine g_ifF X1 hx 38 (hb hby at_35) (Jvm.Free.XT.ll_ne_f (show ((r.toInt64) &&& ((r.toInt64) - (1 : Int64))) = (0 : Int64) from (own_pow s1 s2))) rfl ?_
  refine g_iconst X1 hx 39 (hb hby at_38) (1 : Int32) (by decide) rfl ?_
  refine g_goto X1 hx 43 (hb hby at_39) (by decide) (by decide) ?_
  refine g_istore X1 hx 45 (hb hby at_43) #[.val (.int x0), .val (.int k), .val (.long (r.toInt64)), .second, .val (.long ((2 : Int64) * (k.toInt64))), .second, .val (.int (1 : Int32)), .unset, .unset] rfl rfl ?_
  refine g_lloadN X1 hx 46 (hb hby at_45) rfl rfl ?_
  refine g_ldc2J X1 hx hZ (4 : Int64) hown (hw _ (List.mem_of_getElem? (i := 21) rfl)) 49 (hb hby at_46) rfl ?_
  refine g_lcmp X1 hx 50 (hb hby at_49) rfl ?_
  refine g_ifF X1 hx 53 (hb hby at_50) (Jvm.Free.XT.ll_lt_f (show ¬ ((r.toInt64) < (4 : Int64)) from (fun q => by have := (own_ltL zr z4).mp q; omega))) rfl ?_
  refine g_lloadN X1 hx 54 (hb hby at_53) rfl rfl ?_
  refine g_lload X1 hx 56 (hb hby at_54) rfl rfl ?_
  refine g_lcmp X1 hx 57 (hb hby at_56) rfl ?_
  refine g_ifF X1 hx 60 (hb hby at_57) (Jvm.Free.XT.ll_lt_f (show ¬ ((r.toInt64) < ((2 : Int64) * (k.toInt64))) from (fun q => by have := (own_ltL zr ztw).mp q; omega))) rfl ?_
  refine g_iconst X1 hx 61 (hb hby at_60) (1 : Int32) (by decide) rfl ?_
  refine g_goto X1 hx 65 (hb hby at_61) (by decide) (by decide) ?_
  refine g_istore X1 hx 67 (hb hby at_65) #[.val (.int x0), .val (.int k), .val (.long (r.toInt64)), .second, .val (.long ((2 : Int64) * (k.toInt64))), .second, .val (.int (1 : Int32)), .val (.int (1 : Int32)), .unset] rfl rfl ?_
  refine g_lloadN X1 hx 68 (hb hby at_67) rfl rfl ?_
  refine g_ldc2J X1 hx hZ (4 : Int64) hown (hw _ (List.mem_of_getElem? (i := 21) rfl)) 71 (hb hby at_68) rfl ?_
  refine g_lcmp X1 hx 72 (hb hby at_71) rfl ?_
  by_cases c72 : (r.toInt64) = (4 : Int64)
  · refine g_ifT X1 hx 86 (hb hby at_72) (Jvm.Free.XT.ll_eq_t c72) (by decide) (by decide) ?_
    refine g_iconst X1 hx 87 (hb hby at_86) (1 : Int32) (by decide) rfl ?_
    refine g_goto X1 hx 91 (hb hby at_87) (by decide) (by decide) ?_
    refine g_istore X1 hx 93 (hb hby at_91) #[.val (.int x0), .val (.int k), .val (.long (r.toInt64)), .second, .val (.long ((2 : Int64) * (k.toInt64))), .second, .val (.int (1 : Int32)), .val (.int (1 : Int32)), .val (.int (1 : Int32))] rfl rfl ?_
    refine g_iload X1 hx 95 (hb hby at_93) rfl rfl ?_
    refine g_ifF X1 hx 98 (hb hby at_95) (by decide) rfl ?_
    refine g_iload X1 hx 100 (hb hby at_98) rfl rfl ?_
    refine g_ifF X1 hx 103 (hb hby at_100) (by decide) rfl ?_
    refine g_iload X1 hx 105 (hb hby at_103) rfl rfl ?_
    refine g_ifF X1 hx 108 (hb hby at_105) (by decide) rfl ?_
    refine g_iconst X1 hx 109 (hb hby at_108) (1 : Int32) (by decide) rfl ?_
    refine g_goto X1 hx 113 (hb hby at_109) (by decide) (by decide) ?_
    refine g_nret X1 hx (by simp) hret hlk (hb hby at_113) (by decide) (by decide) ?_
    exact ⟨rfl, N1⟩
  · refine g_ifF X1 hx 75 (hb hby at_72) (Jvm.Free.XT.ll_eq_f c72) rfl ?_
    refine g_lloadN X1 hx 76 (hb hby at_75) rfl rfl ?_
    refine g_ldc2J X1 hx hZ (2 : Int64) hown (hw _ (List.mem_of_getElem? (i := 20) rfl)) 79 (hb hby at_76) rfl ?_
    refine g_ldiv X1 hx 80 (hb hby at_79) (by decide) rfl ?_
    refine g_lload X1 hx 82 (hb hby at_80) rfl rfl ?_
    refine g_lcmp X1 hx 83 (hb hby at_82) rfl ?_
    refine g_ifF X1 hx 86 (hb hby at_83) (Jvm.Free.XT.ll_ge_f (show ((r.toInt64) / (2 : Int64)) < ((2 : Int64) * (k.toInt64)) from ((own_ltL zha ztw).mpr (by have := s5.resolve_left (fun q => c72 (Int64.toInt_inj.mp (by rw [zr, q, z4]))); omega)))) rfl ?_
    refine g_iconst X1 hx 87 (hb hby at_86) (1 : Int32) (by decide) rfl ?_
    refine g_goto X1 hx 91 (hb hby at_87) (by decide) (by decide) ?_
    refine g_istore X1 hx 93 (hb hby at_91) #[.val (.int x0), .val (.int k), .val (.long (r.toInt64)), .second, .val (.long ((2 : Int64) * (k.toInt64))), .second, .val (.int (1 : Int32)), .val (.int (1 : Int32)), .val (.int (1 : Int32))] rfl rfl ?_
    refine g_iload X1 hx 95 (hb hby at_93) rfl rfl ?_
    refine g_ifF X1 hx 98 (hb hby at_95) (by decide) rfl ?_
    refine g_iload X1 hx 100 (hb hby at_98) rfl rfl ?_
    refine g_ifF X1 hx 103 (hb hby at_100) (by decide) rfl ?_
    refine g_iload X1 hx 105 (hb hby at_103) rfl rfl ?_
    refine g_ifF X1 hx 108 (hb hby at_105) (by decide) rfl ?_
    refine g_iconst X1 hx 109 (hb hby at_108) (1 : Int32) (by decide) rfl ?_
    refine g_goto X1 hx 113 (hb hby at_109) (by decide) (by decide) ?_
    refine g_nret X1 hx (by simp) hret hlk (hb hby at_113) (by decide) (by decide) ?_
    exact ⟨rfl, N1⟩
set_option maxRecDepth 65536 in
set_option maxHeartbeats 40000000 in
theorem comes_1 {Post : Tables → Env → Array Value → State → Outcome → State → Prop} (hpost : ∀ tb e args s v u, (limb_1_1.after args s (.returned v) u = true ∧ limb_1_2.after args s (.returned v) u = true ∧ True) → FrameEnd s (.returned v) u (Jvm.fieldLocs frame_1_writes args s ++ Jvm.arrayLocs frame_1_arrays args s ++ Jvm.staticLocs frame_1_statics s) 0 0 → Post tb e args s (.returned v) u) :
    ArmFor flags0 classFile x code maxLocals ret World_1 tables_1 room_1 Calls_1 rest_1 Pre_1 Post := by
  intro l hfl _ _ p e ha hc hk s m args below hf hA hF happ hP
  obtain ⟨hcalls, hrest, hpre⟩ := hP
  obtain ⟨-, -, -, hnamed, -, -, -, hat⟩ := (Spec.applies_iff hf).mp happ
  obtain ⟨hg, hn⟩ := and_e (Cond.before_iff.mp (show (Jvm.Cond.and given_1 narrow_1).before args s = true from hpre))
  obtain ⟨hcount, hg0⟩ := and_e hg
  obtain ⟨w0, rfl⟩ : ∃ w0 : Value, args = #[w0] := by
    have hs : args.size = 1 := by simpa [Cond.value, given_1] using hcount
    obtain ⟨L⟩ := args
    match L, hs with
    | [w0], _ => exact ⟨w0, rfl⟩
  have hw := fun d (hd : d ∈ tables_1) => atoms_spec (ws := Jvm.Cond.code x code maxLocals ret :: tables_1) hat d (List.mem_cons_of_mem _ hd)
  obtain ⟨i0, ei0⟩ := is_v hg0
  obtain rfl : w0 = (.int i0) := Option.some.inj ei0
  obtain ⟨n, o, h1, h2, h3, _, L, rfl, ⟨rfl, N⟩, hq⟩ := rm0 l s _ hw tables_1 i0 s.heap s.heap.size (Nat.le_refl _)  p e ha hc hk s m _ below hf ((Spec.applies_iff_loose hf).mp happ).1 ⟨rfl, State.Warmed39.refl s, rfl⟩ trivial
  refine ⟨n, _, h1, h2, h3, hpost _ _ _ _ _ _ ⟨Cond.after_iff.mpr rfl, Cond.after_iff.mpr (eq_i res_at (Term.int_eval (1)) rfl), trivial⟩ ⟨hq.1, hq.2.1, (hq.2.2.sift fun y hy => Or.inr (N y hy)).mono (by decide) (by decide)⟩⟩
theorem main_1_1 : Claimed_1_1 := comes_1 fun _ _ _ _ _ _ h hF => ⟨h.1, hF⟩
theorem main_1_2 : Claimed_1_2 := comes_1 fun _ _ _ _ _ _ h hF => ⟨h.2.1, hF⟩
end Jvm.Pilot.@@N@@
namespace Jvm.Pilot.@@N@@
open Jvm Jvm.ClassFile Sem Op Lib Jvm.Free Jvm.Stand Jvm.Pilot.@@N@@.Jvm.D
/-! MADE BY PROGRAM (witnessworld.py) out of the Statement's table words and the real class files: 15 classes; the members and pool entries that the words name. The judged class is class 1, her method 1. -/
namespace start1
open Jvm.ClassFile
def u (s : String) : CpInfo := .utf8 (stringToUtf16 s)
/-- a pool by its gaps: so many unusable entries, then the entry; so many at the end -/
def gap : Nat → List CpInfo → List CpInfo
  | 0, r => r
  | n + 1, r => .unusable :: gap n r
def poolList (es : List (Nat × CpInfo)) (last : Nat) : List CpInfo := es.foldr (fun e r => gap e.1 (e.2 :: r)) (gap last [])
def pool (es : List (Nat × CpInfo)) (last : Nat) : Array CpInfo := ⟨poolList es last⟩
def fileOf (pool : Array CpInfo) (this : Nat) (attrs : Array Attribute := #[]) (ms : Array MethodInfo := #[]) (fl : Nat := 33) (sup : Nat := 0) (ifs : Array Nat := #[]) (fds : Array FieldInfo := #[]) : ClassFile where
  minorVersion := 0
  majorVersion := 65
  constantPool := pool
  accessFlags := fl
  thisClass := this
  superClass := sup
  interfaces := ifs
  fields := fds
  methods := ms
  attributes := attrs
def plain (name : String) (sup : Option ClassId) : Class where
  name := name
  kind := .ordinary
  loader := none
  accessFlags := 33
  super := sup
  interfaces := #[]
  cf := none
  fields := #[]
  methods := #[]
  instanceTypes := #[]
  staticTypes := #[]
  resolved := #[]
  callSites := []
  init := .initialized
  statics := none
  mirror := none

def pool0 : Array CpInfo := pool [(5, u "<init>"), (0, u "()V"), (1, .class_ 10), (1, u "java/lang/Object")] 113

def k0m0 : Method := { name := "<init>", desc := "()V", sig := { parameters := [], returnType := none }, accessFlags := 1, code := none }
/-- java/lang/Object -/
def k0 : Class := { plain "java/lang/Object" none with
  accessFlags := 33
  interfaces := #[]
  cf := some (fileOf pool0 8 #[] #[{ accessFlags := 1, nameIndex := 5, descriptorIndex := 6, attributes := #[] }] 33 0 #[] #[])
  fields := #[]
  methods := #[k0m0]
  instanceTypes := #[]
  staticTypes := #[]
  resolved := Array.replicate 124 none
  statics := none }

def pool1 : Array CpInfo := pool [(2, .class_ 4), (1, u "java/lang/Object"), (0, u "<init>"), (0, u "()V"), (0, .integer 2147483647), (0, .integer 536870913), (0, .methodref 10 11), (0, .class_ 12), (0, .nameAndType 13 14), (0, u "com/example/lean_throttle/leanthrottle/keyed/KeyTable"), (0, u "slotsFor"), (0, u "(I)I"), (0, .long 2), (1, .long 4), (1, .class_ 20), (0, u "com/example/lean_throttle/leanthrottle/keyed/KeyTableSlotsForPinLaw"), (2, u "law"), (0, u "(I)Z")] 3

def k1m0 : Method := { name := "<init>", desc := "()V", sig := { parameters := [], returnType := none }, accessFlags := 1, code := none }
def k1c1 : Code := { maxStack := 6, maxLocals := 9, code := code, exceptionTable := #[], attributes := #[] }
def k1m1 : Method := { name := "law", desc := "(I)Z", sig := { parameters := [.int], returnType := some .boolean }, accessFlags := 9, code := some k1c1 }
/-- com/example/lean_throttle/leanthrottle/keyed/KeyTableSlotsForPinLaw -/
def k1 : Class := { plain "com/example/lean_throttle/leanthrottle/keyed/KeyTableSlotsForPinLaw" (some 0) with
  accessFlags := 49
  interfaces := #[]
  cf := some (fileOf pool1 19 #[] #[{ accessFlags := 1, nameIndex := 5, descriptorIndex := 6, attributes := #[] }, { accessFlags := 9, nameIndex := 23, descriptorIndex := 24, attributes := #[] }] 49 2 #[] #[])
  fields := #[]
  methods := #[k1m0, k1m1]
  instanceTypes := #[]
  staticTypes := #[]
  resolved := Array.replicate 28 none
  statics := none }

def pool2 : Array CpInfo := pool [(2, .class_ 4), (1, u "java/lang/Object"), (6, .class_ 13), (1, u "com/example/lean_throttle/leanthrottle/keyed/KeyTable"), (0, u "overflow"), (0, u "Ljava/util/concurrent/ConcurrentHashMap;"), (2, u "terms"), (0, u "Lcom/example/lean_throttle/leanthrottle/BucketTerms;"), (2, u "keys"), (0, u "[Ljava/lang/Object;"), (23, u "(I)I"), (0, .integer 536870912), (9, .methodref 59 60), (0, .class_ 61), (0, .nameAndType 62 63), (0, u "java/lang/Math"), (0, u "max"), (0, u "(II)I"), (0, .methodref 65 66), (0, .class_ 67), (0, .nameAndType 68 47), (0, u "java/lang/Integer"), (0, u "highestOneBit"), (4, u "used"), (0, u "I"), (12, u "KEY"), (0, u "Ljava/lang/invoke/VarHandle;"), (33, u "REMOVED"), (0, u "Ljava/lang/Object;"), (60, u "scattered"), (12, u "MIN_SLOTS"), (2, u "MAX_SLOTS"), (1, u "PROBES"), (8, u "slotsFor"), (20, .class_ 233), (0, u "com/example/lean_throttle/leanthrottle/keyed/KeyTable$Outcome")] 31

def k2c0 : Code := { maxStack := 3, maxLocals := 2, code := prog_18_method_4_code, exceptionTable := #[], attributes := #[] }
def k2m0 : Method := { name := "slotsFor", desc := "(I)I", sig := { parameters := [.int], returnType := some .int }, accessFlags := 8, code := some k2c0 }
/-- com/example/lean_throttle/leanthrottle/keyed/KeyTable -/
def k2 : Class := { plain "com/example/lean_throttle/leanthrottle/keyed/KeyTable" (some 0) with
  accessFlags := 1056
  interfaces := #[]
  cf := some (fileOf pool2 11 #[.nestMembers #[232]] #[{ accessFlags := 8, nameIndex := 211, descriptorIndex := 47, attributes := #[] }] 1056 2 #[] #[{ accessFlags := 24, nameIndex := 122, descriptorIndex := 123, attributes := #[] }, { accessFlags := 26, nameIndex := 197, descriptorIndex := 74, attributes := #[] }, { accessFlags := 26, nameIndex := 200, descriptorIndex := 74, attributes := #[] }, { accessFlags := 26, nameIndex := 202, descriptorIndex := 74, attributes := #[] }, { accessFlags := 26, nameIndex := 87, descriptorIndex := 88, attributes := #[] }, { accessFlags := 16, nameIndex := 18, descriptorIndex := 19, attributes := #[] }, { accessFlags := 18, nameIndex := 22, descriptorIndex := 23, attributes := #[] }, { accessFlags := 2, nameIndex := 14, descriptorIndex := 15, attributes := #[] }, { accessFlags := 2, nameIndex := 73, descriptorIndex := 74, attributes := #[] }, { accessFlags := 2, nameIndex := 184, descriptorIndex := 74, attributes := #[] }])
  fields := #[{ name := "REMOVED", type := (.object "java/lang/Object"), accessFlags := 24, slot := 0, constantValue := 0 }, { name := "MIN_SLOTS", type := .int, accessFlags := 26, slot := 1, constantValue := 0 }, { name := "MAX_SLOTS", type := .int, accessFlags := 26, slot := 2, constantValue := 0 }, { name := "PROBES", type := .int, accessFlags := 26, slot := 3, constantValue := 0 }, { name := "KEY", type := (.object "java/lang/invoke/VarHandle"), accessFlags := 26, slot := 4, constantValue := 0 }, { name := "terms", type := (.object "com/example/lean_throttle/leanthrottle/BucketTerms"), accessFlags := 16, slot := 0, constantValue := 0 }, { name := "keys", type := (.array (.object "java/lang/Object")), accessFlags := 18, slot := 1, constantValue := 0 }, { name := "overflow", type := (.object "java/util/concurrent/ConcurrentHashMap"), accessFlags := 2, slot := 2, constantValue := 0 }, { name := "used", type := .int, accessFlags := 2, slot := 3, constantValue := 0 }, { name := "scattered", type := .int, accessFlags := 2, slot := 4, constantValue := 0 }]
  methods := #[k2m0]
  instanceTypes := #[(.object "com/example/lean_throttle/leanthrottle/BucketTerms"), (.array (.object "java/lang/Object")), (.object "java/util/concurrent/ConcurrentHashMap"), .int, .int]
  staticTypes := #[(.object "java/lang/Object"), .int, .int, .int, (.object "java/lang/invoke/VarHandle")]
  resolved := Array.replicate 265 none
  statics := none }

def pool3 : Array CpInfo := pool [(1, .class_ 2), (0, u "java/lang/Math"), (1, .class_ 6), (1, u "java/lang/Object"), (0, u "<init>"), (0, u "()V"), (89, .class_ 100), (1, u "java/lang/Math$RandomNumberGeneratorHolder"), (71, u "negativeZeroFloatBits"), (0, u "J"), (2, u "negativeZeroDoubleBits"), (21, u "max"), (46, u "$assertionsDisabled"), (0, u "Z"), (88, u "(II)I"), (2, u "twoToTheDoubleScaleDown"), (0, u "D"), (4, u "twoToTheDoubleScaleUp"), (9, u "E"), (3, u "PI"), (2, u "TAU"), (2, u "DEGREES_TO_RADIANS"), (0, u "RADIANS_TO_DEGREES")] 94

def k3m0 : Method := { name := "<init>", desc := "()V", sig := { parameters := [], returnType := none }, accessFlags := 2, code := none }
def k3c1 : Code := { maxStack := 2, maxLocals := 2, code := jdk_29_method_65_code, exceptionTable := #[], attributes := #[] }
def k3m1 : Method := { name := "max", desc := "(II)I", sig := { parameters := [.int, .int], returnType := some .int }, accessFlags := 9, code := some k3c1 }
/-- java/lang/Math -/
def k3 : Class := { plain "java/lang/Math" (some 0) with
  accessFlags := 49
  interfaces := #[]
  cf := some (fileOf pool3 1 #[.nestMembers #[98]] #[{ accessFlags := 2, nameIndex := 7, descriptorIndex := 8, attributes := #[] }, { accessFlags := 9, nameIndex := 198, descriptorIndex := 335, attributes := #[] }] 49 4 #[] #[{ accessFlags := 25, nameIndex := 354, descriptorIndex := 339, attributes := #[] }, { accessFlags := 25, nameIndex := 358, descriptorIndex := 339, attributes := #[] }, { accessFlags := 25, nameIndex := 361, descriptorIndex := 339, attributes := #[] }, { accessFlags := 26, nameIndex := 364, descriptorIndex := 339, attributes := #[] }, { accessFlags := 26, nameIndex := 365, descriptorIndex := 339, attributes := #[] }, { accessFlags := 26, nameIndex := 172, descriptorIndex := 173, attributes := #[] }, { accessFlags := 26, nameIndex := 176, descriptorIndex := 173, attributes := #[] }, { accessFlags := 8, nameIndex := 344, descriptorIndex := 339, attributes := #[] }, { accessFlags := 8, nameIndex := 338, descriptorIndex := 339, attributes := #[] }, { accessFlags := 4120, nameIndex := 245, descriptorIndex := 246, attributes := #[] }])
  fields := #[{ name := "E", type := .double, accessFlags := 25, slot := 0, constantValue := 0 }, { name := "PI", type := .double, accessFlags := 25, slot := 1, constantValue := 0 }, { name := "TAU", type := .double, accessFlags := 25, slot := 2, constantValue := 0 }, { name := "DEGREES_TO_RADIANS", type := .double, accessFlags := 26, slot := 3, constantValue := 0 }, { name := "RADIANS_TO_DEGREES", type := .double, accessFlags := 26, slot := 4, constantValue := 0 }, { name := "negativeZeroFloatBits", type := .long, accessFlags := 26, slot := 5, constantValue := 0 }, { name := "negativeZeroDoubleBits", type := .long, accessFlags := 26, slot := 6, constantValue := 0 }, { name := "twoToTheDoubleScaleUp", type := .double, accessFlags := 8, slot := 7, constantValue := 0 }, { name := "twoToTheDoubleScaleDown", type := .double, accessFlags := 8, slot := 8, constantValue := 0 }, { name := "$assertionsDisabled", type := .boolean, accessFlags := 4120, slot := 9, constantValue := 0 }]
  methods := #[k3m0, k3m1]
  instanceTypes := #[]
  staticTypes := #[.double, .double, .double, .double, .double, .long, .long, .double, .double, .boolean]
  resolved := Array.replicate 460 none
  statics := none }

def pool4 : Array CpInfo := pool [(1, .class_ 2), (0, u "java/io/Serializable"), (0, .class_ 4), (0, u "java/lang/Object")] 2

/-- java/io/Serializable -/
def k4 : Class := { plain "java/io/Serializable" (some 0) with
  accessFlags := 1537
  interfaces := #[]
  cf := some (fileOf pool4 1 #[] #[] 1537 3 #[] #[])
  fields := #[]
  methods := #[]
  instanceTypes := #[]
  staticTypes := #[]
  resolved := Array.replicate 7 none
  statics := none }

def pool5 : Array CpInfo := pool [(2, .class_ 4), (1, u "java/lang/Object"), (0, u "<init>"), (0, u "()V"), (1, .class_ 10), (1, u "java/lang/Number"), (2, .class_ 14), (0, u "java/io/Serializable"), (0, u "serialVersionUID"), (0, u "J")] 20

def k5m0 : Method := { name := "<init>", desc := "()V", sig := { parameters := [], returnType := none }, accessFlags := 1, code := none }
/-- java/lang/Number -/
def k5 : Class := { plain "java/lang/Number" (some 0) with
  accessFlags := 1057
  interfaces := #[4]
  cf := some (fileOf pool5 8 #[] #[{ accessFlags := 1, nameIndex := 5, descriptorIndex := 6, attributes := #[] }] 1057 2 #[13] #[{ accessFlags := 26, nameIndex := 15, descriptorIndex := 16, attributes := #[] }])
  fields := #[{ name := "serialVersionUID", type := .long, accessFlags := 26, slot := 0, constantValue := 0 }]
  methods := #[k5m0]
  instanceTypes := #[]
  staticTypes := #[.long]
  resolved := Array.replicate 37 none
  statics := none }

def pool6 : Array CpInfo := pool [(1, .class_ 2), (0, u "java/lang/Comparable"), (0, .class_ 4), (0, u "java/lang/Object")] 7

/-- java/lang/Comparable -/
def k6 : Class := { plain "java/lang/Comparable" (some 0) with
  accessFlags := 1537
  interfaces := #[]
  cf := some (fileOf pool6 1 #[] #[] 1537 3 #[] #[])
  fields := #[]
  methods := #[]
  instanceTypes := #[]
  staticTypes := #[]
  resolved := Array.replicate 12 none
  statics := none }

def pool7 : Array CpInfo := pool [(1, .class_ 2), (0, u "java/lang/constant/Constable"), (0, .class_ 4), (0, u "java/lang/Object")] 6

/-- java/lang/constant/Constable -/
def k7 : Class := { plain "java/lang/constant/Constable" (some 0) with
  accessFlags := 1537
  interfaces := #[]
  cf := some (fileOf pool7 1 #[] #[] 1537 3 #[] #[])
  fields := #[]
  methods := #[]
  instanceTypes := #[]
  staticTypes := #[]
  resolved := Array.replicate 11 none
  statics := none }

def pool8 : Array CpInfo := pool [(1, .class_ 2), (0, u "java/lang/constant/ConstantDesc"), (0, .class_ 4), (0, u "java/lang/Object")] 32

/-- java/lang/constant/ConstantDesc -/
def k8 : Class := { plain "java/lang/constant/ConstantDesc" (some 0) with
  accessFlags := 1537
  interfaces := #[]
  cf := some (fileOf pool8 1 #[] #[] 1537 3 #[] #[])
  fields := #[]
  methods := #[]
  instanceTypes := #[]
  staticTypes := #[]
  resolved := Array.replicate 37 none
  statics := none }

def pool9 : Array CpInfo := pool [(1, .class_ 2), (0, u "java/lang/Integer"), (16, u "digits"), (0, u "[C"), (30, .methodref 1 52), (0, .nameAndType 53 54), (0, u "numberOfLeadingZeros"), (0, u "(I)I"), (30, u "DigitOnes"), (0, u "[B"), (2, u "DigitTens"), (37, .integer 2147483648), (61, .class_ 190), (0, u "java/lang/Integer$IntegerCache"), (3, u "I"), (8, .class_ 204), (0, u "java/lang/Number"), (2, u "value"), (56, .integer 65536), (37, u "TYPE"), (0, u "Ljava/lang/Class;"), (0, .class_ 305), (0, u "java/lang/Comparable"), (0, .class_ 307), (0, u "java/lang/constant/Constable"), (0, .class_ 309), (0, u "java/lang/constant/ConstantDesc"), (0, u "MIN_VALUE"), (1, u "MAX_VALUE"), (3, u "SIZE"), (1, u "BYTES"), (1, u "serialVersionUID"), (0, u "J"), (81, u "highestOneBit")] 49

def k9c0 : Code := { maxStack := 3, maxLocals := 1, code := jdk_33_method_45_code, exceptionTable := #[], attributes := #[] }
def k9m0 : Method := { name := "highestOneBit", desc := "(I)I", sig := { parameters := [.int], returnType := some .int }, accessFlags := 9, code := some k9c0 }
def k9c1 : Code := { maxStack := 3, maxLocals := 2, code := jdk_33_method_47_code, exceptionTable := #[], attributes := #[] }
def k9m1 : Method := { name := "numberOfLeadingZeros", desc := "(I)I", sig := { parameters := [.int], returnType := some .int }, accessFlags := 9, code := some k9c1 }
/-- java/lang/Integer -/
def k9 : Class := { plain "java/lang/Integer" (some 5) with
  accessFlags := 49
  interfaces := #[6, 7, 8]
  cf := some (fileOf pool9 1 #[.nestMembers #[189]] #[{ accessFlags := 9, nameIndex := 403, descriptorIndex := 54, attributes := #[] }, { accessFlags := 9, nameIndex := 53, descriptorIndex := 54, attributes := #[] }] 49 203 #[304, 306, 308] #[{ accessFlags := 25, nameIndex := 310, descriptorIndex := 194, attributes := #[] }, { accessFlags := 25, nameIndex := 312, descriptorIndex := 194, attributes := #[] }, { accessFlags := 25, nameIndex := 302, descriptorIndex := 303, attributes := #[] }, { accessFlags := 24, nameIndex := 19, descriptorIndex := 20, attributes := #[] }, { accessFlags := 24, nameIndex := 89, descriptorIndex := 86, attributes := #[] }, { accessFlags := 24, nameIndex := 85, descriptorIndex := 86, attributes := #[] }, { accessFlags := 18, nameIndex := 207, descriptorIndex := 194, attributes := #[] }, { accessFlags := 25, nameIndex := 316, descriptorIndex := 194, attributes := #[] }, { accessFlags := 25, nameIndex := 318, descriptorIndex := 194, attributes := #[] }, { accessFlags := 26, nameIndex := 320, descriptorIndex := 321, attributes := #[] }])
  fields := #[{ name := "MIN_VALUE", type := .int, accessFlags := 25, slot := 0, constantValue := 0 }, { name := "MAX_VALUE", type := .int, accessFlags := 25, slot := 1, constantValue := 0 }, { name := "TYPE", type := (.object "java/lang/Class"), accessFlags := 25, slot := 2, constantValue := 0 }, { name := "digits", type := (.array .char), accessFlags := 24, slot := 3, constantValue := 0 }, { name := "DigitTens", type := (.array .byte), accessFlags := 24, slot := 4, constantValue := 0 }, { name := "DigitOnes", type := (.array .byte), accessFlags := 24, slot := 5, constantValue := 0 }, { name := "value", type := .int, accessFlags := 18, slot := 0, constantValue := 0 }, { name := "SIZE", type := .int, accessFlags := 25, slot := 6, constantValue := 0 }, { name := "BYTES", type := .int, accessFlags := 25, slot := 7, constantValue := 0 }, { name := "serialVersionUID", type := .long, accessFlags := 26, slot := 8, constantValue := 0 }]
  methods := #[k9m0, k9m1]
  instanceTypes := #[.int]
  staticTypes := #[.int, .int, (.object "java/lang/Class"), (.array .char), (.array .byte), (.array .byte), .int, .int, .long]
  resolved := Array.replicate 453 none
  statics := none }

def pool10 : Array CpInfo := pool [(1, u "java/lang/Cloneable"), (0, .class_ 1), (0, u "java/lang/Object"), (0, .class_ 3)] 3

/-- java/lang/Cloneable -/
def k10 : Class := { plain "java/lang/Cloneable" (some 0) with
  accessFlags := 1537
  interfaces := #[]
  cf := some (fileOf pool10 2 #[] #[] 1537 4 #[] #[])
  fields := #[]
  methods := #[]
  instanceTypes := #[]
  staticTypes := #[]
  resolved := Array.replicate 8 none
  statics := none }

/-- the primitive byte -/
def k11 : Class := { plain "byte" none with kind := .primitive 'B', accessFlags := 0x411 }
/-- [B -/
def k12 : Class := { plain "[B" (some 0) with kind := .array 11 .byte, interfaces := #[10, 4], accessFlags := 1041 }

/-- the primitive int -/
def k13 : Class := { plain "int" none with kind := .primitive 'I', accessFlags := 0x411 }
/-- [I -/
def k14 : Class := { plain "[I" (some 0) with kind := .array 13 .int, interfaces := #[10, 4], accessFlags := 1041 }

def heap : Heap := #[]
def classes : Array Class := #[k0, k1, k2, k3, k4, k5, k6, k7, k8, k9, k10, k11, k12, k13, k14]
def interned : List (Array UInt16 × Addr) := []
def slotsUsed : Nat := 0
def theMethod : MethodId := ⟨1, 1⟩
def args0 : Array Value := #[.int 5]
def aboutOver (below : List Frame) : State where
  vm := { classes := classes, interned := interned.toArray }
  heap := heap
  slotsUsed := slotsUsed
  threads := #[{ frames := .invoking theMethod args0 :: below }]
def below0 : List Frame := [.native { method := ⟨0, 0⟩, args := #[] }]
def about1 : State := aboutOver below0
def p0 : Program := .bare "" "" ""
def e0 : Env := launch0.env 0 0 0
theorem w_frames : about1.frames = Frame.invoking theMethod args0 :: below0 := rfl
set_option maxRecDepth 65536 in
theorem w_args : argsFit about1.vm theMethod args0 = true := by decide +kernel
set_option maxRecDepth 65536 in
theorem w_heap : heapFits about1 = true := by decide +kernel
set_option maxRecDepth 65536 in
theorem w_runnable : about1.curStatus? = some .runnable := by decide +kernel
set_option maxRecDepth 65536 in
theorem w_alone : about1.alone = true := by decide +kernel
set_option maxRecDepth 65536 in
theorem w_named : about1.methodNamed? x = some theMethod := by decide +kernel
set_option maxRecDepth 65536 in
theorem w_hears : about1.hears theMethod below0 = true := by decide +kernel
set_option maxRecDepth 65536 in
theorem w_ripe : about1.ripe theMethod args0 below0 = true := by decide +kernel
theorem w_running : about1.status = .running := rfl
set_option maxRecDepth 65536 in
theorem w_room : about1.hasRoom e0.platform room_1 = true :=
  launch0.hasRoom_least _ room_1 (by decide +kernel) (by decide +kernel) (by decide +kernel) (by decide +kernel) (by decide +kernel) (by decide +kernel)
theorem allAtoms_all (ts : List Jvm.Cond) (a : Array Jvm.Value) (st : Jvm.State) : (allAtoms ts).before a st = ts.all (fun c => c.before a st) := by
  induction ts with
  | nil => rfl
  | cons c t ih =>
    show (Jvm.Cond.and c (allAtoms t)).before a st = _
    rw [Jvm.Cond.before_and, ih, List.all_cons]
def words1 : List Jvm.Cond := Jvm.Cond.code x code maxLocals ret :: tables_1
/-- a 'code' word, met by the world's own term for the bytes: nothing is compared byte by byte -/
theorem code_word {y : MethodName} {bytes : ByteArray} {mx : Nat} {rt : Option FieldType} {a : Array Value} {s : State} {m : MethodId} {meth : Method} {c : Code} (h1 : s.methodNamed? y = some m) (h2 : s.vm.method? m = some meth) (h3 : meth.code = some c) (h4 : c.code = bytes)
    (h5 : (c.maxLocals == mx && c.exceptionTable.isEmpty && decide (c.maxStack ≤ mostOperands) && decide (meth.sig.returnType = rt) && !meth.locks && decide (parseMethodDescriptor y.desc = some meth.sig)) = true) : (Jvm.Cond.code y bytes mx rt).before a s = true := by
  simp only [Bool.and_eq_true, beq_iff_eq, Bool.not_eq_true', decide_eq_true_eq] at h5
  obtain ⟨⟨⟨⟨⟨g1, g2⟩, g3⟩, g4⟩, g5⟩, g6⟩ := h5
  simp [Cond.before, Cond.holds, Cond.value, h1, h2, h3, h4, g1, g2, g3, g4, g5, g6]
def isCode : Jvm.Cond → Bool
  | .code _ _ _ _ => true
  | _ => false
theorem all_split {L : List Jvm.Cond} {P : Jvm.Cond → Bool} (h1 : L.all (fun c => isCode c || P c) = true) (h2 : ∀ c ∈ L.filter isCode, P c = true) : L.all P = true := by
  refine List.all_eq_true.mpr fun c hc => ?_
  have h := List.all_eq_true.mp h1 c hc
  rcases Bool.eq_false_or_eq_true (isCode c) with hi | hi
  · exact h2 c (List.mem_filter.mpr ⟨hc, hi⟩)
  · simpa [hi] using h
set_option maxRecDepth 65536 in
theorem w_c0 : (Jvm.Cond.code x code maxLocals ret).before args0 about1 = true := code_word (m := ⟨1, 1⟩) (meth := k1m1) (c := k1c1) (by decide +kernel) rfl rfl rfl (by decide +kernel)
set_option maxRecDepth 65536 in
theorem w_c1 : (Jvm.Cond.code ({ cls := "com/example/lean_throttle/leanthrottle/keyed/KeyTable", name := "slotsFor", desc := "(I)I" } : Jvm.MethodName) prog_18_method_4_code (2 : Nat) (Option.some Jvm.ClassFile.FieldType.int)).before args0 about1 = true := code_word (m := ⟨2, 0⟩) (meth := k2m0) (c := k2c0) (by decide +kernel) rfl rfl rfl (by decide +kernel)
set_option maxRecDepth 65536 in
theorem w_c2 : (Jvm.Cond.code ({ cls := "java/lang/Math", name := "max", desc := "(II)I" } : Jvm.MethodName) jdk_29_method_65_code (2 : Nat) (Option.some Jvm.ClassFile.FieldType.int)).before args0 about1 = true := code_word (m := ⟨3, 1⟩) (meth := k3m1) (c := k3c1) (by decide +kernel) rfl rfl rfl (by decide +kernel)
set_option maxRecDepth 65536 in
theorem w_c3 : (Jvm.Cond.code ({ cls := "java/lang/Integer", name := "highestOneBit", desc := "(I)I" } : Jvm.MethodName) jdk_33_method_45_code (1 : Nat) (Option.some Jvm.ClassFile.FieldType.int)).before args0 about1 = true := code_word (m := ⟨9, 0⟩) (meth := k9m0) (c := k9c0) (by decide +kernel) rfl rfl rfl (by decide +kernel)
set_option maxRecDepth 65536 in
theorem w_c4 : (Jvm.Cond.code ({ cls := "java/lang/Integer", name := "numberOfLeadingZeros", desc := "(I)I" } : Jvm.MethodName) jdk_33_method_47_code (2 : Nat) (Option.some Jvm.ClassFile.FieldType.int)).before args0 about1 = true := code_word (m := ⟨9, 1⟩) (meth := k9m1) (c := k9c1) (by decide +kernel) rfl rfl rfl (by decide +kernel)
def codes1 : List Jvm.Cond := [Jvm.Cond.code x code maxLocals ret, Jvm.Cond.code ({ cls := "com/example/lean_throttle/leanthrottle/keyed/KeyTable", name := "slotsFor", desc := "(I)I" } : Jvm.MethodName) prog_18_method_4_code (2 : Nat) (Option.some Jvm.ClassFile.FieldType.int), Jvm.Cond.code ({ cls := "java/lang/Math", name := "max", desc := "(II)I" } : Jvm.MethodName) jdk_29_method_65_code (2 : Nat) (Option.some Jvm.ClassFile.FieldType.int), Jvm.Cond.code ({ cls := "java/lang/Integer", name := "highestOneBit", desc := "(I)I" } : Jvm.MethodName) jdk_33_method_45_code (1 : Nat) (Option.some Jvm.ClassFile.FieldType.int), Jvm.Cond.code ({ cls := "java/lang/Integer", name := "numberOfLeadingZeros", desc := "(I)I" } : Jvm.MethodName) jdk_33_method_47_code (2 : Nat) (Option.some Jvm.ClassFile.FieldType.int)]
set_option maxRecDepth 65536 in
theorem codes_eq : words1.filter isCode = codes1 := rfl
theorem w_codes : ∀ c ∈ words1.filter isCode, c.before args0 about1 = true := by
  rw [codes_eq]
  intro c hc
  simp only [codes1, List.mem_cons, List.not_mem_nil, or_false] at hc
  rcases hc with rfl | rfl | rfl | rfl | rfl
  · exact w_c0
  · exact w_c1
  · exact w_c2
  · exact w_c3
  · exact w_c4
set_option maxRecDepth 65536 in
theorem w_t1 : words1.all (fun c => isCode c || c.before args0 about1) = true := by decide +kernel
theorem w_tables : (allAtoms (Jvm.Cond.code x code maxLocals ret :: tables_1)).before args0 about1 = true := by
  rw [allAtoms_all]
  show words1.all (fun c => c.before args0 about1) = true
  refine all_split ?_ w_codes
  rw [w_t1]
set_option maxRecDepth 65536 in
theorem w_case : (Jvm.Cond.and given_1 narrow_1).before args0 about1 = true := by decide +kernel
theorem w_applies : (headSpec (Jvm.Cond.code x code maxLocals ret :: tables_1) room_1).applies x e0.platform about1 = true :=
  (Spec.applies_iff w_frames).mpr ⟨w_running, w_runnable, w_alone, w_named, w_hears, w_ripe, w_room, w_tables⟩
theorem atStart : AtStart classFile x code maxLocals ret World_1 tables_1 room_1 Calls_1 rest_1 Pre_1 launch0 p0 e0 about1 theMethod args0 below0 :=
  ⟨lists_1, trivial, launch0.admits_env _ _ _, launch0.least_env, fairChoices_fair.cas, fairChoices_fair.clock, w_frames, w_args, w_heap, w_applies, trivial, trivial, w_case⟩
end start1
theorem witness_1 : WitnessClaimed_1 := ⟨start1.p0, start1.e0, start1.about1, start1.theMethod, start1.args0, start1.below0, start1.atStart⟩
end Jvm.Pilot.@@N@@
