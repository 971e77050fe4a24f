import JvmDerived
import JvmDerived.Pilot.@@N@@Statement
import JvmDerived.Pilot.@@N@@Code
set_option linter.unusedVariables false
set_option linter.unusedSimpArgs false
namespace Jvm.Pilot.@@N@@
open Jvm Jvm.ClassFile Sem Op Lib Jvm.Free Jvm.Stand Jvm.LawKit Jvm.RoadKit Bundle Jvm.Pilot.@@N@@.Jvm.D
section OwnWalk
/-- what a walk still owes from where it stands -/
def Go (p : Program) (e : Env) (below : List Frame) (Q : Outcome → State → Prop) (T : State) (g : JFrame) : Prop :=
  ∃ s₂ o, Steps p.tables e below (T.setTop g) s₂ ∧ s₂.status = .running ∧ Ended s₂ below o ∧ Q o s₂
/-- what a body owes at its end -/
def Qend (s : State) (Qf : Option Value → Heap → List Loc → Prop) (kc ks : Nat) (o : Outcome) (U : State) : Prop :=
  ∃ v L, o = .returned v ∧ Qf v U.heap L ∧ FrameEnd s o U L kc ks
variable {p : Program} {l : Launch} {e : Env} {R : Room} {s : State} {m : MethodId} {args : Array Value} {below : List Frame} {meth : Method} {c : Code} {T : State} {locs : List Loc} {cells slots : Nat} {Q : Outcome → State → Prop} {pc : Nat} {Ls : Array Slot} {rest : List Value}
theorem Go.step {T' : State} {g g' : JFrame} (k : ∀ t, Steps p.tables e below (T'.setTop g') t → Steps p.tables e below (T.setTop g) t) (h : Go p e below Q T' g') : Go p e below Q T g := by
  obtain ⟨t, o, h1, h2⟩ := h
  exact ⟨t, o, k t h1, h2⟩
theorem Go.cast {g g' : JFrame} (q : g = g') (h : Go p e below Q T g') : Go p e below Q T g := q ▸ h
theorem g_iadd (X : Stand p l e R s m args below meth c T locs cells slots) (hx : p.tables.exec = Jvm.exec) {x y : Int32} (pc' : Nat) (hd : decode c.code pc = .ok (.iadd, 1))  (hp : pc + 1 = pc')
    (k : Go p e below Q T (mkF m pc' Ls (.int (x + y) :: rest))) : Go p e below Q T (mkF m pc Ls (.int y :: .int x :: rest)) := by
  subst hp; exact Go.step (fun t k => XS.iadd X.here hx rfl hd rfl k) k
theorem g_isub (X : Stand p l e R s m args below meth c T locs cells slots) (hx : p.tables.exec = Jvm.exec) {x y : Int32} (pc' : Nat) (hd : decode c.code pc = .ok (.isub, 1))  (hp : pc + 1 = pc')
    (k : Go p e below Q T (mkF m pc' Ls (.int (x - y) :: rest))) : Go p e below Q T (mkF m pc Ls (.int y :: .int x :: rest)) := by
  subst hp; exact Go.step (fun t k => XS.isub X.here hx rfl hd rfl k) k
theorem g_imul (X : Stand p l e R s m args below meth c T locs cells slots) (hx : p.tables.exec = Jvm.exec) {x y : Int32} (pc' : Nat) (hd : decode c.code pc = .ok (.imul, 1))  (hp : pc + 1 = pc')
    (k : Go p e below Q T (mkF m pc' Ls (.int (x * y) :: rest))) : Go p e below Q T (mkF m pc Ls (.int y :: .int x :: rest)) := by
  subst hp; exact Go.step (fun t k => XS.imul X.here hx rfl hd rfl k) k
theorem g_iand (X : Stand p l e R s m args below meth c T locs cells slots) (hx : p.tables.exec = Jvm.exec) {x y : Int32} (pc' : Nat) (hd : decode c.code pc = .ok (.iand, 1))  (hp : pc + 1 = pc')
    (k : Go p e below Q T (mkF m pc' Ls (.int (x &&& y) :: rest))) : Go p e below Q T (mkF m pc Ls (.int y :: .int x :: rest)) := by
  subst hp; exact Go.step (fun t k => XS.iand X.here hx rfl hd rfl k) k
theorem g_ior (X : Stand p l e R s m args below meth c T locs cells slots) (hx : p.tables.exec = Jvm.exec) {x y : Int32} (pc' : Nat) (hd : decode c.code pc = .ok (.ior, 1))  (hp : pc + 1 = pc')
    (k : Go p e below Q T (mkF m pc' Ls (.int (x ||| y) :: rest))) : Go p e below Q T (mkF m pc Ls (.int y :: .int x :: rest)) := by
  subst hp; exact Go.step (fun t k => XS.ior X.here hx rfl hd rfl k) k
theorem g_ixor (X : Stand p l e R s m args below meth c T locs cells slots) (hx : p.tables.exec = Jvm.exec) {x y : Int32} (pc' : Nat) (hd : decode c.code pc = .ok (.ixor, 1))  (hp : pc + 1 = pc')
    (k : Go p e below Q T (mkF m pc' Ls (.int (x ^^^ y) :: rest))) : Go p e below Q T (mkF m pc Ls (.int y :: .int x :: rest)) := by
  subst hp; exact Go.step (fun t k => XS.ixor X.here hx rfl hd rfl k) k
theorem g_ishl (X : Stand p l e R s m args below meth c T locs cells slots) (hx : p.tables.exec = Jvm.exec) {x y : Int32} (pc' : Nat) (hd : decode c.code pc = .ok (.ishl, 1))  (hp : pc + 1 = pc')
    (k : Go p e below Q T (mkF m pc' Ls (.int (x <<< (y &&& 31)) :: rest))) : Go p e below Q T (mkF m pc Ls (.int y :: .int x :: rest)) := by
  subst hp; exact Go.step (fun t k => XS.ishl X.here hx rfl hd rfl k) k
theorem g_ishr (X : Stand p l e R s m args below meth c T locs cells slots) (hx : p.tables.exec = Jvm.exec) {x y : Int32} (pc' : Nat) (hd : decode c.code pc = .ok (.ishr, 1))  (hp : pc + 1 = pc')
    (k : Go p e below Q T (mkF m pc' Ls (.int (x >>> (y &&& 31)) :: rest))) : Go p e below Q T (mkF m pc Ls (.int y :: .int x :: rest)) := by
  subst hp; exact Go.step (fun t k => XS.ishr X.here hx rfl hd rfl k) k
theorem g_iushr (X : Stand p l e R s m args below meth c T locs cells slots) (hx : p.tables.exec = Jvm.exec) {x y : Int32} (pc' : Nat) (hd : decode c.code pc = .ok (.iushr, 1))  (hp : pc + 1 = pc')
    (k : Go p e below Q T (mkF m pc' Ls (.int ((x.toUInt32 >>> (y &&& 31).toUInt32).toInt32) :: rest))) : Go p e below Q T (mkF m pc Ls (.int y :: .int x :: rest)) := by
  subst hp; exact Go.step (fun t k => XS.iushr X.here hx rfl hd rfl k) k
theorem g_irem (X : Stand p l e R s m args below meth c T locs cells slots) (hx : p.tables.exec = Jvm.exec) {x y : Int32} (pc' : Nat) (hd : decode c.code pc = .ok (.irem, 1)) (hy : y ≠ 0) (hp : pc + 1 = pc')
    (k : Go p e below Q T (mkF m pc' Ls (.int (x % y) :: rest))) : Go p e below Q T (mkF m pc Ls (.int y :: .int x :: rest)) := by
  subst hp; exact Go.step (fun t k => iremM X hx rfl hd rfl hy k) k
theorem g_idiv (X : Stand p l e R s m args below meth c T locs cells slots) (hx : p.tables.exec = Jvm.exec) {x y : Int32} (pc' : Nat) (hd : decode c.code pc = .ok (.idiv, 1)) (hy : y ≠ 0) (hp : pc + 1 = pc')
    (k : Go p e below Q T (mkF m pc' Ls (.int (x / y) :: rest))) : Go p e below Q T (mkF m pc Ls (.int y :: .int x :: rest)) := by
  subst hp; exact Go.step (fun t k => XS.idiv X.here hx rfl hd rfl hy k) k
theorem g_ladd (X : Stand p l e R s m args below meth c T locs cells slots) (hx : p.tables.exec = Jvm.exec) {x y : Int64} (pc' : Nat) (hd : decode c.code pc = .ok (.ladd, 1))  (hp : pc + 1 = pc')
    (k : Go p e below Q T (mkF m pc' Ls (.long (x + y) :: rest))) : Go p e below Q T (mkF m pc Ls (.long y :: .long x :: rest)) := by
  subst hp; exact Go.step (fun t k => XS.ladd X.here hx rfl hd rfl k) k
theorem g_lsub (X : Stand p l e R s m args below meth c T locs cells slots) (hx : p.tables.exec = Jvm.exec) {x y : Int64} (pc' : Nat) (hd : decode c.code pc = .ok (.lsub, 1))  (hp : pc + 1 = pc')
    (k : Go p e below Q T (mkF m pc' Ls (.long (x - y) :: rest))) : Go p e below Q T (mkF m pc Ls (.long y :: .long x :: rest)) := by
  subst hp; exact Go.step (fun t k => XS.lsub X.here hx rfl hd rfl k) k
theorem g_lmul (X : Stand p l e R s m args below meth c T locs cells slots) (hx : p.tables.exec = Jvm.exec) {x y : Int64} (pc' : Nat) (hd : decode c.code pc = .ok (.lmul, 1))  (hp : pc + 1 = pc')
    (k : Go p e below Q T (mkF m pc' Ls (.long (x * y) :: rest))) : Go p e below Q T (mkF m pc Ls (.long y :: .long x :: rest)) := by
  subst hp; exact Go.step (fun t k => XS.lmul X.here hx rfl hd rfl k) k
theorem g_land (X : Stand p l e R s m args below meth c T locs cells slots) (hx : p.tables.exec = Jvm.exec) {x y : Int64} (pc' : Nat) (hd : decode c.code pc = .ok (.land, 1))  (hp : pc + 1 = pc')
    (k : Go p e below Q T (mkF m pc' Ls (.long (x &&& y) :: rest))) : Go p e below Q T (mkF m pc Ls (.long y :: .long x :: rest)) := by
  subst hp; exact Go.step (fun t k => XS.land X.here hx rfl hd rfl k) k
theorem g_lor (X : Stand p l e R s m args below meth c T locs cells slots) (hx : p.tables.exec = Jvm.exec) {x y : Int64} (pc' : Nat) (hd : decode c.code pc = .ok (.lor, 1))  (hp : pc + 1 = pc')
    (k : Go p e below Q T (mkF m pc' Ls (.long (x ||| y) :: rest))) : Go p e below Q T (mkF m pc Ls (.long y :: .long x :: rest)) := by
  subst hp; exact Go.step (fun t k => XS.lor X.here hx rfl hd rfl k) k
theorem g_lxor (X : Stand p l e R s m args below meth c T locs cells slots) (hx : p.tables.exec = Jvm.exec) {x y : Int64} (pc' : Nat) (hd : decode c.code pc = .ok (.lxor, 1))  (hp : pc + 1 = pc')
    (k : Go p e below Q T (mkF m pc' Ls (.long (x ^^^ y) :: rest))) : Go p e below Q T (mkF m pc Ls (.long y :: .long x :: rest)) := by
  subst hp; exact Go.step (fun t k => XS.lxor X.here hx rfl hd rfl k) k
theorem g_ldiv (X : Stand p l e R s m args below meth c T locs cells slots) (hx : p.tables.exec = Jvm.exec) {x y : Int64} (pc' : Nat) (hd : decode c.code pc = .ok (.ldiv, 1)) (hy : y ≠ 0) (hp : pc + 1 = pc')
    (k : Go p e below Q T (mkF m pc' Ls (.long (x / y) :: rest))) : Go p e below Q T (mkF m pc Ls (.long y :: .long x :: rest)) := by
  subst hp; exact Go.step (fun t k => XS.ldiv X.here hx rfl hd rfl hy k) k
theorem g_lshl (X : Stand p l e R s m args below meth c T locs cells slots) (hx : p.tables.exec = Jvm.exec) {x : Int64} {y : Int32} (pc' : Nat) (hd : decode c.code pc = .ok (.lshl, 1))  (hp : pc + 1 = pc')
    (k : Go p e below Q T (mkF m pc' Ls (.long (x <<< (y &&& 0x3f).toInt64) :: rest))) : Go p e below Q T (mkF m pc Ls (.int y :: .long x :: rest)) := by
  subst hp; exact Go.step (fun t k => XS.lshl X.here hx rfl hd rfl k) k
theorem g_lshr (X : Stand p l e R s m args below meth c T locs cells slots) (hx : p.tables.exec = Jvm.exec) {x : Int64} {y : Int32} (pc' : Nat) (hd : decode c.code pc = .ok (.lshr, 1))  (hp : pc + 1 = pc')
    (k : Go p e below Q T (mkF m pc' Ls (.long (x >>> (y &&& 0x3f).toInt64) :: rest))) : Go p e below Q T (mkF m pc Ls (.int y :: .long x :: rest)) := by
  subst hp; exact Go.step (fun t k => XS.lshr X.here hx rfl hd rfl k) k
theorem g_lushr (X : Stand p l e R s m args below meth c T locs cells slots) (hx : p.tables.exec = Jvm.exec) {x : Int64} {y : Int32} (pc' : Nat) (hd : decode c.code pc = .ok (.lushr, 1))  (hp : pc + 1 = pc')
    (k : Go p e below Q T (mkF m pc' Ls (.long ((x.toUInt64 >>> (y &&& 0x3f).toInt64.toUInt64).toInt64) :: rest))) : Go p e below Q T (mkF m pc Ls (.int y :: .long x :: rest)) := by
  subst hp; exact Go.step (fun t k => XS.lushr X.here hx rfl hd rfl k) k
theorem g_i2b (X : Stand p l e R s m args below meth c T locs cells slots) (hx : p.tables.exec = Jvm.exec) {x : Int32} (pc' : Nat) (hd : decode c.code pc = .ok (.i2b, 1))  (hp : pc + 1 = pc')
    (k : Go p e below Q T (mkF m pc' Ls (.int (x.toInt8.toInt32) :: rest))) : Go p e below Q T (mkF m pc Ls (.int x :: rest)) := by
  subst hp; exact Go.step (fun t k => XS.i2b X.here hx rfl hd rfl k) k
theorem g_i2c (X : Stand p l e R s m args below meth c T locs cells slots) (hx : p.tables.exec = Jvm.exec) {x : Int32} (pc' : Nat) (hd : decode c.code pc = .ok (.i2c, 1))  (hp : pc + 1 = pc')
    (k : Go p e below Q T (mkF m pc' Ls (.int (x.toUInt32.toUInt16.toUInt32.toInt32) :: rest))) : Go p e below Q T (mkF m pc Ls (.int x :: rest)) := by
  subst hp; exact Go.step (fun t k => XS.i2c X.here hx rfl hd rfl k) k
theorem g_i2s (X : Stand p l e R s m args below meth c T locs cells slots) (hx : p.tables.exec = Jvm.exec) {x : Int32} (pc' : Nat) (hd : decode c.code pc = .ok (.i2s, 1))  (hp : pc + 1 = pc')
    (k : Go p e below Q T (mkF m pc' Ls (.int (x.toInt16.toInt32) :: rest))) : Go p e below Q T (mkF m pc Ls (.int x :: rest)) := by
  subst hp; exact Go.step (fun t k => XS.i2s X.here hx rfl hd rfl k) k
theorem g_i2l (X : Stand p l e R s m args below meth c T locs cells slots) (hx : p.tables.exec = Jvm.exec) {x : Int32} (pc' : Nat) (hd : decode c.code pc = .ok (.i2l, 1))  (hp : pc + 1 = pc')
    (k : Go p e below Q T (mkF m pc' Ls (.long (x.toInt64) :: rest))) : Go p e below Q T (mkF m pc Ls (.int x :: rest)) := by
  subst hp; exact Go.step (fun t k => XS.i2l X.here hx rfl hd rfl k) k
theorem g_l2i (X : Stand p l e R s m args below meth c T locs cells slots) (hx : p.tables.exec = Jvm.exec) {x : Int64} (pc' : Nat) (hd : decode c.code pc = .ok (.l2i, 1))  (hp : pc + 1 = pc')
    (k : Go p e below Q T (mkF m pc' Ls (.int (x.toInt32) :: rest))) : Go p e below Q T (mkF m pc Ls (.long x :: rest)) := by
  subst hp; exact Go.step (fun t k => XS.l2i X.here hx rfl hd rfl k) k
theorem g_ineg (X : Stand p l e R s m args below meth c T locs cells slots) (hx : p.tables.exec = Jvm.exec) {x : Int32} (pc' : Nat) (hd : decode c.code pc = .ok (.ineg, 1))  (hp : pc + 1 = pc')
    (k : Go p e below Q T (mkF m pc' Ls (.int (-x) :: rest))) : Go p e below Q T (mkF m pc Ls (.int x :: rest)) := by
  subst hp; exact Go.step (fun t k => XS.ineg X.here hx rfl hd rfl k) k
theorem g_lneg (X : Stand p l e R s m args below meth c T locs cells slots) (hx : p.tables.exec = Jvm.exec) {x : Int64} (pc' : Nat) (hd : decode c.code pc = .ok (.lneg, 1))  (hp : pc + 1 = pc')
    (k : Go p e below Q T (mkF m pc' Ls (.long (-x) :: rest))) : Go p e below Q T (mkF m pc Ls (.long x :: rest)) := by
  subst hp; exact Go.step (fun t k => XS.lneg X.here hx rfl hd rfl k) k
theorem g_lcmp (X : Stand p l e R s m args below meth c T locs cells slots) (hx : p.tables.exec = Jvm.exec) {x y : Int64} (pc' : Nat) (hd : decode c.code pc = .ok (.lcmp, 1))  (hp : pc + 1 = pc')
    (k : Go p e below Q T (mkF m pc' Ls (.int (Jvm.Free.XT.cmpL x y) :: rest))) : Go p e below Q T (mkF m pc Ls (.long y :: .long x :: rest)) := by
  subst hp; exact Go.step (fun t k => Jvm.Free.XT.lcmp X.here hx rfl hd rfl k) k
theorem g_iloadN (X : Stand p l e R s m args below meth c T locs cells slots) (hx : p.tables.exec = Jvm.exec) {k' : Fin 4} {v : Int32} (pc' : Nat) (hd : decode c.code pc = .ok (.iload_n k', 1)) (hl : Ls[k'.val]? = some (.val (.int v))) (hp : pc + 1 = pc')
    (k : Go p e below Q T (mkF m pc' Ls (.int v :: rest))) : Go p e below Q T (mkF m pc Ls (rest)) := by
  subst hp; exact Go.step (fun t k => XS.iloadN X.here hx rfl hd hl k) k
theorem g_iload (X : Stand p l e R s m args below meth c T locs cells slots) (hx : p.tables.exec = Jvm.exec) {k' : Nat} {v : Int32} (pc' : Nat) (hd : decode c.code pc = .ok (.iload k', 2)) (hl : Ls[k']? = some (.val (.int v))) (hp : pc + 2 = pc')
    (k : Go p e below Q T (mkF m pc' Ls (.int v :: rest))) : Go p e below Q T (mkF m pc Ls (rest)) := by
  subst hp; exact Go.step (fun t k => XS.iload X.here hx rfl hd hl k) k
theorem g_lloadN (X : Stand p l e R s m args below meth c T locs cells slots) (hx : p.tables.exec = Jvm.exec) {k' : Fin 4} {v : Int64} (pc' : Nat) (hd : decode c.code pc = .ok (.lload_n k', 1)) (hl : Ls[k'.val]? = some (.val (.long v))) (hp : pc + 1 = pc')
    (k : Go p e below Q T (mkF m pc' Ls (.long v :: rest))) : Go p e below Q T (mkF m pc Ls (rest)) := by
  subst hp; exact Go.step (fun t k => XS.lloadN X.here hx rfl hd hl k) k
theorem g_lload (X : Stand p l e R s m args below meth c T locs cells slots) (hx : p.tables.exec = Jvm.exec) {k' : Nat} {v : Int64} (pc' : Nat) (hd : decode c.code pc = .ok (.lload k', 2)) (hl : Ls[k']? = some (.val (.long v))) (hp : pc + 2 = pc')
    (k : Go p e below Q T (mkF m pc' Ls (.long v :: rest))) : Go p e below Q T (mkF m pc Ls (rest)) := by
  subst hp; exact Go.step (fun t k => XS.lload X.here hx rfl hd hl k) k
theorem g_aloadN (X : Stand p l e R s m args below meth c T locs cells slots) (hx : p.tables.exec = Jvm.exec) {k' : Fin 4} {v : Value} (pc' : Nat) (hd : decode c.code pc = .ok (.aload_n k', 1)) (hl : Ls[k'.val]? = some (.val v)) (hv : v.isRef = true) (hp : pc + 1 = pc')
    (k : Go p e below Q T (mkF m pc' Ls (v :: rest))) : Go p e below Q T (mkF m pc Ls (rest)) := by
  subst hp; exact Go.step (fun t k => XS.aloadN X.here hx rfl hd hl hv k) k
theorem g_aload (X : Stand p l e R s m args below meth c T locs cells slots) (hx : p.tables.exec = Jvm.exec) {k' : Nat} {v : Value} (pc' : Nat) (hd : decode c.code pc = .ok (.aload k', 2)) (hl : Ls[k']? = some (.val v)) (hv : v.isRef = true) (hp : pc + 2 = pc')
    (k : Go p e below Q T (mkF m pc' Ls (v :: rest))) : Go p e below Q T (mkF m pc Ls (rest)) := by
  subst hp; exact Go.step (fun t k => XS.aload X.here hx rfl hd hl hv k) k
theorem g_istoreN (X : Stand p l e R s m args below meth c T locs cells slots) (hx : p.tables.exec = Jvm.exec) {k' : Fin 4} {x : Int32} (pc' : Nat) (hd : decode c.code pc = .ok (.istore_n k', 1)) (Ls' : Array Slot) (hl : storeLocals Ls k'.val (.int x) = some Ls') (hp : pc + 1 = pc')
    (k : Go p e below Q T (mkF m pc' Ls' (rest))) : Go p e below Q T (mkF m pc Ls (.int x :: rest)) := by
  subst hp; exact Go.step (fun t k => XS.istoreN X.here hx rfl hd rfl hl k) k
theorem g_istore (X : Stand p l e R s m args below meth c T locs cells slots) (hx : p.tables.exec = Jvm.exec) {k' : Nat} {x : Int32} (pc' : Nat) (hd : decode c.code pc = .ok (.istore k', 2)) (Ls' : Array Slot) (hl : storeLocals Ls k' (.int x) = some Ls') (hp : pc + 2 = pc')
    (k : Go p e below Q T (mkF m pc' Ls' (rest))) : Go p e below Q T (mkF m pc Ls (.int x :: rest)) := by
  subst hp; exact Go.step (fun t k => XS.istore X.here hx rfl hd rfl hl k) k
theorem g_lstoreN (X : Stand p l e R s m args below meth c T locs cells slots) (hx : p.tables.exec = Jvm.exec) {k' : Fin 4} {x : Int64} (pc' : Nat) (hd : decode c.code pc = .ok (.lstore_n k', 1)) (Ls' : Array Slot) (hl : storeLocals Ls k'.val (.long x) = some Ls') (hp : pc + 1 = pc')
    (k : Go p e below Q T (mkF m pc' Ls' (rest))) : Go p e below Q T (mkF m pc Ls (.long x :: rest)) := by
  subst hp; exact Go.step (fun t k => XS.lstoreN X.here hx rfl hd rfl hl k) k
theorem g_lstore (X : Stand p l e R s m args below meth c T locs cells slots) (hx : p.tables.exec = Jvm.exec) {k' : Nat} {x : Int64} (pc' : Nat) (hd : decode c.code pc = .ok (.lstore k', 2)) (Ls' : Array Slot) (hl : storeLocals Ls k' (.long x) = some Ls') (hp : pc + 2 = pc')
    (k : Go p e below Q T (mkF m pc' Ls' (rest))) : Go p e below Q T (mkF m pc Ls (.long x :: rest)) := by
  subst hp; exact Go.step (fun t k => XS.lstore X.here hx rfl hd rfl hl k) k
theorem g_astoreN (X : Stand p l e R s m args below meth c T locs cells slots) (hx : p.tables.exec = Jvm.exec) {k' : Fin 4} {x : Value} (pc' : Nat) (hd : decode c.code pc = .ok (.astore_n k', 1)) (hv : x.isRef = true) (Ls' : Array Slot) (hl : storeLocals Ls k'.val x = some Ls') (hp : pc + 1 = pc')
    (k : Go p e below Q T (mkF m pc' Ls' (rest))) : Go p e below Q T (mkF m pc Ls (x :: rest)) := by
  subst hp; exact Go.step (fun t k => XS.astoreN X.here hx rfl hd rfl hv hl k) k
theorem g_astore (X : Stand p l e R s m args below meth c T locs cells slots) (hx : p.tables.exec = Jvm.exec) {k' : Nat} {x : Value} (pc' : Nat) (hd : decode c.code pc = .ok (.astore k', 2)) (hv : x.isRef = true) (Ls' : Array Slot) (hl : storeLocals Ls k' x = some Ls') (hp : pc + 2 = pc')
    (k : Go p e below Q T (mkF m pc' Ls' (rest))) : Go p e below Q T (mkF m pc Ls (x :: rest)) := by
  subst hp; exact Go.step (fun t k => XS.astore X.here hx rfl hd rfl hv hl k) k
theorem g_iinc (X : Stand p l e R s m args below meth c T locs cells slots) (hx : p.tables.exec = Jvm.exec) {k' : Nat} {cst : Int} {x : Int32} (pc' : Nat) (hd : decode c.code pc = .ok (.iinc k' cst, 3)) (v : Int32) (hv : Int32.ofInt cst = v) (hl : Ls[k']? = some (.val (.int x))) (Ls' : Array Slot) (hl' : storeLocals Ls k' (.int (x + v)) = some Ls') (hp : pc + 3 = pc')
    (k : Go p e below Q T (mkF m pc' Ls' (rest))) : Go p e below Q T (mkF m pc Ls (rest)) := by
  subst hp; exact Go.step (fun t k => XS.iinc X.here hx rfl hd hl (by rw [hv]; exact hl') k) k
theorem g_iincC (X : Stand p l e R s m args below meth c T locs cells slots) (hx : p.tables.exec = Jvm.exec) {k' : Nat} {cst : Int} {x : Int32} (pc' : Nat) (hd : decode c.code pc = .ok (.iinc k' cst, 3)) (v w : Int32) (hv : Int32.ofInt cst = v) (hw : x + v = w) (hl : Ls[k']? = some (.val (.int x))) (Ls' : Array Slot) (hl' : storeLocals Ls k' (.int w) = some Ls') (hp : pc + 3 = pc')
    (k : Go p e below Q T (mkF m pc' Ls' (rest))) : Go p e below Q T (mkF m pc Ls (rest)) := by
  subst hp; exact Go.step (fun t k => XS.iinc X.here hx rfl hd hl (by rw [hv, hw]; exact hl') k) k
theorem g_iconst (X : Stand p l e R s m args below meth c T locs cells slots) (hx : p.tables.exec = Jvm.exec) {i : Int} (pc' : Nat) (hd : decode c.code pc = .ok (.iconst i, 1)) (v : Int32) (hv : Int32.ofInt i = v) (hp : pc + 1 = pc')
    (k : Go p e below Q T (mkF m pc' Ls (.int v :: rest))) : Go p e below Q T (mkF m pc Ls (rest)) := by
  subst hp; exact Go.step (fun t k => XS.iconst X.here hx rfl hd (by rw [hv]; exact k)) k
theorem g_bipush (X : Stand p l e R s m args below meth c T locs cells slots) (hx : p.tables.exec = Jvm.exec) {i : Int} (pc' : Nat) (hd : decode c.code pc = .ok (.bipush i, 2)) (v : Int32) (hv : (Int8.ofInt i).toInt32 = v) (hp : pc + 2 = pc')
    (k : Go p e below Q T (mkF m pc' Ls (.int v :: rest))) : Go p e below Q T (mkF m pc Ls (rest)) := by
  subst hp; exact Go.step (fun t k => XS.bipush X.here hx rfl hd (by rw [hv]; exact k)) k
theorem g_sipush (X : Stand p l e R s m args below meth c T locs cells slots) (hx : p.tables.exec = Jvm.exec) {i : Int} (pc' : Nat) (hd : decode c.code pc = .ok (.sipush i, 3)) (v : Int32) (hv : (Int16.ofInt i).toInt32 = v) (hp : pc + 3 = pc')
    (k : Go p e below Q T (mkF m pc' Ls (.int v :: rest))) : Go p e below Q T (mkF m pc Ls (rest)) := by
  subst hp; exact Go.step (fun t k => XS.sipush X.here hx rfl hd (by rw [hv]; exact k)) k
theorem g_lconst (X : Stand p l e R s m args below meth c T locs cells slots) (hx : p.tables.exec = Jvm.exec) {i : Fin 2} (pc' : Nat) (hd : decode c.code pc = .ok (.lconst i, 1)) (v : Int64) (hv : Int64.ofNat i = v) (hp : pc + 1 = pc')
    (k : Go p e below Q T (mkF m pc' Ls (.long v :: rest))) : Go p e below Q T (mkF m pc Ls (rest)) := by
  subst hp; exact Go.step (fun t k => XS.lconst X.here hx rfl hd (by rw [hv]; exact k)) k
theorem g_null (X : Stand p l e R s m args below meth c T locs cells slots) (hx : p.tables.exec = Jvm.exec)  (pc' : Nat) (hd : decode c.code pc = .ok (.aconst_null, 1))  (hp : pc + 1 = pc')
    (k : Go p e below Q T (mkF m pc' Ls (.null :: rest))) : Go p e below Q T (mkF m pc Ls (rest)) := by
  subst hp; exact Go.step (fun t k => XS.aconstNull X.here hx rfl hd k) k
theorem g_dup (X : Stand p l e R s m args below meth c T locs cells slots) (hx : p.tables.exec = Jvm.exec) {x : Value} (pc' : Nat) (hd : decode c.code pc = .ok (.dup, 1)) (hc : x.category = 1) (hp : pc + 1 = pc')
    (k : Go p e below Q T (mkF m pc' Ls (x :: x :: rest))) : Go p e below Q T (mkF m pc Ls (x :: rest)) := by
  subst hp; exact Go.step (fun t k => XS.dup X.here hx rfl hd rfl hc k) k
theorem g_pop (X : Stand p l e R s m args below meth c T locs cells slots) (hx : p.tables.exec = Jvm.exec) {x : Value} (pc' : Nat) (hd : decode c.code pc = .ok (.pop, 1)) (hc : x.category = 1) (hp : pc + 1 = pc')
    (k : Go p e below Q T (mkF m pc' Ls (rest))) : Go p e below Q T (mkF m pc Ls (x :: rest)) := by
  subst hp; exact Go.step (fun t k => XS.pop X.here hx rfl hd rfl hc k) k
theorem g_dup2 (X : Stand p l e R s m args below meth c T locs cells slots) (hx : p.tables.exec = Jvm.exec) {x y : Value} (pc' : Nat) (hd : decode c.code pc = .ok (.dup2, 1)) (hc : x.category = 1) (hc' : y.category = 1) (hp : pc + 1 = pc')
    (k : Go p e below Q T (mkF m pc' Ls (x :: y :: x :: y :: rest))) : Go p e below Q T (mkF m pc Ls (x :: y :: rest)) := by
  subst hp; exact Go.step (fun t k => Jvm.Free.XT.dup2 X.here hx rfl hd rfl hc hc' k) k
theorem g_dupX1 (X : Stand p l e R s m args below meth c T locs cells slots) (hx : p.tables.exec = Jvm.exec) {x y : Value} (pc' : Nat) (hd : decode c.code pc = .ok (.dup_x1, 1)) (hc : x.category = 1) (hc' : y.category = 1) (hp : pc + 1 = pc')
    (k : Go p e below Q T (mkF m pc' Ls (x :: y :: x :: rest))) : Go p e below Q T (mkF m pc Ls (x :: y :: rest)) := by
  subst hp; exact Go.step (fun t k => XS.dupX1 X.here hx rfl hd rfl hc hc' k) k
theorem g_ldcI (X : Stand p l e R s m args below meth c T locs cells slots) (hx : p.tables.exec = Jvm.exec) {Z : State} {a0 : Array Value} (hZ : Z.Warmed39 s.vm) {own : String} {index : Nat} (v : Int32) (hown : s.vm.findClass own = some m.cls) (w : (Jvm.Cond.constant own index v).before a0 Z = true) (pc' : Nat) (hd : decode c.code pc = .ok (.ldc index, 2))  (hp : pc + 2 = pc')
    (k : Go p e below Q T (mkF m pc' Ls (.int v :: rest))) : Go p e below Q T (mkF m pc Ls (rest)) := by
  subst hp; exact Go.step (fun t k => X.ldcI hx hown (mv hZ w) rfl hd k) k
theorem g_ldcWI (X : Stand p l e R s m args below meth c T locs cells slots) (hx : p.tables.exec = Jvm.exec) {Z : State} {a0 : Array Value} (hZ : Z.Warmed39 s.vm) {own : String} {index : Nat} (v : Int32) (hown : s.vm.findClass own = some m.cls) (w : (Jvm.Cond.constant own index v).before a0 Z = true) (pc' : Nat) (hd : decode c.code pc = .ok (.ldc_w index, 3))  (hp : pc + 3 = pc')
    (k : Go p e below Q T (mkF m pc' Ls (.int v :: rest))) : Go p e below Q T (mkF m pc Ls (rest)) := by
  subst hp; exact Go.step (fun t k => X.ldcWI hx hown (mv hZ w) rfl hd k) k
theorem g_ldc2J (X : Stand p l e R s m args below meth c T locs cells slots) (hx : p.tables.exec = Jvm.exec) {Z : State} {a0 : Array Value} (hZ : Z.Warmed39 s.vm) {own : String} {index : Nat} (v : Int64) (hown : s.vm.findClass own = some m.cls) (w : (Jvm.Cond.constantLong own index v).before a0 Z = true) (pc' : Nat) (hd : decode c.code pc = .ok (.ldc2_w index, 3))  (hp : pc + 3 = pc')
    (k : Go p e below Q T (mkF m pc' Ls (.long v :: rest))) : Go p e below Q T (mkF m pc Ls (rest)) := by
  subst hp; exact Go.step (fun t k => X.ldc2J hx hown (mv hZ w) rfl hd k) k
theorem g_goto (X : Stand p l e R s m args below meth c T locs cells slots) (hx : p.tables.exec = Jvm.exec) (pc' : Nat) {o : Int} (hd : decode c.code pc = .ok (.goto o, 3)) (ho : 0 ≤ (pc : Int) + o) (hp : ((pc : Int) + o).toNat = pc') {st : List Value}
    (k : Go p e below Q T (mkF m pc' Ls st)) : Go p e below Q T (mkF m pc Ls st) := Go.step (fun t k => XS.goto X.here hx rfl rfl hd ho hp k) k
theorem g_ifT (X : Stand p l e R s m args below meth c T locs cells slots) (hx : p.tables.exec = Jvm.exec) (pc' : Nat) {o : Int} {cd : ClassFile.Cond} {x : Int32} (hd : decode c.code pc = .ok (.ifCond cd o, 3)) (hc : ifCond.holds cd x = true) (ho : 0 ≤ (pc : Int) + o) (hp : ((pc : Int) + o).toNat = pc')
    (k : Go p e below Q T (mkF m pc' Ls rest)) : Go p e below Q T (mkF m pc Ls (.int x :: rest)) := Go.step (fun t k => XS.ifYes X.here hx rfl rfl hd rfl hc ho hp k) k
theorem g_ifF (X : Stand p l e R s m args below meth c T locs cells slots) (hx : p.tables.exec = Jvm.exec) (pc' : Nat) {o : Int} {cd : ClassFile.Cond} {x : Int32} (hd : decode c.code pc = .ok (.ifCond cd o, 3)) (hc : ifCond.holds cd x = false) (hp : pc + 3 = pc')
    (k : Go p e below Q T (mkF m pc' Ls rest)) : Go p e below Q T (mkF m pc Ls (.int x :: rest)) := by subst hp; exact Go.step (fun t k => XS.ifNo X.here hx rfl hd rfl hc k) k
theorem g_icT (X : Stand p l e R s m args below meth c T locs cells slots) (hx : p.tables.exec = Jvm.exec) (pc' : Nat) {o : Int} {cd : ClassFile.Cond} {x y : Int32} (hd : decode c.code pc = .ok (.if_icmp cd o, 3)) (hc : if_icmp.holds cd x y = true) (ho : 0 ≤ (pc : Int) + o) (hp : ((pc : Int) + o).toNat = pc')
    (k : Go p e below Q T (mkF m pc' Ls rest)) : Go p e below Q T (mkF m pc Ls (.int y :: .int x :: rest)) := Go.step (fun t k => XS.icmpYes X.here hx rfl rfl hd rfl hc ho hp k) k
theorem g_icF (X : Stand p l e R s m args below meth c T locs cells slots) (hx : p.tables.exec = Jvm.exec) (pc' : Nat) {o : Int} {cd : ClassFile.Cond} {x y : Int32} (hd : decode c.code pc = .ok (.if_icmp cd o, 3)) (hc : if_icmp.holds cd x y = false) (hp : pc + 3 = pc')
    (k : Go p e below Q T (mkF m pc' Ls rest)) : Go p e below Q T (mkF m pc Ls (.int y :: .int x :: rest)) := by subst hp; exact Go.step (fun t k => XS.icmpNo X.here hx rfl hd rfl hc k) k
theorem g_swIn (X : Stand p l e R s m args below meth c T locs cells slots) (hx : p.tables.exec = Jvm.exec) (pc' : Nat) {dflt low high : Int} {offs : Array Int} {len : Nat} {o : Int} {i : Int32} (hd : decode c.code pc = .ok (.tableswitch dflt low high offs, len)) (hin : ¬ (i.toInt < low ∨ i.toInt > high)) (hoff : offs[(i.toInt - low).toNat]? = some o) (ho : 0 ≤ (pc : Int) + o) (hp : ((pc : Int) + o).toNat = pc')
    (k : Go p e below Q T (mkF m pc' Ls rest)) : Go p e below Q T (mkF m pc Ls (.int i :: rest)) := Go.step (fun t k => XS.tswIn X.here hx rfl rfl hd rfl hin hoff ho hp k) k
theorem g_swOut (X : Stand p l e R s m args below meth c T locs cells slots) (hx : p.tables.exec = Jvm.exec) (pc' : Nat) {dflt low high : Int} {offs : Array Int} {len : Nat} {i : Int32} (hd : decode c.code pc = .ok (.tableswitch dflt low high offs, len)) (hout : i.toInt < low ∨ i.toInt > high) (ho : 0 ≤ (pc : Int) + dflt) (hp : ((pc : Int) + dflt).toNat = pc')
    (k : Go p e below Q T (mkF m pc' Ls rest)) : Go p e below Q T (mkF m pc Ls (.int i :: rest)) := Go.step (fun t k => XS.tswOut X.here hx rfl rfl hd rfl hout ho hp k) k
theorem g_nullT (X : Stand p l e R s m args below meth c T locs cells slots) (hx : p.tables.exec = Jvm.exec) (pc' : Nat) {o : Int} (hd : decode c.code pc = .ok (.ifnull o, 3)) (ho : 0 ≤ (pc : Int) + o) (hp : ((pc : Int) + o).toNat = pc')
    (k : Go p e below Q T (mkF m pc' Ls rest)) : Go p e below Q T (mkF m pc Ls (.null :: rest)) := Go.step (fun t k => XS.ifnullYes X.here hx rfl rfl hd rfl ho hp k) k
theorem g_nullF (X : Stand p l e R s m args below meth c T locs cells slots) (hx : p.tables.exec = Jvm.exec) (pc' : Nat) {o : Int} {b : Addr} (hd : decode c.code pc = .ok (.ifnull o, 3)) (hp : pc + 3 = pc')
    (k : Go p e below Q T (mkF m pc' Ls rest)) : Go p e below Q T (mkF m pc Ls (.ref b :: rest)) := by subst hp; exact Go.step (fun t k => XS.ifnullNo X.here hx rfl hd rfl k) k
theorem g_nonnullT (X : Stand p l e R s m args below meth c T locs cells slots) (hx : p.tables.exec = Jvm.exec) (pc' : Nat) {o : Int} {b : Addr} (hd : decode c.code pc = .ok (.ifnonnull o, 3)) (ho : 0 ≤ (pc : Int) + o) (hp : ((pc : Int) + o).toNat = pc')
    (k : Go p e below Q T (mkF m pc' Ls rest)) : Go p e below Q T (mkF m pc Ls (.ref b :: rest)) := Go.step (fun t k => XS.ifnonnullYes X.here hx rfl rfl hd rfl ho hp k) k
theorem g_nonnullF (X : Stand p l e R s m args below meth c T locs cells slots) (hx : p.tables.exec = Jvm.exec) (pc' : Nat) {o : Int} (hd : decode c.code pc = .ok (.ifnonnull o, 3)) (hp : pc + 3 = pc')
    (k : Go p e below Q T (mkF m pc' Ls rest)) : Go p e below Q T (mkF m pc Ls (.null :: rest)) := by subst hp; exact Go.step (fun t k => XS.ifnonnullNo X.here hx rfl hd rfl k) k
theorem own_end {Qf : Option Value → Heap → List Loc → Prop} {kc ks : Nat} {g : JFrame} (X : Stand p l e R s m args below meth c T locs cells slots) (hx : p.tables.exec = Jvm.exec) (v : Option Value) (hv : meth.sig.returnType = none → v = none) (hlocks : meth.locks = false)
    (st : ∀ fs, (∀ (f : JFrame) (acts : List Action), f.method = m → f.locked = none → f.entered = [] → (doReturn e (T.setTop f) acts v).1 = T.setFrames fs) → Steps p.tables e below (T.setTop g) (T.setFrames fs))
    (hc : cells ≤ kc) (hs : slots ≤ ks) (hQ : Qf v T.heap locs) : Go p e below (Qend s Qf kc ks) T g := by
  obtain ⟨fs, hr, hrun, hended, hW, hsame⟩ := X.leave (v := v) hv hlocks
  exact ⟨_, _, st fs hr, hrun, hended, _, _, rfl, hQ, ⟨_, rfl⟩, hW, hsame.mono hc hs⟩
theorem g_iret {Qf : Option Value → Heap → List Loc → Prop} {kc ks : Nat} (X : Stand p l e R s m args below meth c T locs cells slots) (hx : p.tables.exec = Jvm.exec) {z : Int32} (hret : meth.sig.returnType = some .int) (hlocks : meth.locks = false) (hd : decode c.code pc = .ok (.ireturn, 1)) (hc : cells ≤ kc) (hs : slots ≤ ks)
    (hQ : Qf (some (.int z)) T.heap locs) : Go p e below (Qend s Qf kc ks) T (mkF m pc Ls (.int z :: rest)) :=
  own_end X hx _ (fun h => by rw [hret] at h; cases h) hlocks (fun fs hr => retOut X hx hret rfl (Or.inl ⟨rfl, Or.inl rfl, _, rfl⟩) hd hr) hc hs hQ
theorem g_lret {Qf : Option Value → Heap → List Loc → Prop} {kc ks : Nat} (X : Stand p l e R s m args below meth c T locs cells slots) (hx : p.tables.exec = Jvm.exec) {z : Int64} (hret : meth.sig.returnType = some .long) (hlocks : meth.locks = false) (hd : decode c.code pc = .ok (.lreturn, 1)) (hc : cells ≤ kc) (hs : slots ≤ ks)
    (hQ : Qf (some (.long z)) T.heap locs) : Go p e below (Qend s Qf kc ks) T (mkF m pc Ls (.long z :: rest)) :=
  own_end X hx _ (fun h => by rw [hret] at h; cases h) hlocks (fun fs hr => retOut X hx hret rfl (Or.inr (Or.inl ⟨rfl, rfl, _, rfl⟩)) hd hr) hc hs hQ
theorem g_nret {Qf : Option Value → Heap → List Loc → Prop} {kc ks : Nat} (X : Stand p l e R s m args below meth c T locs cells slots) (hx : p.tables.exec = Jvm.exec) {z : Int32} {t : FieldType} (ht : t = .boolean ∨ t = .byte ∨ t = .char ∨ t = .short) (hret : meth.sig.returnType = some t) (hlocks : meth.locks = false) (hd : decode c.code pc = .ok (.ireturn, 1)) (hc : cells ≤ kc) (hs : slots ≤ ks)
    (hQ : Qf (some (.int (nar t z))) T.heap locs) : Go p e below (Qend s Qf kc ks) T (mkF m pc Ls (.int z :: rest)) :=
  own_end X hx _ (fun h => by rw [hret] at h; cases h) hlocks (fun fs hr => retN X hx hret ht hd hr) hc hs hQ
theorem g_aret {Qf : Option Value → Heap → List Loc → Prop} {kc ks : Nat} (X : Stand p l e R s m args below meth c T locs cells slots) (hx : p.tables.exec = Jvm.exec) {w : Value} {t : FieldType} (ht : t.isReference = true) (hw : w.isRef = true) (hn : narrow t w = w) (hret : meth.sig.returnType = some t) (hlocks : meth.locks = false) (hd : decode c.code pc = .ok (.areturn, 1)) (hc : cells ≤ kc) (hs : slots ≤ ks)
    (hQ : Qf (some w) T.heap locs) : Go p e below (Qend s Qf kc ks) T (mkF m pc Ls (w :: rest)) :=
  own_end X hx _ (fun h => by rw [hret] at h; cases h) hlocks (fun fs hr => retOut X hx hret hn (Or.inr (Or.inr (Or.inr (Or.inr ⟨rfl, ht, hw⟩)))) hd hr) hc hs hQ
theorem g_ret0 {Qf : Option Value → Heap → List Loc → Prop} {kc ks : Nat} (X : Stand p l e R s m args below meth c T locs cells slots) (hx : p.tables.exec = Jvm.exec) (hret : meth.sig.returnType = none) (hlocks : meth.locks = false) (hd : decode c.code pc = .ok (.return_, 1)) (hc : cells ≤ kc) (hs : slots ≤ ks)
    (hQ : Qf none T.heap locs) : Go p e below (Qend s Qf kc ks) T (mkF m pc Ls []) :=
  own_end X hx _ (fun _ => rfl) hlocks (fun fs hr => X.returnOut hx hret hd hr) hc hs hQ
/-- from a body's first row -/
theorem own_start {y : MethodName} {bytes : ByteArray} {maxL : Nat} {ret : Option FieldType} {ws : List Jvm.Cond} {rm : Room} {as' : Array Value} {Z : State} {h0 : Heap} {Qf : Option Value → Heap → List Loc → Prop} (hp : plainFor y = true)
    (body : ∀ (p : Program) (e : Env) (s : State) (m : MethodId) (below : List Frame) (meth : Method) (c : Code) (T : State), Stand p l e rm s m as' below meth c T [] 0 0 → p.tables.exec = Jvm.exec → c.code = bytes → c.maxLocals = maxL → s.vm.findClass y.cls = some m.cls →
      meth.name = y.name → meth.sig.returnType = ret → meth.locks = false → Z.Warmed39 s.vm → T.heap = h0 → Go p e below (Qend s Qf rm.cells rm.slots) T (entryFrame m as' maxL)) :
    MetFree l y (head1 (Jvm.Cond.code y bytes maxL ret :: ws) rm) (fun a U => a = as' ∧ Z.Warmed39 U.vm ∧ U.heap = h0) (fun _ _ _ _ _ => True) (fun _ U o U' => ∃ v L, o = .returned v ∧ Qf v U'.heap L ∧ FrameEnd U o U' L rm.cells rm.slots) := by
  refine MetFree.of_bodySF hp hisR ?_
  intro p e s m args below meth c s₁ Bd hml0 hP hK
  obtain ⟨rfl, hZ, hh⟩ := hP
  exact body p e s m below meth c s₁ (Stand.of_body Bd) Bd.exec Bd.bytes hml0 (findClass_of_methodNamed Bd.named) (name_of_methodNamed Bd.named Bd.method).1 Bd.returns Bd.notSynchronized hZ (by rw [← hh, Bd.state]; rfl)
/-- a static call, paid by the callee's own contract -/
theorem g_callS (X : Stand p l e R s m args below meth c T locs cells slots) (hx : p.tables.exec = Jvm.exec) {Z : State} {a0 : Array Value} (hZ : Z.Warmed39 s.vm) {own : String} {index : Nat} {y : MethodName} {bytes : ByteArray} {maxL : Nat} {ret' : Option FieldType} {rm : Room} {Qc : Option Value → Heap → List Loc → Prop} {h : Heap} (pc' : Nat) (argsL : List Value) (rest : List Value) (W : Nat)
    (hown : s.vm.findClass own = some m.cls) (w1 : (Jvm.Cond.methodLink own index y).before a0 Z = true) (w2 : (Jvm.Cond.static y).before a0 Z = true) (w3 : (Jvm.Cond.initialized y.cls).before a0 Z = true) (w4 : (Jvm.Cond.code y bytes maxL ret').before a0 Z = true) (hy : y.cls ≠ "java/lang/invoke/MethodHandle" ∧ y.cls ≠ "java/lang/invoke/VarHandle")
    (eT : T.heap = h)
    (hM : MetFree l y (head1 [Jvm.Cond.code y bytes maxL ret'] rm) (fun a U => a = argsL.toArray ∧ Z.Warmed39 U.vm ∧ U.heap = h) (fun _ _ _ _ _ => True) (fun _ U o U' => ∃ v L, o = .returned v ∧ Qc v U'.heap L ∧ FrameEnd U o U' L rm.cells rm.slots))
    (hf : rm.frames + 1 ≤ R.frames) (hl : W + (maxL + 11) + rm.locals ≤ R.locals) (hcl : cells + rm.cells ≤ R.cells) (hsl : slots + rm.slots ≤ R.slots)
    (hsize : Ls.size = c.maxLocals) {st : List Value} (hstack : st = argsL.reverse ++ rest) {ps : List FieldType} {r : Option FieldType} (hdesc : parseMethodDescriptor y.desc = some ⟨ps, r⟩) (hlen : argsL.length = ps.length) (hW : (rest.map fun v => v.category).sum ≤ W) (hd : decode c.code pc = .ok (.invokestatic index, 3)) (hp : pc + 3 = pc')
    (k : ∀ (v : Option Value) (T' : State) (L : List Loc), Stand p l e R s m args below meth c T' (locs ++ L) (cells + rm.cells) (slots + rm.slots) → Qc v T'.heap L → Go p e below Q T' (mkF m pc' Ls (v.toList ++ rest))) : Go p e below Q T (mkF m pc Ls st) := by
  subst hp hstack
  obtain ⟨v, _, ⟨T', L', k', n'⟩, -, X', ⟨L, hQ, l1, y1, z1⟩, st⟩ := Jvm.LawKit.callS X hx (y := y) hown (mvT hZ w1) (mvT hZ w2) (mvT hZ w3) (mvT hZ w4) hy (backOf (W := W) hM hZ w4 w3 hf hl) (g := mkF m pc Ls (argsL.reverse ++ rest)) rfl hsize (argsL := argsL) (rest := rest) (lenOf hdesc hlen) rfl (by show 2 * 0 + _ ≤ _; omega) hd (fun _ _ => ⟨rfl, eT, hcl, hsl⟩)
  dsimp only [Pt.U, Pt.locs, Pt.cells, Pt.slots] at X' l1 y1 z1 st hQ
  subst l1 y1 z1
  exact Go.step (fun t k => st _ k) (k v T' L X' hQ)
end OwnWalk
section OwnArr
variable {p : Program} {l : Launch} {e : Env} {R : Room} {s : State} {m : MethodId} {args : Array Value} {below : List Frame} {meth : Method} {c : Code} {T : State} {locs : List Loc} {cells slots : Nat} {Q : Outcome → State → Prop} {pc : Nat} {Ls : Array Slot} {rest : List Value} {Z : State} {a0 : Array Value} {h h' : Heap} {a b : Addr} {ty : FieldType} {n : Nat} {f f' : Nat → Value} {ws : List Addr} {sl : Nat} {v : Value}
/-- in heap h the array at a has n places; place i holds f i -/
def AV (Z : State) (h : Heap) (a : Addr) (ty : FieldType) (n : Nat) (f : Nat → Value) : Prop := ∃ c : Cell, Arr Z h a c ty ∧ c.slots.size = n ∧ ∀ i, i < n → c.slots[i]? = some (f i)
theorem AV.lt (F : AV Z h a ty n f) : a < h.size := by obtain ⟨c, A, -⟩ := F; exact A.lt
theorem AV.ext (F : AV Z h a ty n f) (E : Ext h h') : AV Z h' a ty n f := by obtain ⟨c, A, r⟩ := F; exact ⟨c, A.ext E, r⟩
theorem AV.keep (F : AV Z h a ty n f) (K : Keep h h' ws) (q : a ∉ ws) : AV Z h' a ty n f := by obtain ⟨c, A, r⟩ := F; exact ⟨c, ⟨K.2.1 a c A.1 q, A.2⟩, r⟩
theorem AV.other (F : AV Z h b ty n f) (W : Wr h h' a sl v) (q : b ≠ a) : AV Z h' b ty n f := by obtain ⟨c, A, r⟩ := F; exact ⟨c, A.other W q, r⟩
theorem AV.set (F : AV Z h a ty n f) (W : Wr h h' a sl v) : AV Z h' a ty n (fun i => if i = sl then v else f i) := by
  obtain ⟨c, A, S, H⟩ := F
  refine ⟨c.setSlot sl v, A.same W, by rw [sz_set]; exact S, fun i hi => ?_⟩
  by_cases q : i = sl
  · subst q
    simp [Cell.setSlot, S, hi]
  · show (c.slots.setIfInBounds sl v)[i]? = some (if i = sl then v else f i)
    rw [Array.getElem?_setIfInBounds_ne (Ne.symm q), if_neg q]
    exact H i hi
theorem AV.congr (F : AV Z h a ty n f) (q : ∀ i, i < n → f i = f' i) : AV Z h a ty n f' := by obtain ⟨c, A, S, H⟩ := F; exact ⟨c, A, S, fun i hi => by rw [← q i hi]; exact H i hi⟩
theorem own_ix {j : Int32} {i : Nat} (hi : j.toInt = i) : j.toNatClampNeg = i := by show j.toInt.toNat = i; omega
theorem own_nn {j : Int32} {i : Nat} (hi : j.toInt = i) : ¬ j < 0 := by rw [Int32.lt_iff_toInt_lt, hi]; show ¬ (i : Int) < 0; omega
theorem own_in {c : Cell} {j : Int32} {i : Nat} (S : c.slots.size = n) (hi : j.toInt = i) (hin : i < n) : ¬ (j < 0 ∨ c.slots.size ≤ j.toNatClampNeg) := by
  rw [own_ix hi, S]; exact fun q => q.elim (own_nn hi) (fun q => by omega)
theorem g_newarr (X : Stand p l e R s m args below meth c T locs cells slots) (hx : p.tables.exec = Jvm.exec) (hZ : Z.Warmed39 s.vm) {aty : ArrayType} (pc' : Nat) (w : (Jvm.Cond.arrayClass (newarray.typeOf aty)).before a0 Z = true) (eT : T.heap = h) {z : Int32} (hd : decode c.code pc = .ok (.newarray aty, 2)) (nn : Nat) (hn : z.toInt = nn) (cap : Nat) (hcap : nn ≤ cap) (hb8 : cap * 8 ≤ 536870912) (hc : cells + 1 ≤ R.cells) (hl : slots + cap ≤ R.slots) (hp : pc + 2 = pc')
    (k : ∀ (T' : State) (a : Addr), Stand p l e R s m args below meth c T' locs (cells + 1) (slots + cap) → Ext h T'.heap → a = h.size → AV Z T'.heap a (newarray.typeOf aty) nn (fun _ => defaultValue (newarray.typeOf aty)) → Go p e below Q T' (mkF m pc' Ls (.ref a :: rest))) : Go p e below Q T (mkF m pc Ls (.int z :: rest)) := by
  subst hp
  obtain ⟨T', h', cA, X', e', E, A, st⟩ := newP X hx hZ w eT (g := mkF m pc Ls (.int z :: rest)) rfl hd rfl (own_nn hn) (cap := cap) (by rw [own_ix hn]; exact hcap) hb8 hc hl
  subst e'
  refine Go.step (fun t k => st t k) (k T' _ X' E rfl ⟨_, A, by rw [sz_new, own_ix hn], fun i hi => ?_⟩)
  simp [newA, own_ix hn, hi]
theorem g_arrlen (X : Stand p l e R s m args below meth c T locs cells slots) (hx : p.tables.exec = Jvm.exec) (hZ : Z.Warmed39 s.vm) (pc' : Nat) (eT : T.heap = h) (F : AV Z h a ty n f) (z : Int32) (hz : z.toInt = n) (hd : decode c.code pc = .ok (.arraylength, 1)) (hp : pc + 1 = pc')
    (k : Go p e below Q T (mkF m pc' Ls (.int z :: rest))) : Go p e below Q T (mkF m pc Ls (.ref a :: rest)) := by
  subst hp
  obtain ⟨cl, A, S, H⟩ := F
  have q : cl.slots.size.toInt32 = z := len_of (by rw [own_ix hz]; exact S) (own_nn hz)
  rw [← q] at k
  have st := X.arraylength hx (cell := cl) (ty := ty) (by rw [eT]; exact A.1) (State.isArrayOf_alike hZ.alike A.2.1) (g := mkF m pc Ls (.ref a :: rest)) rfl rfl hd
  exact Go.step (fun t k => st t k) k
theorem g_bastore (X : Stand p l e R s m args below meth c T locs cells slots) (hx : p.tables.exec = Jvm.exec) (hZ : Z.Warmed39 s.vm) (pc' : Nat) (eT : T.heap = h) (F : AV Z h a .byte n f) {j : Int32} {x : Int32} (hd : decode c.code pc = .ok (.bastore, 1)) (i : Nat) (hi : j.toInt = i) (hin : i < n) (hp : pc + 1 = pc')
    (k : ∀ (T' : State), Stand p l e R s m args below meth c T' (locs ++ [⟨a, i⟩]) cells slots → Wr h T'.heap a i (.int (nar .byte x)) → AV Z T'.heap a .byte n (fun q => if q = i then .int (nar .byte x) else f q) → Go p e below Q T' (mkF m pc' Ls rest)) : Go p e below Q T (mkF m pc Ls (.int x :: .int j :: .ref a :: rest)) := by
  subst hp
  obtain ⟨cl, A, S, H⟩ := F
  obtain ⟨T', h', X', e', W, st⟩ := stB X hx hZ eT A (own_in S hi hin) (g := mkF m pc Ls (.int x :: .int j :: .ref a :: rest)) rfl rfl hd
  subst e'
  rw [own_ix hi] at X' W
  exact Go.step (fun t k => st t k) (k T' X' W (AV.set ⟨cl, A, S, H⟩ W))
theorem g_iastore (X : Stand p l e R s m args below meth c T locs cells slots) (hx : p.tables.exec = Jvm.exec) (hZ : Z.Warmed39 s.vm) (pc' : Nat) (eT : T.heap = h) (F : AV Z h a .int n f) {j : Int32} {x : Int32} (hd : decode c.code pc = .ok (.iastore, 1)) (i : Nat) (hi : j.toInt = i) (hin : i < n) (hp : pc + 1 = pc')
    (k : ∀ (T' : State), Stand p l e R s m args below meth c T' (locs ++ [⟨a, i⟩]) cells slots → Wr h T'.heap a i (.int x) → AV Z T'.heap a .int n (fun q => if q = i then .int x else f q) → Go p e below Q T' (mkF m pc' Ls rest)) : Go p e below Q T (mkF m pc Ls (.int x :: .int j :: .ref a :: rest)) := by
  subst hp
  obtain ⟨cl, A, S, H⟩ := F
  obtain ⟨T', h', X', e', W, st⟩ := stI X hx hZ eT A (own_in S hi hin) (g := mkF m pc Ls (.int x :: .int j :: .ref a :: rest)) rfl rfl hd
  subst e'
  rw [own_ix hi] at X' W
  exact Go.step (fun t k => st t k) (k T' X' W (AV.set ⟨cl, A, S, H⟩ W))
theorem g_lastore (X : Stand p l e R s m args below meth c T locs cells slots) (hx : p.tables.exec = Jvm.exec) (hZ : Z.Warmed39 s.vm) (pc' : Nat) (eT : T.heap = h) (F : AV Z h a .long n f) {j : Int32} {x : Int64} (hd : decode c.code pc = .ok (.lastore, 1)) (i : Nat) (hi : j.toInt = i) (hin : i < n) (hp : pc + 1 = pc')
    (k : ∀ (T' : State), Stand p l e R s m args below meth c T' (locs ++ [⟨a, i⟩]) cells slots → Wr h T'.heap a i (.long x) → AV Z T'.heap a .long n (fun q => if q = i then .long x else f q) → Go p e below Q T' (mkF m pc' Ls rest)) : Go p e below Q T (mkF m pc Ls (.long x :: .int j :: .ref a :: rest)) := by
  subst hp
  obtain ⟨cl, A, S, H⟩ := F
  obtain ⟨T', h', X', e', W, st⟩ := stJ X hx hZ eT A (own_in S hi hin) (g := mkF m pc Ls (.long x :: .int j :: .ref a :: rest)) rfl rfl hd
  subst e'
  rw [own_ix hi] at X' W
  exact Go.step (fun t k => st t k) (k T' X' W (AV.set ⟨cl, A, S, H⟩ W))
theorem g_baload (X : Stand p l e R s m args below meth c T locs cells slots) (hx : p.tables.exec = Jvm.exec) (hZ : Z.Warmed39 s.vm) (pc' : Nat) (eT : T.heap = h) (F : AV Z h a .byte n f) {j : Int32} (hd : decode c.code pc = .ok (.baload, 1)) (i : Nat) (hi : j.toInt = i) (hin : i < n) (v : Value) (hv : f i = v) (hp : pc + 1 = pc')
    (k : Go p e below Q T (mkF m pc' Ls (v :: rest))) : Go p e below Q T (mkF m pc Ls (.int j :: .ref a :: rest)) := by
  subst hp hv
  obtain ⟨cl, A, S, H⟩ := F
  have st := X.baloadBytes hx (cell := cl) (j := j) (v := f i) (by rw [eT]; exact A.1) (State.isArrayOf_alike hZ.alike A.2.1) A.2.2 (own_in S hi hin) (by rw [own_ix hi]; exact H i hin) (g := mkF m pc Ls (.int j :: .ref a :: rest)) rfl rfl hd
  exact Go.step (fun t k => st t k) k
theorem g_iaload (X : Stand p l e R s m args below meth c T locs cells slots) (hx : p.tables.exec = Jvm.exec) (hZ : Z.Warmed39 s.vm) (pc' : Nat) (eT : T.heap = h) (F : AV Z h a .int n f) {j : Int32} (hd : decode c.code pc = .ok (.iaload, 1)) (i : Nat) (hi : j.toInt = i) (hin : i < n) (v : Value) (hv : f i = v) (hp : pc + 1 = pc')
    (k : Go p e below Q T (mkF m pc' Ls (v :: rest))) : Go p e below Q T (mkF m pc Ls (.int j :: .ref a :: rest)) := by
  subst hp hv
  obtain ⟨cl, A, S, H⟩ := F
  have st := X.iaload hx (cell := cl) (j := j) (v := f i) (by rw [eT]; exact A.1) (State.isArrayOf_alike hZ.alike A.2.1) A.2.2 (own_in S hi hin) (by rw [own_ix hi]; exact H i hin) (g := mkF m pc Ls (.int j :: .ref a :: rest)) rfl rfl hd
  exact Go.step (fun t k => st t k) k
theorem g_laload (X : Stand p l e R s m args below meth c T locs cells slots) (hx : p.tables.exec = Jvm.exec) (hZ : Z.Warmed39 s.vm) (pc' : Nat) (eT : T.heap = h) (F : AV Z h a .long n f) {j : Int32} (hd : decode c.code pc = .ok (.laload, 1)) (i : Nat) (hi : j.toInt = i) (hin : i < n) (v : Value) (hv : f i = v) (hp : pc + 1 = pc')
    (k : Go p e below Q T (mkF m pc' Ls (v :: rest))) : Go p e below Q T (mkF m pc Ls (.int j :: .ref a :: rest)) := by
  subst hp hv
  obtain ⟨cl, A, S, H⟩ := F
  have st := X.laload hx (cell := cl) (j := j) (v := f i) (by rw [eT]; exact A.1) (State.isArrayOf_alike hZ.alike A.2.1) A.2.2 (own_in S hi hin) (by rw [own_ix hi]; exact H i hin) (g := mkF m pc Ls (.int j :: .ref a :: rest)) rfl rfl hd
  exact Go.step (fun t k => st t k) k
end OwnArr
section OwnObj
variable {p : Program} {l : Launch} {e : Env} {R : Room} {s : State} {m : MethodId} {args : Array Value} {below : List Frame} {meth : Method} {c : Code} {T : State} {locs : List Loc} {cells slots : Nat} {Q : Outcome → State → Prop} {pc : Nat} {Ls : Array Slot} {rest : List Value} {Z : State} {a0 : Array Value} {h h' : Heap} {a : Addr} {v : Value} {own C O fn fd : String} {index kk : Nat}
theorem g_new (X : Stand p l e R s m args below meth c T locs cells slots) (hx : p.tables.exec = Jvm.exec) (hZ : Z.Warmed39 s.vm) (pc' : Nat) (hown : s.vm.findClass own = some m.cls) (w : (Jvm.Cond.classLink own index C).before a0 Z = true) (wi : (Jvm.Cond.instantiable C kk).before a0 Z = true) (wz : (Jvm.Cond.initialized C).before a0 Z = true) (eT : T.heap = h) (hd : decode c.code pc = .ok (.new index, 3)) (hc : cells + 1 ≤ R.cells) (hl : slots + kk ≤ R.slots) (hp : pc + 3 = pc')
    (k : ∀ (T' : State) (a : Addr), Stand p l e R s m args below meth c T' locs (cells + 1) (slots + kk) → Ext h T'.heap → a = h.size → Exa Z T'.heap a C → (∀ {O nm d : String} {ty : FieldType}, Laid Z a0 C O nm d → parseFieldDescriptor d = some ty → Fld Z T'.heap a O nm d (defaultValue ty)) → Go p e below Q T' (mkF m pc' Ls (.ref a :: rest))) : Go p e below Q T (mkF m pc Ls rest) := by
  subst hp
  obtain ⟨T', h', X', e', E, A, D, -, st⟩ := newO X hx hZ hown w wi wz eT (g := mkF m pc Ls rest) rfl hd hc hl
  subst e'
  exact Go.step (fun t k => st t k) (k T' _ X' E rfl A D)
theorem g_initO (X : Stand p l e R s m args below meth c T locs cells slots) (hx : p.tables.exec = Jvm.exec) (hZ : Z.Warmed39 s.vm) (pc' : Nat) (W : Nat) (hown : s.vm.findClass own = some m.cls) (w1 : (Jvm.Cond.methodLink own index Lib.objectInit).before a0 Z = true) (w2 : (Jvm.Cond.instanceMethod Lib.objectInit).before a0 Z = true) (w3 : (Jvm.Cond.code Lib.objectInit ⟨#[0xb1]⟩ 1 none).before a0 Z = true) (eT : T.heap = h) (hsize : Ls.size = c.maxLocals) (hd : decode c.code pc = .ok (.invokespecial index, 3)) (hf : 1 ≤ R.frames) (hW : (rest.map fun v => v.category).sum ≤ W) (hl : W + 12 ≤ R.locals) (hp : pc + 3 = pc')
    (k : ∀ (T' : State), Stand p l e R s m args below meth c T' locs cells slots → T'.heap = h → Go p e below Q T' (mkF m pc' Ls rest)) : Go p e below Q T (mkF m pc Ls (.ref a :: rest)) := by
  subst hp
  obtain ⟨T', X', e', st⟩ := initO X hx hZ hown w1 w2 w3 eT (g := mkF m pc Ls (.ref a :: rest)) rfl hsize rfl hd hf (W := W) (by show 2 * 0 + _ ≤ _; omega) hl
  exact Go.step (fun t k => st t k) (k T' X' e')
theorem g_putF (X : Stand p l e R s m args below meth c T locs cells slots) (hx : p.tables.exec = Jvm.exec) (hZ : Z.Warmed39 s.vm) (pc' : Nat) {ty : FieldType} {old : Value} (hown : s.vm.findClass own = some m.cls) (w : (Jvm.Cond.fieldLink own index O fn fd).before a0 Z = true) (eT : T.heap = h) (F : Fld Z h a O fn fd old) (E : Exa Z h a C) (L : (Jvm.Cond.lays C O fn fd).before a0 Z = true ∨ ((Jvm.Cond.laysFinal C O fn fd).before a0 Z = true ∧ own = O ∧ meth.name = "<init>")) (wi : (Jvm.Cond.instantiable C kk).before a0 Z = true)
    (hty : parseFieldDescriptor fd = some ty) (hn : narrow ty v = v) (hf : fits ty v = true) (hd : decode c.code pc = .ok (.putfield index, 3)) (hp : pc + 3 = pc')
    (k : ∀ (T' : State), Stand p l e R s m args below meth c T' (locs ++ [⟨a, Jvm.RoadKit.slotOf Z O fn fd⟩]) cells slots → Wr h T'.heap a (Jvm.RoadKit.slotOf Z O fn fd) v → Go p e below Q T' (mkF m pc' Ls rest)) : Go p e below Q T (mkF m pc Ls (v :: .ref a :: rest)) := by
  subst hp
  obtain ⟨T', h', X', e', W, st⟩ := putF X hx hZ hown (host := "") (Or.inl w) Via.refl eT F E L wi hty hn hf (g := mkF m pc Ls (v :: .ref a :: rest)) rfl rfl hd
  subst e'
  exact Go.step (fun t k => st t k) (k T' X' W)
theorem g_getF (X : Stand p l e R s m args below meth c T locs cells slots) (hx : p.tables.exec = Jvm.exec) (hZ : Z.Warmed39 s.vm) (pc' : Nat) (hown : s.vm.findClass own = some m.cls) (w : (Jvm.Cond.fieldLink own index O fn fd).before a0 Z = true) (eT : T.heap = h) (F : Fld Z h a O fn fd v) (hd : decode c.code pc = .ok (.getfield index, 3)) (hp : pc + 3 = pc')
    (k : ∀ (T' : State), Stand p l e R s m args below meth c T' locs cells slots → T'.heap = h → Go p e below Q T' (mkF m pc' Ls (v :: rest))) : Go p e below Q T (mkF m pc Ls (.ref a :: rest)) := by
  subst hp
  obtain ⟨T', X', e', st⟩ := getF X hx hZ hown (host := "") (Or.inl w) Via.refl eT F (g := mkF m pc Ls (.ref a :: rest)) rfl rfl hd
  exact Go.step (fun t k => st t k) (k T' X' e')
/-- a constructor, paid by its contract -/
theorem g_special (X : Stand p l e R s m args below meth c T locs cells slots) (hx : p.tables.exec = Jvm.exec) (hZ : Z.Warmed39 s.vm) {y : MethodName} {bytes : ByteArray} {maxL : Nat} {rm : Room} {Qc : Option Value → Heap → List Loc → Prop} (pc' : Nat) (a : Addr) (argsL : List Value) (rest : List Value) (W : Nat) (hy1 : y.name = "<init>")
    (hown : s.vm.findClass own = some m.cls) (w1 : (Jvm.Cond.methodLink own index y).before a0 Z = true) (w2 : (Jvm.Cond.instanceMethod y).before a0 Z = true) (w3 : (Jvm.Cond.initialized y.cls).before a0 Z = true) (w4 : (Jvm.Cond.code y bytes maxL none).before a0 Z = true) (hy : y.cls ≠ "java/lang/invoke/MethodHandle" ∧ y.cls ≠ "java/lang/invoke/VarHandle")
    (eT : T.heap = h)
    (hM : MetFree l y (head1 [Jvm.Cond.code y bytes maxL none] rm) (fun a' U => a' = (Value.ref a :: argsL).toArray ∧ Z.Warmed39 U.vm ∧ U.heap = h) (fun _ _ _ _ _ => True) (fun _ U o U' => ∃ v L, o = .returned v ∧ Qc v U'.heap L ∧ FrameEnd U o U' L rm.cells rm.slots))
    (hf : rm.frames + 1 ≤ R.frames) (hl : W + (maxL + 11) + rm.locals ≤ R.locals) (hcl : cells + rm.cells ≤ R.cells) (hsl : slots + rm.slots ≤ R.slots)
    (hsize : Ls.size = c.maxLocals) {st : List Value} (hstack : st = argsL.reverse ++ .ref a :: rest) {ps : List FieldType} {r : Option FieldType} (hdesc : parseMethodDescriptor y.desc = some ⟨ps, r⟩) (hlen : argsL.length = ps.length) (hW : (rest.map fun v => v.category).sum ≤ W) (hd : decode c.code pc = .ok (.invokespecial index, 3)) (hp : pc + 3 = pc')
    (k : ∀ (v : Option Value) (T' : State) (L : List Loc), Stand p l e R s m args below meth c T' (locs ++ L) (cells + rm.cells) (slots + rm.slots) → Qc v T'.heap L → Go p e below Q T' (mkF m pc' Ls (v.toList ++ rest))) : Go p e below Q T (mkF m pc Ls st) := by
  subst hp hstack
  obtain ⟨v, _, ⟨T', L', k', n'⟩, -, X', ⟨L, hQ, l1, y1, z1⟩, st⟩ := X.specialBack hx (y := y) hy1 hown (mvT hZ w1) (mvT hZ w2) (mvT hZ w4) hy (backOf (W := W) hM hZ w4 w3 hf hl) (g := mkF m pc Ls (argsL.reverse ++ .ref a :: rest)) rfl hsize (Steps.refl _) (a := a) (argsL := argsL) (rest := rest) (lenOf hdesc hlen) rfl (by show 2 * 0 + _ ≤ _; omega) hd (fun _ _ => ⟨rfl, eT, hcl, hsl⟩)
  dsimp only [Pt.U, Pt.locs, Pt.cells, Pt.slots] at X' l1 y1 z1 st hQ
  subst l1 y1 z1
  exact Go.step (fun t k => st.trans k) (k v T' L X' hQ)
/-- an instance method, paid by its contract -/
theorem g_virtual (X : Stand p l e R s m args below meth c T locs cells slots) (hx : p.tables.exec = Jvm.exec) (hZ : Z.Warmed39 s.vm) {y : MethodName} {bytes : ByteArray} {maxL : Nat} {ret' : Option FieldType} {rm : Room} {Qc : Option Value → Heap → List Loc → Prop} (pc' : Nat) (a : Addr) (argsL : List Value) (rest : List Value) (W : Nat) (E : Exa Z h a C)
    (hown : s.vm.findClass own = some m.cls) (w1 : (Jvm.Cond.methodLink own index y).before a0 Z = true) (w2 : (Jvm.Cond.declares y).before a0 Z = true) (w5 : (Jvm.Cond.selects C y y).before a0 Z = true) (w6 : (Jvm.Cond.instanceMethod y).before a0 Z = true) (w3 : (Jvm.Cond.initialized y.cls).before a0 Z = true) (w4 : (Jvm.Cond.code y bytes maxL ret').before a0 Z = true) (hy : y.cls ≠ "java/lang/invoke/MethodHandle" ∧ y.cls ≠ "java/lang/invoke/VarHandle")
    (eT : T.heap = h)
    (hM : MetFree l y (head1 [Jvm.Cond.code y bytes maxL ret'] rm) (fun a' U => a' = (Value.ref a :: argsL).toArray ∧ Z.Warmed39 U.vm ∧ U.heap = h) (fun _ _ _ _ _ => True) (fun _ U o U' => ∃ v L, o = .returned v ∧ Qc v U'.heap L ∧ FrameEnd U o U' L rm.cells rm.slots))
    (hf : rm.frames + 1 ≤ R.frames) (hl : W + (maxL + 11) + rm.locals ≤ R.locals) (hcl : cells + rm.cells ≤ R.cells) (hsl : slots + rm.slots ≤ R.slots)
    (hsize : Ls.size = c.maxLocals) {st : List Value} (hstack : st = argsL.reverse ++ .ref a :: rest) {ps : List FieldType} {r : Option FieldType} (hdesc : parseMethodDescriptor y.desc = some ⟨ps, r⟩) (hlen : argsL.length = ps.length) (hW : (rest.map fun v => v.category).sum ≤ W) (hd : decode c.code pc = .ok (.invokevirtual index, 3)) (hp : pc + 3 = pc')
    (k : ∀ (v : Option Value) (T' : State) (L : List Loc), Stand p l e R s m args below meth c T' (locs ++ L) (cells + rm.cells) (slots + rm.slots) → Qc v T'.heap L → Go p e below Q T' (mkF m pc' Ls (v.toList ++ rest))) : Go p e below Q T (mkF m pc Ls st) := by
  subst hp hstack
  obtain ⟨cB, kB, q1, q2, q3⟩ := isOf (T := T) hZ eT E
  obtain ⟨v, _, ⟨T', L', k', n'⟩, -, X', ⟨L, hQ, l1, y1, z1⟩, st⟩ := X.virtualBack hx (y := y) (z := y) hown (mvT hZ w1) (mvT hZ w2) (notFace_of_selects (args := #[]) (mvT hZ w5)) (mvT hZ w5) (mvT hZ w6) hy (backOf (W := W) hM hZ w4 w3 hf hl) q1 q3 (g := mkF m pc Ls (argsL.reverse ++ .ref a :: rest)) rfl hsize (Steps.refl _) (argsL := argsL) (rest := rest) (lenOf hdesc hlen) rfl (by show 2 * 0 + _ ≤ _; omega) hd (fun _ _ => ⟨rfl, eT, hcl, hsl⟩)
  dsimp only [Pt.U, Pt.locs, Pt.cells, Pt.slots] at X' l1 y1 z1 st hQ
  subst l1 y1 z1
  exact Go.step (fun t k => st.trans k) (k v T' L X' hQ)
end OwnObj

theorem d1_0 : decode prog_1_method_1_code 0 = .ok (.aload_n 0, 1) := by decide +kernel
theorem d1_1 : decode prog_1_method_1_code 1 = .ok (.invokespecial 1, 3) := by decide +kernel
theorem d1_4 : decode prog_1_method_1_code 4 = .ok (.aload_n 0, 1) := by decide +kernel
theorem d1_5 : decode prog_1_method_1_code 5 = .ok (.iload_n 1, 1) := by decide +kernel
theorem d1_6 : decode prog_1_method_1_code 6 = .ok (.putfield 7, 3) := by decide +kernel
theorem d1_9 : decode prog_1_method_1_code 9 = .ok (.aload_n 0, 1) := by decide +kernel
theorem d1_10 : decode prog_1_method_1_code 10 = .ok (.iload_n 2, 1) := by decide +kernel
theorem d1_11 : decode prog_1_method_1_code 11 = .ok (.putfield 13, 3) := by decide +kernel
theorem d1_14 : decode prog_1_method_1_code 14 = .ok (.aload_n 0, 1) := by decide +kernel
theorem d1_15 : decode prog_1_method_1_code 15 = .ok (.iload_n 3, 1) := by decide +kernel
theorem d1_16 : decode prog_1_method_1_code 16 = .ok (.putfield 16, 3) := by decide +kernel
theorem d1_19 : decode prog_1_method_1_code 19 = .ok (.aload_n 0, 1) := by decide +kernel
theorem d1_20 : decode prog_1_method_1_code 20 = .ok (.lload 4, 2) := by decide +kernel
theorem d1_22 : decode prog_1_method_1_code 22 = .ok (.putfield 19, 3) := by decide +kernel
theorem d1_25 : decode prog_1_method_1_code 25 = .ok (.aload_n 0, 1) := by decide +kernel
theorem d1_26 : decode prog_1_method_1_code 26 = .ok (.lload 6, 2) := by decide +kernel
theorem d1_28 : decode prog_1_method_1_code 28 = .ok (.putfield 23, 3) := by decide +kernel
theorem d1_31 : decode prog_1_method_1_code 31 = .ok (.aload_n 0, 1) := by decide +kernel
theorem d1_32 : decode prog_1_method_1_code 32 = .ok (.lload 8, 2) := by decide +kernel
theorem d1_34 : decode prog_1_method_1_code 34 = .ok (.putfield 26, 3) := by decide +kernel
theorem d1_37 : decode prog_1_method_1_code 37 = .ok (.return_, 1) := by decide +kernel
theorem d2_0 : decode jdk_30_method_1_code 0 = .ok (.aload_n 0, 1) := by decide +kernel
theorem d2_1 : decode jdk_30_method_1_code 1 = .ok (.invokespecial 1, 3) := by decide +kernel
theorem d2_4 : decode jdk_30_method_1_code 4 = .ok (.return_, 1) := by decide +kernel
theorem d4_0 : decode prog_1_method_5_code 0 = .ok (.aload_n 0, 1) := by decide +kernel
theorem d4_1 : decode prog_1_method_5_code 1 = .ok (.getfield 13, 3) := by decide +kernel
theorem d4_4 : decode prog_1_method_5_code 4 = .ok (.ifCond .ne 10, 3) := by decide +kernel
theorem d4_7 : decode prog_1_method_5_code 7 = .ok (.aload_n 1, 1) := by decide +kernel
theorem d4_8 : decode prog_1_method_5_code 8 = .ok (.getfield 23, 3) := by decide +kernel
theorem d4_11 : decode prog_1_method_5_code 11 = .ok (.goto 17, 3) := by decide +kernel
theorem d4_14 : decode prog_1_method_5_code 14 = .ok (.aload_n 0, 1) := by decide +kernel
theorem d4_15 : decode prog_1_method_5_code 15 = .ok (.getfield 13, 3) := by decide +kernel
theorem d4_18 : decode prog_1_method_5_code 18 = .ok (.iconst 1, 1) := by decide +kernel
theorem d4_19 : decode prog_1_method_5_code 19 = .ok (.if_icmp .ne 7, 3) := by decide +kernel
theorem d4_22 : decode prog_1_method_5_code 22 = .ok (.lload_n 2, 1) := by decide +kernel
theorem d4_23 : decode prog_1_method_5_code 23 = .ok (.goto 5, 3) := by decide +kernel
theorem d4_26 : decode prog_1_method_5_code 26 = .ok (.lload 4, 2) := by decide +kernel
theorem d4_28 : decode prog_1_method_5_code 28 = .ok (.lreturn, 1) := by decide +kernel
theorem pd_0 : parseMethodDescriptor "()V" = some ⟨[], none⟩ := by decide +kernel
theorem pd_1 : parseMethodDescriptor "(IIIJJJ)V" = some ⟨[.int, .int, .int, .long, .long, .long], none⟩ := by decide +kernel
theorem pd_2 : parseMethodDescriptor "(Lcom/example/layline/layline/internal/FixedCoordinates;JJ)J" = some ⟨[(.object "com/example/layline/layline/internal/FixedCoordinates"), .long, .long], some .long⟩ := by decide +kernel
theorem pn_0 : plainFor (⟨"java/lang/Record", "<init>", "()V"⟩ : MethodName) = true := by first | exact plainFor_of_name (by first | (simp [plainName, overriddenIn]; done) | decide +kernel) | decide +kernel
theorem pn_1 : plainFor (⟨"com/example/layline/layline/internal/FixedCoordinates", "<init>", "(IIIJJJ)V"⟩ : MethodName) = true := by first | exact plainFor_of_name (by first | (simp [plainName, overriddenIn]; done) | decide +kernel) | decide +kernel
theorem pn_2 : plainFor (⟨"com/example/layline/layline/internal/FixedCoordinates", "pathIndex0", "(Lcom/example/layline/layline/internal/FixedCoordinates;JJ)J"⟩ : MethodName) = true := by first | exact plainFor_of_name (by first | (simp [plainName, overriddenIn]; done) | decide +kernel) | decide +kernel
theorem pn_3 : plainFor x = true := by first | exact plainFor_of_name (by first | (simp [plainName, overriddenIn]; done) | decide +kernel) | decide +kernel
def QR (h0 : Heap) (n0 : Nat) (v : Option Value) (h : Heap) (L : List Loc) : Prop := v = none ∧ Fr n0 L ∧ h = h0
set_option maxRecDepth 65536 in
set_option maxHeartbeats 40000000 in
theorem rm2 (l : Launch) (Z : State) (a0 : Array Value) (hw : ∀ d ∈ tables_1, d.before a0 Z = true) (ws : List Jvm.Cond) (a : Addr) (h0 : Heap) (n0 : Nat) (Z0 : n0 ≤ h0.size)  :
    MetFree l (⟨"java/lang/Record", "<init>", "()V"⟩ : MethodName) (head1 (Jvm.Cond.code (⟨"java/lang/Record", "<init>", "()V"⟩ : MethodName) jdk_30_method_1_code 1 none :: ws) ({ frames := 1, cells := 0, slots := 0, locals := 12 } : Room)) (fun av_ U_ => av_ = #[(.ref a)] ∧ Z.Warmed39 U_.vm ∧ U_.heap = h0) (fun _ _ _ _ _ => True) (fun _ U_ o_ W_ => ∃ v_ L_, o_ = .returned v_ ∧ QR h0 n0 v_ W_.heap L_ ∧ FrameEnd U_ o_ W_ L_ ({ frames := 1, cells := 0, slots := 0, locals := 12 } : Room).cells ({ frames := 1, cells := 0, slots := 0, locals := 12 } : Room).slots) := by
  refine own_start pn_0 ?_
  intro p e s m below meth c T0 X0 hx hby hml hown hnm hret hlk hZ e0
  have N0 := Fr.nil n0
  have M0 := Z0
  refine Go.cast (show entryFrame m #[(.ref a)] 1 = (mkF m 0 #[.val (.ref a)] []) from (by first | (simp [entryFrame, mkF, argsToLocals, Value.category, maxLocals]; done) | rfl)) ?_
  refine g_aloadN X0 hx 1 (hb hby d2_0) rfl rfl rfl ?_
  refine g_initO X0 hx hZ 4 0 hown (hw _ (List.mem_of_getElem? (i := 14) rfl)) (hw _ (List.mem_of_getElem? (i := 15) rfl)) (hw _ (List.mem_of_getElem? (i := 16) rfl)) e0 (by rw [hml]; rfl) (hb hby d2_1) (by decide) (Nat.le_of_eq rfl) (by decide) rfl ?_
  intro T1 X1 e1
  have N1 := N0
  have M1 := M0
  refine g_ret0 X1 hx hret hlk (hb hby d2_4) (by decide) (by decide) ?_
  exact ⟨rfl, N1, e1⟩
def Q1 (Z : State) (a : Addr) (p : Int32) (q : Int64) (h0 : Heap) (n0 : Nat) (v : Option Value) (h : Heap) (L : List Loc) : Prop :=
  v = none ∧ Fr n0 L ∧ Keep h0 h [a] ∧ Exa Z h a "com/example/layline/layline/internal/FixedCoordinates" ∧ Fld Z h a "com/example/layline/layline/internal/FixedCoordinates" "index0From" "I" (.int p) ∧ Fld Z h a "com/example/layline/layline/internal/FixedCoordinates" "index0" "J" (.long q)
set_option maxRecDepth 65536 in
set_option maxHeartbeats 40000000 in
theorem rm1 (l : Launch) (Z : State) (a0 : Array Value) (hw : ∀ d ∈ tables_1, d.before a0 Z = true) (ws : List Jvm.Cond) (a : Addr) (p1 p2 p3 : Int32) (q1 q2 q3 : Int64) (h0 : Heap) (n0 : Nat) (Z0 : n0 ≤ h0.size) (E_a : Exa Z h0 a "com/example/layline/layline/internal/FixedCoordinates") (Z_a : n0 ≤ a) (f_a_baseFrom : Fld Z h0 a "com/example/layline/layline/internal/FixedCoordinates" "baseFrom" "I" (.int 0)) (f_a_index0From : Fld Z h0 a "com/example/layline/layline/internal/FixedCoordinates" "index0From" "I" (.int 0)) (f_a_index1From : Fld Z h0 a "com/example/layline/layline/internal/FixedCoordinates" "index1From" "I" (.int 0)) (f_a_base : Fld Z h0 a "com/example/layline/layline/internal/FixedCoordinates" "base" "J" (.long 0)) (f_a_index0 : Fld Z h0 a "com/example/layline/layline/internal/FixedCoordinates" "index0" "J" (.long 0)) (f_a_index1 : Fld Z h0 a "com/example/layline/layline/internal/FixedCoordinates" "index1" "J" (.long 0)) :
    MetFree l (⟨"com/example/layline/layline/internal/FixedCoordinates", "<init>", "(IIIJJJ)V"⟩ : MethodName) (head1 (Jvm.Cond.code (⟨"com/example/layline/layline/internal/FixedCoordinates", "<init>", "(IIIJJJ)V"⟩ : MethodName) prog_1_method_1_code 10 none :: ws) ({ frames := 2, cells := 0, slots := 0, locals := 24 } : Room)) (fun av_ U_ => av_ = #[(.ref a), (.int p1), (.int p2), (.int p3), (.long q1), (.long q2), (.long q3)] ∧ Z.Warmed39 U_.vm ∧ U_.heap = h0) (fun _ _ _ _ _ => True) (fun _ U_ o_ W_ => ∃ v_ L_, o_ = .returned v_ ∧ Q1 Z a p2 q2 h0 n0 v_ W_.heap L_ ∧ FrameEnd U_ o_ W_ L_ ({ frames := 2, cells := 0, slots := 0, locals := 24 } : Room).cells ({ frames := 2, cells := 0, slots := 0, locals := 24 } : Room).slots) := by
  refine own_start pn_1 ?_
  intro p e s m below meth c T0 X0 hx hby hml hown hnm hret hlk hZ e0
  have N0 := Fr.nil n0
  have M0 := Z0
  refine Go.cast (show entryFrame m #[(.ref a), (.int p1), (.int p2), (.int p3), (.long q1), (.long q2), (.long q3)] 10 = (mkF m 0 #[.val (.ref a), .val (.int p1), .val (.int p2), .val (.int p3), .val (.long q1), .second, .val (.long q2), .second, .val (.long q3), .second] []) from (by first | (simp [entryFrame, mkF, argsToLocals, Value.category, maxLocals]; done) | rfl)) ?_
  refine g_aloadN X0 hx 1 (hb hby d1_0) rfl rfl rfl ?_
  refine g_special X0 hx hZ 4 a [] [] 0 rfl hown (hw _ (List.mem_of_getElem? (i := 9) rfl)) (hw _ (List.mem_of_getElem? (i := 10) rfl)) (hw _ (List.mem_of_getElem? (i := 12) rfl)) (hw _ (List.mem_of_getElem? (i := 13) rfl)) (by decide) e0 (rm2 l Z a0 hw [] a h0 n0 Z0) (by decide) (by decide) (by decide) (by decide) (by rw [hml]; rfl) rfl pd_0 rfl (Nat.le_of_eq rfl) (hb hby d1_1) rfl ?_
  intro v1 T1 L1 X1 q1
  obtain ⟨rfl, Nq1, e1⟩ := q1
  have N1 := Fr.app N0 Nq1
  have M1 := M0
  refine g_aloadN X1 hx 5 (hb hby d1_4) rfl rfl rfl ?_
  refine g_iloadN X1 hx 6 (hb hby d1_5) rfl rfl ?_
  refine g_putF X1 hx hZ 9 (ty := .int) hown (hw _ (List.mem_of_getElem? (i := 17) rfl)) e1 f_a_baseFrom E_a (Or.inr ⟨(hw _ (List.mem_of_getElem? (i := 18) rfl)), rfl, hnm⟩) (hw _ (List.mem_of_getElem? (i := 2) rfl)) (by decide) rfl rfl (hb hby d1_6) rfl ?_
  intro T2 X2 W2
  have e2 : T2.heap = T2.heap := rfl
  have N2 := Fr.snoc X2 N1 Z_a
  have M2 : n0 ≤ T2.heap.size := by rw [W2.size]; exact M1
  replace E_a := E_a.wr W2
  replace f_a_baseFrom := f_a_baseFrom.same W2
  replace f_a_index0From := f_a_index0From.other W2 (Or.inr (slot_ne (t := .int) (t' := .int) (show Laid Z a0 "com/example/layline/layline/internal/FixedCoordinates" "com/example/layline/layline/internal/FixedCoordinates" "index0From" "I" from Or.inr (hw _ (List.mem_of_getElem? (i := 20) rfl))) (show Laid Z a0 "com/example/layline/layline/internal/FixedCoordinates" "com/example/layline/layline/internal/FixedCoordinates" "baseFrom" "I" from Or.inr (hw _ (List.mem_of_getElem? (i := 18) rfl))) (by decide) (by decide) (by decide)))
  replace f_a_index1From := f_a_index1From.other W2 (Or.inr (slot_ne (t := .int) (t' := .int) (show Laid Z a0 "com/example/layline/layline/internal/FixedCoordinates" "com/example/layline/layline/internal/FixedCoordinates" "index1From" "I" from Or.inr (hw _ (List.mem_of_getElem? (i := 22) rfl))) (show Laid Z a0 "com/example/layline/layline/internal/FixedCoordinates" "com/example/layline/layline/internal/FixedCoordinates" "baseFrom" "I" from Or.inr (hw _ (List.mem_of_getElem? (i := 18) rfl))) (by decide) (by decide) (by decide)))
  replace f_a_base := f_a_base.other W2 (Or.inr (slot_ne (t := .long) (t' := .int) (show Laid Z a0 "com/example/layline/layline/internal/FixedCoordinates" "com/example/layline/layline/internal/FixedCoordinates" "base" "J" from Or.inr (hw _ (List.mem_of_getElem? (i := 24) rfl))) (show Laid Z a0 "com/example/layline/layline/internal/FixedCoordinates" "com/example/layline/layline/internal/FixedCoordinates" "baseFrom" "I" from Or.inr (hw _ (List.mem_of_getElem? (i := 18) rfl))) (by decide) (by decide) (by decide)))
  replace f_a_index0 := f_a_index0.other W2 (Or.inr (slot_ne (t := .long) (t' := .int) (show Laid Z a0 "com/example/layline/layline/internal/FixedCoordinates" "com/example/layline/layline/internal/FixedCoordinates" "index0" "J" from Or.inr (hw _ (List.mem_of_getElem? (i := 26) rfl))) (show Laid Z a0 "com/example/layline/layline/internal/FixedCoordinates" "com/example/layline/layline/internal/FixedCoordinates" "baseFrom" "I" from Or.inr (hw _ (List.mem_of_getElem? (i := 18) rfl))) (by decide) (by decide) (by decide)))
  replace f_a_index1 := f_a_index1.other W2 (Or.inr (slot_ne (t := .long) (t' := .int) (show Laid Z a0 "com/example/layline/layline/internal/FixedCoordinates" "com/example/layline/layline/internal/FixedCoordinates" "index1" "J" from Or.inr (hw _ (List.mem_of_getElem? (i := 28) rfl))) (show Laid Z a0 "com/example/layline/layline/internal/FixedCoordinates" "com/example/layline/layline/internal/FixedCoordinates" "baseFrom" "I" from Or.inr (hw _ (List.mem_of_getElem? (i := 18) rfl))) (by decide) (by decide) (by decide)))
  refine g_aloadN X2 hx 10 (hb hby d1_9) rfl rfl rfl ?_
  refine g_iloadN X2 hx 11 (hb hby d1_10) rfl rfl ?_
  refine g_putF X2 hx hZ 14 (ty := .int) hown (hw _ (List.mem_of_getElem? (i := 19) rfl)) e2 f_a_index0From E_a (Or.inr ⟨(hw _ (List.mem_of_getElem? (i := 20) rfl)), rfl, hnm⟩) (hw _ (List.mem_of_getElem? (i := 2) rfl)) (by decide) rfl rfl (hb hby d1_11) rfl ?_
  intro T3 X3 W3
  have e3 : T3.heap = T3.heap := rfl
  have N3 := Fr.snoc X3 N2 Z_a
  have M3 : n0 ≤ T3.heap.size := by rw [W3.size]; exact M2
  replace E_a := E_a.wr W3
  replace f_a_baseFrom := f_a_baseFrom.other W3 (Or.inr (slot_ne (t := .int) (t' := .int) (show Laid Z a0 "com/example/layline/layline/internal/FixedCoordinates" "com/example/layline/layline/internal/FixedCoordinates" "baseFrom" "I" from Or.inr (hw _ (List.mem_of_getElem? (i := 18) rfl))) (show Laid Z a0 "com/example/layline/layline/internal/FixedCoordinates" "com/example/layline/layline/internal/FixedCoordinates" "index0From" "I" from Or.inr (hw _ (List.mem_of_getElem? (i := 20) rfl))) (by decide) (by decide) (by decide)))
  replace f_a_index0From := f_a_index0From.same W3
  replace f_a_index1From := f_a_index1From.other W3 (Or.inr (slot_ne (t := .int) (t' := .int) (show Laid Z a0 "com/example/layline/layline/internal/FixedCoordinates" "com/example/layline/layline/internal/FixedCoordinates" "index1From" "I" from Or.inr (hw _ (List.mem_of_getElem? (i := 22) rfl))) (show Laid Z a0 "com/example/layline/layline/internal/FixedCoordinates" "com/example/layline/layline/internal/FixedCoordinates" "index0From" "I" from Or.inr (hw _ (List.mem_of_getElem? (i := 20) rfl))) (by decide) (by decide) (by decide)))
  replace f_a_base := f_a_base.other W3 (Or.inr (slot_ne (t := .long) (t' := .int) (show Laid Z a0 "com/example/layline/layline/internal/FixedCoordinates" "com/example/layline/layline/internal/FixedCoordinates" "base" "J" from Or.inr (hw _ (List.mem_of_getElem? (i := 24) rfl))) (show Laid Z a0 "com/example/layline/layline/internal/FixedCoordinates" "com/example/layline/layline/internal/FixedCoordinates" "index0From" "I" from Or.inr (hw _ (List.mem_of_getElem? (i := 20) rfl))) (by decide) (by decide) (by decide)))
  replace f_a_index0 := f_a_index0.other W3 (Or.inr (slot_ne (t := .long) (t' := .int) (show Laid Z a0 "com/example/layline/layline/internal/FixedCoordinates" "com/example/layline/layline/internal/FixedCoordinates" "index0" "J" from Or.inr (hw _ (List.mem_of_getElem? (i := 26) rfl))) (show Laid Z a0 "com/example/layline/layline/internal/FixedCoordinates" "com/example/layline/layline/internal/FixedCoordinates" "index0From" "I" from Or.inr (hw _ (List.mem_of_getElem? (i := 20) rfl))) (by decide) (by decide) (by decide)))
  replace f_a_index1 := f_a_index1.other W3 (Or.inr (slot_ne (t := .long) (t' := .int) (show Laid Z a0 "com/example/layline/layline/internal/FixedCoordinates" "com/example/layline/layline/internal/FixedCoordinates" "index1" "J" from Or.inr (hw _ (List.mem_of_getElem? (i := 28) rfl))) (show Laid Z a0 "com/example/layline/layline/internal/FixedCoordinates" "com/example/layline/layline/internal/FixedCoordinates" "index0From" "I" from Or.inr (hw _ (List.mem_of_getElem? (i := 20) rfl))) (by decide) (by decide) (by decide)))
  refine g_aloadN X3 hx 15 (hb hby d1_14) rfl rfl rfl ?_
  refine g_iloadN X3 hx 16 (hb hby d1_15) rfl rfl ?_
  refine g_putF X3 hx hZ 19 (ty := .int) hown (hw _ (List.mem_of_getElem? (i := 21) rfl)) e3 f_a_index1From E_a (Or.inr ⟨(hw _ (List.mem_of_getElem? (i := 22) rfl)), rfl, hnm⟩) (hw _ (List.mem_of_getElem? (i := 2) rfl)) (by decide) rfl rfl (hb hby d1_16) rfl ?_
  intro T4 X4 W4
  have e4 : T4.heap = T4.heap := rfl
  have N4 := Fr.snoc X4 N3 Z_a
  have M4 : n0 ≤ T4.heap.size := by rw [W4.size]; exact M3
  replace E_a := E_a.wr W4
  replace f_a_baseFrom := f_a_baseFrom.other W4 (Or.inr (slot_ne (t := .int) (t' := .int) (show Laid Z a0 "com/example/layline/layline/internal/FixedCoordinates" "com/example/layline/layline/internal/FixedCoordinates" "baseFrom" "I" from Or.inr (hw _ (List.mem_of_getElem? (i := 18) rfl))) (show Laid Z a0 "com/example/layline/layline/internal/FixedCoordinates" "com/example/layline/layline/internal/FixedCoordinates" "index1From" "I" from Or.inr (hw _ (List.mem_of_getElem? (i := 22) rfl))) (by decide) (by decide) (by decide)))
  replace f_a_index0From := f_a_index0From.other W4 (Or.inr (slot_ne (t := .int) (t' := .int) (show Laid Z a0 "com/example/layline/layline/internal/FixedCoordinates" "com/example/layline/layline/internal/FixedCoordinates" "index0From" "I" from Or.inr (hw _ (List.mem_of_getElem? (i := 20) rfl))) (show Laid Z a0 "com/example/layline/layline/internal/FixedCoordinates" "com/example/layline/layline/internal/FixedCoordinates" "index1From" "I" from Or.inr (hw _ (List.mem_of_getElem? (i := 22) rfl))) (by decide) (by decide) (by decide)))
  replace f_a_index1From := f_a_index1From.same W4
  replace f_a_base := f_a_base.other W4 (Or.inr (slot_ne (t := .long) (t' := .int) (show Laid Z a0 "com/example/layline/layline/internal/FixedCoordinates" "com/example/layline/layline/internal/FixedCoordinates" "base" "J" from Or.inr (hw _ (List.mem_of_getElem? (i := 24) rfl))) (show Laid Z a0 "com/example/layline/layline/internal/FixedCoordinates" "com/example/layline/layline/internal/FixedCoordinates" "index1From" "I" from Or.inr (hw _ (List.mem_of_getElem? (i := 22) rfl))) (by decide) (by decide) (by decide)))
  replace f_a_index0 := f_a_index0.other W4 (Or.inr (slot_ne (t := .long) (t' := .int) (show Laid Z a0 "com/example/layline/layline/internal/FixedCoordinates" "com/example/layline/layline/internal/FixedCoordinates" "index0" "J" from Or.inr (hw _ (List.mem_of_getElem? (i := 26) rfl))) (show Laid Z a0 "com/example/layline/layline/internal/FixedCoordinates" "com/example/layline/layline/internal/FixedCoordinates" "index1From" "I" from Or.inr (hw _ (List.mem_of_getElem? (i := 22) rfl))) (by decide) (by decide) (by decide)))
  replace f_a_index1 := f_a_index1.other W4 (Or.inr (slot_ne (t := .long) (t' := .int) (show Laid Z a0 "com/example/layline/layline/internal/FixedCoordinates" "com/example/layline/layline/internal/FixedCoordinates" "index1" "J" from Or.inr (hw _ (List.mem_of_getElem? (i := 28) rfl))) (show Laid Z a0 "com/example/layline/layline/internal/FixedCoordinates" "com/example/layline/layline/internal/FixedCoordinates" "index1From" "I" from Or.inr (hw _ (List.mem_of_getElem? (i := 22) rfl))) (by decide) (by decide) (by decide)))
  refine g_aloadN X4 hx 20 (hb hby d1_19) rfl rfl rfl ?_
  refine g_lload X4 hx 22 (hb hby d1_20) rfl rfl ?_
  refine g_putF X4 hx hZ 25 (ty := .long) hown (hw _ (List.mem_of_getElem? (i := 23) rfl)) e4 f_a_base E_a (Or.inr ⟨(hw _ (List.mem_of_getElem? (i := 24) rfl)), rfl, hnm⟩) (hw _ (List.mem_of_getElem? (i := 2) rfl)) (by decide) rfl rfl (hb hby d1_22) rfl ?_
  intro T5 X5 W5
  have e5 : T5.heap = T5.heap := rfl
  have N5 := Fr.snoc X5 N4 Z_a
  have M5 : n0 ≤ T5.heap.size := by rw [W5.size]; exact M4
  replace E_a := E_a.wr W5
  replace f_a_baseFrom := f_a_baseFrom.other W5 (Or.inr (slot_ne (t := .int) (t' := .long) (show Laid Z a0 "com/example/layline/layline/internal/FixedCoordinates" "com/example/layline/layline/internal/FixedCoordinates" "baseFrom" "I" from Or.inr (hw _ (List.mem_of_getElem? (i := 18) rfl))) (show Laid Z a0 "com/example/layline/layline/internal/FixedCoordinates" "com/example/layline/layline/internal/FixedCoordinates" "base" "J" from Or.inr (hw _ (List.mem_of_getElem? (i := 24) rfl))) (by decide) (by decide) (by decide)))
  replace f_a_index0From := f_a_index0From.other W5 (Or.inr (slot_ne (t := .int) (t' := .long) (show Laid Z a0 "com/example/layline/layline/internal/FixedCoordinates" "com/example/layline/layline/internal/FixedCoordinates" "index0From" "I" from Or.inr (hw _ (List.mem_of_getElem? (i := 20) rfl))) (show Laid Z a0 "com/example/layline/layline/internal/FixedCoordinates" "com/example/layline/layline/internal/FixedCoordinates" "base" "J" from Or.inr (hw _ (List.mem_of_getElem? (i := 24) rfl))) (by decide) (by decide) (by decide)))
  replace f_a_index1From := f_a_index1From.other W5 (Or.inr (slot_ne (t := .int) (t' := .long) (show Laid Z a0 "com/example/layline/layline/internal/FixedCoordinates" "com/example/layline/layline/internal/FixedCoordinates" "index1From" "I" from Or.inr (hw _ (List.mem_of_getElem? (i := 22) rfl))) (show Laid Z a0 "com/example/layline/layline/internal/FixedCoordinates" "com/example/layline/layline/internal/FixedCoordinates" "base" "J" from Or.inr (hw _ (List.mem_of_getElem? (i := 24) rfl))) (by decide) (by decide) (by decide)))
  replace f_a_base := f_a_base.same W5
  replace f_a_index0 := f_a_index0.other W5 (Or.inr (slot_ne (t := .long) (t' := .long) (show Laid Z a0 "com/example/layline/layline/internal/FixedCoordinates" "com/example/layline/layline/internal/FixedCoordinates" "index0" "J" from Or.inr (hw _ (List.mem_of_getElem? (i := 26) rfl))) (show Laid Z a0 "com/example/layline/layline/internal/FixedCoordinates" "com/example/layline/layline/internal/FixedCoordinates" "base" "J" from Or.inr (hw _ (List.mem_of_getElem? (i := 24) rfl))) (by decide) (by decide) (by decide)))
  replace f_a_index1 := f_a_index1.other W5 (Or.inr (slot_ne (t := .long) (t' := .long) (show Laid Z a0 "com/example/layline/layline/internal/FixedCoordinates" "com/example/layline/layline/internal/FixedCoordinates" "index1" "J" from Or.inr (hw _ (List.mem_of_getElem? (i := 28) rfl))) (show Laid Z a0 "com/example/layline/layline/internal/FixedCoordinates" "com/example/layline/layline/internal/FixedCoordinates" "base" "J" from Or.inr (hw _ (List.mem_of_getElem? (i := 24) rfl))) (by decide) (by decide) (by decide)))
  refine g_aloadN X5 hx 26 (hb hby d1_25) rfl rfl rfl ?_
  refine g_lload X5 hx 28 (hb hby d1_26) rfl rfl ?_
  refine g_putF X5 hx hZ 31 (ty := .long) hown (hw _ (List.mem_of_getElem? (i := 25) rfl)) e5 f_a_index0 E_a (Or.inr ⟨(hw _ (List.mem_of_getElem? (i := 26) rfl)), rfl, hnm⟩) (hw _ (List.mem_of_getElem? (i := 2) rfl)) (by decide) rfl rfl (hb hby d1_28) rfl ?_
  intro T6 X6 W6
  have e6 : T6.heap = T6.heap := rfl
  have N6 := Fr.snoc X6 N5 Z_a
  have M6 : n0 ≤ T6.heap.size := by rw [W6.size]; exact M5
  replace E_a := E_a.wr W6
  replace f_a_baseFrom := f_a_baseFrom.other W6 (Or.inr (slot_ne (t := .int) (t' := .long) (show Laid Z a0 "com/example/layline/layline/internal/FixedCoordinates" "com/example/layline/layline/internal/FixedCoordinates" "baseFrom" "I" from Or.inr (hw _ (List.mem_of_getElem? (i := 18) rfl))) (show Laid Z a0 "com/example/layline/layline/internal/FixedCoordinates" "com/example/layline/layline/internal/FixedCoordinates" "index0" "J" from Or.inr (hw _ (List.mem_of_getElem? (i := 26) rfl))) (by decide) (by decide) (by decide)))
  replace f_a_index0From := f_a_index0From.other W6 (Or.inr (slot_ne (t := .int) (t' := .long) (show Laid Z a0 "com/example/layline/layline/internal/FixedCoordinates" "com/example/layline/layline/internal/FixedCoordinates" "index0From" "I" from Or.inr (hw _ (List.mem_of_getElem? (i := 20) rfl))) (show Laid Z a0 "com/example/layline/layline/internal/FixedCoordinates" "com/example/layline/layline/internal/FixedCoordinates" "index0" "J" from Or.inr (hw _ (List.mem_of_getElem? (i := 26) rfl))) (by decide) (by decide) (by decide)))
  replace f_a_index1From := f_a_index1From.other W6 (Or.inr (slot_ne (t := .int) (t' := .long) (show Laid Z a0 "com/example/layline/layline/internal/FixedCoordinates" "com/example/layline/layline/internal/FixedCoordinates" "index1From" "I" from Or.inr (hw _ (List.mem_of_getElem? (i := 22) rfl))) (show Laid Z a0 "com/example/layline/layline/internal/FixedCoordinates" "com/example/layline/layline/internal/FixedCoordinates" "index0" "J" from Or.inr (hw _ (List.mem_of_getElem? (i := 26) rfl))) (by decide) (by decide) (by decide)))
  replace f_a_base := f_a_base.other W6 (Or.inr (slot_ne (t := .long) (t' := .long) (show Laid Z a0 "com/example/layline/layline/internal/FixedCoordinates" "com/example/layline/layline/internal/FixedCoordinates" "base" "J" from Or.inr (hw _ (List.mem_of_getElem? (i := 24) rfl))) (show Laid Z a0 "com/example/layline/layline/internal/FixedCoordinates" "com/example/layline/layline/internal/FixedCoordinates" "index0" "J" from Or.inr (hw _ (List.mem_of_getElem? (i := 26) rfl))) (by decide) (by decide) (by decide)))
  replace f_a_index0 := f_a_index0.same W6
  replace f_a_index1 := f_a_index1.other W6 (Or.inr (slot_ne (t := .long) (t' := .long) (show Laid Z a0 "com/example/layline/layline/internal/FixedCoordinates" "com/example/layline/layline/internal/FixedCoordinates" "index1" "J" from Or.inr (hw _ (List.mem_of_getElem? (i := 28) rfl))) (show Laid Z a0 "com/example/layline/layline/internal/FixedCoordinates" "com/example/layline/layline/internal/FixedCoordinates" "index0" "J" from Or.inr (hw _ (List.mem_of_getElem? (i := 26) rfl))) (by decide) (by decide) (by decide)))
  refine g_aloadN X6 hx 32 (hb hby d1_31) rfl rfl rfl ?_
  refine g_lload X6 hx 34 (hb hby d1_32) rfl rfl ?_
  refine g_putF X6 hx hZ 37 (ty := .long) hown (hw _ (List.mem_of_getElem? (i := 27) rfl)) e6 f_a_index1 E_a (Or.inr ⟨(hw _ (List.mem_of_getElem? (i := 28) rfl)), rfl, hnm⟩) (hw _ (List.mem_of_getElem? (i := 2) rfl)) (by decide) rfl rfl (hb hby d1_34) rfl ?_
  intro T7 X7 W7
  have e7 : T7.heap = T7.heap := rfl
  have N7 := Fr.snoc X7 N6 Z_a
  have M7 : n0 ≤ T7.heap.size := by rw [W7.size]; exact M6
  replace E_a := E_a.wr W7
  replace f_a_baseFrom := f_a_baseFrom.other W7 (Or.inr (slot_ne (t := .int) (t' := .long) (show Laid Z a0 "com/example/layline/layline/internal/FixedCoordinates" "com/example/layline/layline/internal/FixedCoordinates" "baseFrom" "I" from Or.inr (hw _ (List.mem_of_getElem? (i := 18) rfl))) (show Laid Z a0 "com/example/layline/layline/internal/FixedCoordinates" "com/example/layline/layline/internal/FixedCoordinates" "index1" "J" from Or.inr (hw _ (List.mem_of_getElem? (i := 28) rfl))) (by decide) (by decide) (by decide)))
  replace f_a_index0From := f_a_index0From.other W7 (Or.inr (slot_ne (t := .int) (t' := .long) (show Laid Z a0 "com/example/layline/layline/internal/FixedCoordinates" "com/example/layline/layline/internal/FixedCoordinates" "index0From" "I" from Or.inr (hw _ (List.mem_of_getElem? (i := 20) rfl))) (show Laid Z a0 "com/example/layline/layline/internal/FixedCoordinates" "com/example/layline/layline/internal/FixedCoordinates" "index1" "J" from Or.inr (hw _ (List.mem_of_getElem? (i := 28) rfl))) (by decide) (by decide) (by decide)))
  replace f_a_index1From := f_a_index1From.other W7 (Or.inr (slot_ne (t := .int) (t' := .long) (show Laid Z a0 "com/example/layline/layline/internal/FixedCoordinates" "com/example/layline/layline/internal/FixedCoordinates" "index1From" "I" from Or.inr (hw _ (List.mem_of_getElem? (i := 22) rfl))) (show Laid Z a0 "com/example/layline/layline/internal/FixedCoordinates" "com/example/layline/layline/internal/FixedCoordinates" "index1" "J" from Or.inr (hw _ (List.mem_of_getElem? (i := 28) rfl))) (by decide) (by decide) (by decide)))
  replace f_a_base := f_a_base.other W7 (Or.inr (slot_ne (t := .long) (t' := .long) (show Laid Z a0 "com/example/layline/layline/internal/FixedCoordinates" "com/example/layline/layline/internal/FixedCoordinates" "base" "J" from Or.inr (hw _ (List.mem_of_getElem? (i := 24) rfl))) (show Laid Z a0 "com/example/layline/layline/internal/FixedCoordinates" "com/example/layline/layline/internal/FixedCoordinates" "index1" "J" from Or.inr (hw _ (List.mem_of_getElem? (i := 28) rfl))) (by decide) (by decide) (by decide)))
  replace f_a_index0 := f_a_index0.other W7 (Or.inr (slot_ne (t := .long) (t' := .long) (show Laid Z a0 "com/example/layline/layline/internal/FixedCoordinates" "com/example/layline/layline/internal/FixedCoordinates" "index0" "J" from Or.inr (hw _ (List.mem_of_getElem? (i := 26) rfl))) (show Laid Z a0 "com/example/layline/layline/internal/FixedCoordinates" "com/example/layline/layline/internal/FixedCoordinates" "index1" "J" from Or.inr (hw _ (List.mem_of_getElem? (i := 28) rfl))) (by decide) (by decide) (by decide)))
  replace f_a_index1 := f_a_index1.same W7
  refine g_ret0 X7 hx hret hlk (hb hby d1_37) (by decide) (by decide) ?_
  exact ⟨rfl, N7, (((((((Keep.refl _ _).wr W2 (Or.inl (List.mem_of_getElem? (i := 0) rfl))).wr W3 (Or.inl (List.mem_of_getElem? (i := 0) rfl))).wr W4 (Or.inl (List.mem_of_getElem? (i := 0) rfl))).wr W5 (Or.inl (List.mem_of_getElem? (i := 0) rfl))).wr W6 (Or.inl (List.mem_of_getElem? (i := 0) rfl))).wr W7 (Or.inl (List.mem_of_getElem? (i := 0) rfl))), E_a, f_a_index0From, f_a_index0⟩
def fPI (p : Int32) (x y z : Int64) : Int64 := if p = 0 then x else if p = 1 then y else z
def Q4 (p : Int32) (x y z : Int64) (h0 : Heap) (n0 : Nat) (v : Option Value) (h : Heap) (L : List Loc) : Prop := v = some (.long (fPI p x y z)) ∧ Fr n0 L ∧ h = h0
set_option maxRecDepth 65536 in
set_option maxHeartbeats 40000000 in
theorem rm4 (l : Launch) (Z : State) (a0 : Array Value) (hw : ∀ d ∈ tables_1, d.before a0 Z = true) (ws : List Jvm.Cond) (a b : Addr) (pp : Int32) (x y z : Int64) (h0 : Heap) (n0 : Nat) (Z0 : n0 ≤ h0.size) (f_a_index0From : Fld Z h0 a "com/example/layline/layline/internal/FixedCoordinates" "index0From" "I" (.int pp)) (f_b_index0 : Fld Z h0 b "com/example/layline/layline/internal/FixedCoordinates" "index0" "J" (.long x)) :
    MetFree l (⟨"com/example/layline/layline/internal/FixedCoordinates", "pathIndex0", "(Lcom/example/layline/layline/internal/FixedCoordinates;JJ)J"⟩ : MethodName) (head1 (Jvm.Cond.code (⟨"com/example/layline/layline/internal/FixedCoordinates", "pathIndex0", "(Lcom/example/layline/layline/internal/FixedCoordinates;JJ)J"⟩ : MethodName) prog_1_method_5_code 6 (some .long) :: ws) ({ frames := 0, cells := 0, slots := 0, locals := 0 } : Room)) (fun av_ U_ => av_ = #[(.ref a), (.ref b), (.long y), (.long z)] ∧ Z.Warmed39 U_.vm ∧ U_.heap = h0) (fun _ _ _ _ _ => True) (fun _ U_ o_ W_ => ∃ v_ L_, o_ = .returned v_ ∧ Q4 pp x y z h0 n0 v_ W_.heap L_ ∧ FrameEnd U_ o_ W_ L_ ({ frames := 0, cells := 0, slots := 0, locals := 0 } : Room).cells ({ frames := 0, cells := 0, slots := 0, locals := 0 } : Room).slots) := by
  refine own_start pn_2 ?_
  intro p e s m below meth c T0 X0 hx hby hml hown hnm hret hlk hZ e0
  have N0 := Fr.nil n0
  have M0 := Z0
  refine Go.cast (show entryFrame m #[(.ref a), (.ref b), (.long y), (.long z)] 6 = (mkF m 0 #[.val (.ref a), .val (.ref b), .val (.long y), .second, .val (.long z), .second] []) from (by first | (simp [entryFrame, mkF, argsToLocals, Value.category, maxLocals]; done) | rfl)) ?_
  refine g_aloadN X0 hx 1 (hb hby d4_0) rfl rfl rfl ?_
  refine g_getF X0 hx hZ 4 hown (hw _ (List.mem_of_getElem? (i := 19) rfl)) e0 f_a_index0From (hb hby d4_1) rfl ?_
  intro T1 X1 e1
  have N1 := N0
  have M1 := M0
  by_cases c4 : pp = (0 : Int32)
  · refine g_ifF X1 hx 7 (hb hby d4_4) (Jvm.Free.XT.i0_ne_f c4) rfl ?_
    refine g_aloadN X1 hx 8 (hb hby d4_7) rfl rfl rfl ?_
    refine g_getF X1 hx hZ 11 hown (hw _ (List.mem_of_getElem? (i := 25) rfl)) e1 f_b_index0 (hb hby d4_8) rfl ?_
    intro T2 X2 e2
    have N2 := N1
    have M2 := M1
    refine g_goto X2 hx 28 (hb hby d4_11) (by decide) (by decide) ?_
    refine g_lret X2 hx hret hlk (hb hby d4_28) (by decide) (by decide) ?_
    exact ⟨by simp [fPI, c4], N2, e2⟩
  · refine g_ifT X1 hx 14 (hb hby d4_4) (Jvm.Free.XT.i0_ne_t c4) (by decide) (by decide) ?_
    refine g_aloadN X1 hx 15 (hb hby d4_14) rfl rfl rfl ?_
    refine g_getF X1 hx hZ 18 hown (hw _ (List.mem_of_getElem? (i := 19) rfl)) e1 f_a_index0From (hb hby d4_15) rfl ?_
    intro T3 X3 e3
    have N3 := N1
    have M3 := M1
    refine g_iconst X3 hx 19 (hb hby d4_18) (1 : Int32) (by decide) rfl ?_
    by_cases c19 : pp = (1 : Int32)
    · refine g_icF X3 hx 22 (hb hby d4_19) (Jvm.Free.XT.ii_ne_f c19) rfl ?_
      refine g_lloadN X3 hx 23 (hb hby d4_22) rfl rfl ?_
      refine g_goto X3 hx 28 (hb hby d4_23) (by decide) (by decide) ?_
      refine g_lret X3 hx hret hlk (hb hby d4_28) (by decide) (by decide) ?_
      exact ⟨by simp [fPI, c4, c19], N3, e3⟩
    · refine g_icT X3 hx 26 (hb hby d4_19) (Jvm.Free.XT.ii_ne_t c19) (by decide) (by decide) ?_
      refine g_lload X3 hx 28 (hb hby d4_26) rfl rfl ?_
      refine g_lret X3 hx hret hlk (hb hby d4_28) (by decide) (by decide) ?_
      exact ⟨by simp [fPI, c4, c19], N3, e3⟩
def Q0 (n0 : Nat) (v : Option Value) (h : Heap) (L : List Loc) : Prop := v = some (.int 1) ∧ Fr n0 L
theorem own_tab {k : Int32} {kn : Nat} {x y z : Int64} {w : Value} (hk : k.toInt = kn) (h3 : kn < 3) : (if kn = 2 then Value.long z else if kn = 1 then Value.long y else if kn = 0 then Value.long x else w) = .long (fPI k x y z) := by
  have z0 : (0 : Int32).toInt = 0 := by decide
  have z1 : (1 : Int32).toInt = 1 := by decide
  unfold fPI
  simp only [← Int32.toInt_inj, z0, z1, hk]
  rcases (show kn = 0 ∨ kn = 1 ∨ kn = 2 by omega) with rfl | rfl | rfl <;> rfl
set_option maxRecDepth 65536 in
set_option maxHeartbeats 40000000 in
theorem rm0 (l : Launch) (Z : State) (a0 : Array Value) (hw : ∀ d ∈ tables_1, d.before a0 Z = true) (ws : List Jvm.Cond) (x0 x1 : Int32) (x2 x3 x4 x5 : Int64) (h0 : Heap) (n0 : Nat) (Z0 : n0 ≤ h0.size)  :
    MetFree l x (head1 (Jvm.Cond.code x code maxLocals ret :: ws) room_1) (fun av_ U_ => av_ = #[(.int x0), (.int x1), (.long x2), (.long x3), (.long x4), (.long x5)] ∧ Z.Warmed39 U_.vm ∧ U_.heap = h0) (fun _ _ _ _ _ => True) (fun _ U_ o_ W_ => ∃ v_ L_, o_ = .returned v_ ∧ Q0 n0 v_ W_.heap L_ ∧ FrameEnd U_ o_ W_ L_ room_1.cells room_1.slots) := by
  refine own_start pn_3 ?_
  intro p e s m below meth c T0 X0 hx hby hml hown hnm hret hlk hZ e0
  have N0 := Fr.nil n0
  have M0 := Z0
  refine Go.cast (show entryFrame m #[(.int x0), (.int x1), (.long x2), (.long x3), (.long x4), (.long x5)] maxLocals = (mkF m 0 #[.val (.int x0), .val (.int x1), .val (.long x2), .second, .val (.long x3), .second, .val (.long x4), .second, .val (.long x5), .second, .unset, .unset, .unset, .unset] []) from (by first | (simp [entryFrame, mkF, argsToLocals, Value.category, maxLocals]; done) | rfl)) ?_
  refine g_iloadN X0 hx 1 (hb hby at_0) rfl rfl ?_
  refine g_ldcI X0 hx hZ (2147483647 : Int32) hown (hw _ (List.mem_of_getElem? (i := 0) rfl)) 3 (hb hby at_1) rfl ?_
  refine g_iand X0 hx 4 (hb hby at_3) rfl ?_
  refine g_iconst X0 hx 5 (hb hby at_4) (3 : Int32) (by decide) rfl ?_
  refine g_irem X0 hx 6 (hb hby at_5) (by decide) rfl ?_
  refine g_istore X0 hx 8 (hb hby at_6) #[.val (.int x0), .val (.int x1), .val (.long x2), .second, .val (.long x3), .second, .val (.long x4), .second, .val (.long x5), .second, .val (.int ((x0 &&& (2147483647 : Int32)) % (3 : Int32))), .unset, .unset, .unset] rfl rfl ?_
  generalize h_k : ((x0 &&& (2147483647 : Int32)) % (3 : Int32)) = k
  have rm := c_mask x0 2147483647 31 (by decide) (by decide)
  have rk := (c_irem (x0 &&& 2147483647) 3 3 (by decide)).1 (by omega)
  rw [h_k] at rk
  obtain ⟨kn, hkn⟩ : ∃ o : Nat, k.toInt = o := ⟨k.toInt.toNat, by omega⟩
  have hk3 : kn < 3 := by omega
  refine g_new X0 hx hZ 11 hown (hw _ (List.mem_of_getElem? (i := 1) rfl)) (hw _ (List.mem_of_getElem? (i := 2) rfl)) (hw _ (List.mem_of_getElem? (i := 3) rfl)) e0 (hb hby at_8) (by decide) (by decide) rfl ?_
  intro T1 a X1 E1 g_a E_a D_a
  have e1 : T1.heap = T1.heap := rfl
  have N1 := N0
  have Z_a : n0 ≤ a := by rw [g_a]; exact M0
  have M1 : n0 ≤ T1.heap.size := Nat.le_trans M0 E1.1
  have f_a_baseFrom : Fld Z T1.heap a "com/example/layline/layline/internal/FixedCoordinates" "baseFrom" "I" (.int (0 : Int32)) := D_a (show Laid Z a0 "com/example/layline/layline/internal/FixedCoordinates" "com/example/layline/layline/internal/FixedCoordinates" "baseFrom" "I" from Or.inr (hw _ (List.mem_of_getElem? (i := 18) rfl))) (ty := .int) (by decide)
  have f_a_index0From : Fld Z T1.heap a "com/example/layline/layline/internal/FixedCoordinates" "index0From" "I" (.int (0 : Int32)) := D_a (show Laid Z a0 "com/example/layline/layline/internal/FixedCoordinates" "com/example/layline/layline/internal/FixedCoordinates" "index0From" "I" from Or.inr (hw _ (List.mem_of_getElem? (i := 20) rfl))) (ty := .int) (by decide)
  have f_a_index1From : Fld Z T1.heap a "com/example/layline/layline/internal/FixedCoordinates" "index1From" "I" (.int (0 : Int32)) := D_a (show Laid Z a0 "com/example/layline/layline/internal/FixedCoordinates" "com/example/layline/layline/internal/FixedCoordinates" "index1From" "I" from Or.inr (hw _ (List.mem_of_getElem? (i := 22) rfl))) (ty := .int) (by decide)
  have f_a_base : Fld Z T1.heap a "com/example/layline/layline/internal/FixedCoordinates" "base" "J" (.long (0 : Int64)) := D_a (show Laid Z a0 "com/example/layline/layline/internal/FixedCoordinates" "com/example/layline/layline/internal/FixedCoordinates" "base" "J" from Or.inr (hw _ (List.mem_of_getElem? (i := 24) rfl))) (ty := .long) (by decide)
  have f_a_index0 : Fld Z T1.heap a "com/example/layline/layline/internal/FixedCoordinates" "index0" "J" (.long (0 : Int64)) := D_a (show Laid Z a0 "com/example/layline/layline/internal/FixedCoordinates" "com/example/layline/layline/internal/FixedCoordinates" "index0" "J" from Or.inr (hw _ (List.mem_of_getElem? (i := 26) rfl))) (ty := .long) (by decide)
  have f_a_index1 : Fld Z T1.heap a "com/example/layline/layline/internal/FixedCoordinates" "index1" "J" (.long (0 : Int64)) := D_a (show Laid Z a0 "com/example/layline/layline/internal/FixedCoordinates" "com/example/layline/layline/internal/FixedCoordinates" "index1" "J" from Or.inr (hw _ (List.mem_of_getElem? (i := 28) rfl))) (ty := .long) (by decide)
  refine g_dup X1 hx 12 (hb hby at_11) rfl rfl ?_
  refine g_iloadN X1 hx 13 (hb hby at_12) rfl rfl ?_
  refine g_iload X1 hx 15 (hb hby at_13) rfl rfl ?_
  refine g_iloadN X1 hx 16 (hb hby at_15) rfl rfl ?_
  refine g_bipush X1 hx 18 (hb hby at_16) (16 : Int32) (by decide) rfl ?_
  refine g_ishr X1 hx 19 (hb hby at_18) rfl ?_
  refine g_lload X1 hx 21 (hb hby at_19) rfl rfl ?_
  refine g_lload X1 hx 23 (hb hby at_21) rfl rfl ?_
  refine g_ldc2J X1 hx hZ (4 : Int64) hown (hw _ (List.mem_of_getElem? (i := 4) rfl)) 26 (hb hby at_23) rfl ?_
  refine g_lxor X1 hx 27 (hb hby at_26) rfl ?_
  refine g_lload X1 hx 29 (hb hby at_27) rfl rfl ?_
  refine g_ldc2J X1 hx hZ (8 : Int64) hown (hw _ (List.mem_of_getElem? (i := 5) rfl)) 32 (hb hby at_29) rfl ?_
  refine g_lxor X1 hx 33 (hb hby at_32) rfl ?_
  refine g_special X1 hx hZ 36 a [(.int x1), (.int k), (.int (x1 >>> ((16 : Int32) &&& 31))), (.long x5), (.long (x4 ^^^ (4 : Int64))), (.long (x5 ^^^ (8 : Int64)))] [(.ref a)] 1 rfl hown (hw _ (List.mem_of_getElem? (i := 6) rfl)) (hw _ (List.mem_of_getElem? (i := 7) rfl)) (hw _ (List.mem_of_getElem? (i := 3) rfl)) (hw _ (List.mem_of_getElem? (i := 8) rfl)) (by decide) e1 (rm1 l Z a0 hw [] a x1 k (x1 >>> ((16 : Int32) &&& 31)) x5 (x4 ^^^ (4 : Int64)) (x5 ^^^ (8 : Int64)) T1.heap n0 M1 E_a Z_a f_a_baseFrom f_a_index0From f_a_index1From f_a_base f_a_index0 f_a_index1) (by decide) (by decide) (by decide) (by decide) (by rw [hml]; rfl) rfl pd_1 rfl (Nat.le_of_eq rfl) (hb hby at_33) rfl ?_
  intro v2 T2 L2 X2 q2
  obtain ⟨rfl, Nq2, K2, Ex2, Fa2, Fb2⟩ := q2
  have N2 := Fr.app N1 Nq2
  have M2 : n0 ≤ T2.heap.size := Nat.le_trans M1 K2.1
  have e2 : T2.heap = T2.heap := rfl
  replace E_a := Ex2
  replace f_a_index0From := Fa2
  replace f_a_index0 := Fb2
  refine g_astore X2 hx 38 (hb hby at_36) rfl #[.val (.int x0), .val (.int x1), .val (.long x2), .second, .val (.long x3), .second, .val (.long x4), .second, .val (.long x5), .second, .val (.int k), .val (.ref a), .unset, .unset] rfl rfl ?_
  refine g_new X2 hx hZ 41 hown (hw _ (List.mem_of_getElem? (i := 1) rfl)) (hw _ (List.mem_of_getElem? (i := 2) rfl)) (hw _ (List.mem_of_getElem? (i := 3) rfl)) e2 (hb hby at_38) (by decide) (by decide) rfl ?_
  intro T3 b X3 E3 g_b E_b D_b
  have e3 : T3.heap = T3.heap := rfl
  have N3 := N2
  have Z_b : n0 ≤ b := by rw [g_b]; exact M2
  have M3 : n0 ≤ T3.heap.size := Nat.le_trans M2 E3.1
  have ne_a_b : a ≠ b := by rw [g_b]; exact Nat.ne_of_lt E_a.lt
  replace E_a := E_a.ext E3
  replace f_a_index0From := f_a_index0From.ext E3
  replace f_a_index0 := f_a_index0.ext E3
  have f_b_baseFrom : Fld Z T3.heap b "com/example/layline/layline/internal/FixedCoordinates" "baseFrom" "I" (.int (0 : Int32)) := D_b (show Laid Z a0 "com/example/layline/layline/internal/FixedCoordinates" "com/example/layline/layline/internal/FixedCoordinates" "baseFrom" "I" from Or.inr (hw _ (List.mem_of_getElem? (i := 18) rfl))) (ty := .int) (by decide)
  have f_b_index0From : Fld Z T3.heap b "com/example/layline/layline/internal/FixedCoordinates" "index0From" "I" (.int (0 : Int32)) := D_b (show Laid Z a0 "com/example/layline/layline/internal/FixedCoordinates" "com/example/layline/layline/internal/FixedCoordinates" "index0From" "I" from Or.inr (hw _ (List.mem_of_getElem? (i := 20) rfl))) (ty := .int) (by decide)
  have f_b_index1From : Fld Z T3.heap b "com/example/layline/layline/internal/FixedCoordinates" "index1From" "I" (.int (0 : Int32)) := D_b (show Laid Z a0 "com/example/layline/layline/internal/FixedCoordinates" "com/example/layline/layline/internal/FixedCoordinates" "index1From" "I" from Or.inr (hw _ (List.mem_of_getElem? (i := 22) rfl))) (ty := .int) (by decide)
  have f_b_base : Fld Z T3.heap b "com/example/layline/layline/internal/FixedCoordinates" "base" "J" (.long (0 : Int64)) := D_b (show Laid Z a0 "com/example/layline/layline/internal/FixedCoordinates" "com/example/layline/layline/internal/FixedCoordinates" "base" "J" from Or.inr (hw _ (List.mem_of_getElem? (i := 24) rfl))) (ty := .long) (by decide)
  have f_b_index0 : Fld Z T3.heap b "com/example/layline/layline/internal/FixedCoordinates" "index0" "J" (.long (0 : Int64)) := D_b (show Laid Z a0 "com/example/layline/layline/internal/FixedCoordinates" "com/example/layline/layline/internal/FixedCoordinates" "index0" "J" from Or.inr (hw _ (List.mem_of_getElem? (i := 26) rfl))) (ty := .long) (by decide)
  have f_b_index1 : Fld Z T3.heap b "com/example/layline/layline/internal/FixedCoordinates" "index1" "J" (.long (0 : Int64)) := D_b (show Laid Z a0 "com/example/layline/layline/internal/FixedCoordinates" "com/example/layline/layline/internal/FixedCoordinates" "index1" "J" from Or.inr (hw _ (List.mem_of_getElem? (i := 28) rfl))) (ty := .long) (by decide)
  refine g_dup X3 hx 42 (hb hby at_41) rfl rfl ?_
  refine g_iloadN X3 hx 43 (hb hby at_42) rfl rfl ?_
  refine g_iloadN X3 hx 44 (hb hby at_43) rfl rfl ?_
  refine g_iconst X3 hx 45 (hb hby at_44) (5 : Int32) (by decide) rfl ?_
  refine g_ixor X3 hx 46 (hb hby at_45) rfl ?_
  refine g_lload X3 hx 48 (hb hby at_46) rfl rfl ?_
  refine g_l2i X3 hx 49 (hb hby at_48) rfl ?_
  refine g_lload X3 hx 51 (hb hby at_49) rfl rfl ?_
  refine g_lconst X3 hx 52 (hb hby at_51) (1 : Int64) (by decide) rfl ?_
  refine g_lxor X3 hx 53 (hb hby at_52) rfl ?_
  refine g_lload X3 hx 55 (hb hby at_53) rfl rfl ?_
  refine g_lload X3 hx 57 (hb hby at_55) rfl rfl ?_
  refine g_ldc2J X3 hx hZ (2 : Int64) hown (hw _ (List.mem_of_getElem? (i := 29) rfl)) 60 (hb hby at_57) rfl ?_
  refine g_lxor X3 hx 61 (hb hby at_60) rfl ?_
  refine g_special X3 hx hZ 64 b [(.int x0), (.int (x1 ^^^ (5 : Int32))), (.int (x5.toInt32)), (.long (x4 ^^^ (1 : Int64))), (.long x4), (.long (x4 ^^^ (2 : Int64)))] [(.ref b)] 1 rfl hown (hw _ (List.mem_of_getElem? (i := 6) rfl)) (hw _ (List.mem_of_getElem? (i := 7) rfl)) (hw _ (List.mem_of_getElem? (i := 3) rfl)) (hw _ (List.mem_of_getElem? (i := 8) rfl)) (by decide) e3 (rm1 l Z a0 hw [] b x0 (x1 ^^^ (5 : Int32)) (x5.toInt32) (x4 ^^^ (1 : Int64)) x4 (x4 ^^^ (2 : Int64)) T3.heap n0 M3 E_b Z_b f_b_baseFrom f_b_index0From f_b_index1From f_b_base f_b_index0 f_b_index1) (by decide) (by decide) (by decide) (by decide) (by rw [hml]; rfl) rfl pd_1 rfl (Nat.le_of_eq rfl) (hb hby at_61) rfl ?_
  intro v4 T4 L4 X4 q4
  obtain ⟨rfl, Nq4, K4, Ex4, Fa4, Fb4⟩ := q4
  have N4 := Fr.app N3 Nq4
  have M4 : n0 ≤ T4.heap.size := Nat.le_trans M3 K4.1
  have e4 : T4.heap = T4.heap := rfl
  replace E_a := E_a.keep K4
  replace f_a_index0From := f_a_index0From.keep K4 (ninS ne_a_b nin0)
  replace f_a_index0 := f_a_index0.keep K4 (ninS ne_a_b nin0)
  replace E_b := Ex4
  replace f_b_index0From := Fa4
  replace f_b_index0 := Fb4
  refine g_astore X4 hx 66 (hb hby at_64) rfl #[.val (.int x0), .val (.int x1), .val (.long x2), .second, .val (.long x3), .second, .val (.long x4), .second, .val (.long x5), .second, .val (.int k), .val (.ref a), .val (.ref b), .unset] rfl rfl ?_
  refine g_iconst X4 hx 67 (hb hby at_66) (3 : Int32) (by decide) rfl ?_
  refine g_newarr X4 hx hZ 69 (hw _ (List.mem_of_getElem? (i := 30) rfl)) e4 (hb hby at_67) (3) (by decide) 3 (by decide) (by decide) (by decide) (by decide) rfl ?_
  intro T5 t X5 E5 g_t F_t
  have e5 : T5.heap = T5.heap := rfl
  have N5 := N4
  have Z_t : n0 ≤ t := by rw [g_t]; exact M4
  have M5 : n0 ≤ T5.heap.size := Nat.le_trans M4 E5.1
  have ne_a_t : a ≠ t := by rw [g_t]; exact Nat.ne_of_lt E_a.lt
  replace E_a := E_a.ext E5
  replace f_a_index0From := f_a_index0From.ext E5
  replace f_a_index0 := f_a_index0.ext E5
  have ne_b_t : b ≠ t := by rw [g_t]; exact Nat.ne_of_lt E_b.lt
  replace E_b := E_b.ext E5
  replace f_b_index0From := f_b_index0From.ext E5
  replace f_b_index0 := f_b_index0.ext E5
  refine g_dup X5 hx 70 (hb hby at_69) rfl rfl ?_
  refine g_iconst X5 hx 71 (hb hby at_70) (0 : Int32) (by decide) rfl ?_
  refine g_lload X5 hx 73 (hb hby at_71) rfl rfl ?_
  refine g_lastore X5 hx hZ 74 e5 F_t (hb hby at_73) (0) (by decide) (by decide) rfl ?_
  intro T6 X6 W6 G6
  replace F_t := G6
  have e6 : T6.heap = T6.heap := rfl
  have N6 := Fr.snoc X6 N5 Z_t
  have M6 : n0 ≤ T6.heap.size := by rw [W6.size]; exact M5
  replace E_a := E_a.wr W6
  replace f_a_index0From := f_a_index0From.other W6 (Or.inl ne_a_t)
  replace f_a_index0 := f_a_index0.other W6 (Or.inl ne_a_t)
  replace E_b := E_b.wr W6
  replace f_b_index0From := f_b_index0From.other W6 (Or.inl ne_b_t)
  replace f_b_index0 := f_b_index0.other W6 (Or.inl ne_b_t)
  refine g_dup X6 hx 75 (hb hby at_74) rfl rfl ?_
  refine g_iconst X6 hx 76 (hb hby at_75) (1 : Int32) (by decide) rfl ?_
  refine g_lloadN X6 hx 77 (hb hby at_76) rfl rfl ?_
  refine g_lastore X6 hx hZ 78 e6 F_t (hb hby at_77) (1) (by decide) (by decide) rfl ?_
  intro T7 X7 W7 G7
  replace F_t := G7
  have e7 : T7.heap = T7.heap := rfl
  have N7 := Fr.snoc X7 N6 Z_t
  have M7 : n0 ≤ T7.heap.size := by rw [W7.size]; exact M6
  replace E_a := E_a.wr W7
  replace f_a_index0From := f_a_index0From.other W7 (Or.inl ne_a_t)
  replace f_a_index0 := f_a_index0.other W7 (Or.inl ne_a_t)
  replace E_b := E_b.wr W7
  replace f_b_index0From := f_b_index0From.other W7 (Or.inl ne_b_t)
  replace f_b_index0 := f_b_index0.other W7 (Or.inl ne_b_t)
  refine g_dup X7 hx 79 (hb hby at_78) rfl rfl ?_
  refine g_iconst X7 hx 80 (hb hby at_79) (2 : Int32) (by decide) rfl ?_
  refine g_lload X7 hx 82 (hb hby at_80) rfl rfl ?_
  refine g_lastore X7 hx hZ 83 e7 F_t (hb hby at_82) (2) (by decide) (by decide) rfl ?_
  intro T8 X8 W8 G8
  replace F_t := G8
  have e8 : T8.heap = T8.heap := rfl
  have N8 := Fr.snoc X8 N7 Z_t
  have M8 : n0 ≤ T8.heap.size := by rw [W8.size]; exact M7
  replace E_a := E_a.wr W8
  replace f_a_index0From := f_a_index0From.other W8 (Or.inl ne_a_t)
  replace f_a_index0 := f_a_index0.other W8 (Or.inl ne_a_t)
  replace E_b := E_b.wr W8
  replace f_b_index0From := f_b_index0From.other W8 (Or.inl ne_b_t)
  replace f_b_index0 := f_b_index0.other W8 (Or.inl ne_b_t)
  refine g_astore X8 hx 85 (hb hby at_83) rfl #[.val (.int x0), .val (.int x1), .val (.long x2), .second, .val (.long x3), .second, .val (.long x4), .second, .val (.long x5), .second, .val (.int k), .val (.ref a), .val (.ref b), .val (.ref t)] rfl rfl ?_
  refine g_aload X8 hx 87 (hb hby at_85) rfl rfl rfl ?_
  refine g_aload X8 hx 89 (hb hby at_87) rfl rfl rfl ?_
  refine g_lloadN X8 hx 90 (hb hby at_89) rfl rfl ?_
  refine g_lload X8 hx 92 (hb hby at_90) rfl rfl ?_
  refine g_virtual X8 hx hZ 95 a [(.ref b), (.long x2), (.long x3)] [] 0 E_a hown (hw _ (List.mem_of_getElem? (i := 31) rfl)) (hw _ (List.mem_of_getElem? (i := 32) rfl)) (hw _ (List.mem_of_getElem? (i := 34) rfl)) (hw _ (List.mem_of_getElem? (i := 33) rfl)) (hw _ (List.mem_of_getElem? (i := 3) rfl)) (hw _ (List.mem_of_getElem? (i := 35) rfl)) (by decide) e8 (rm4 l Z a0 hw [] a b k x4 x2 x3 T8.heap n0 M8 f_a_index0From f_b_index0) (by decide) (by decide) (by decide) (by decide) (by rw [hml]; rfl) rfl pd_2 rfl (Nat.le_of_eq rfl) (hb hby at_92) rfl ?_
  intro v9 T9 L9 X9 q9
  obtain ⟨rfl, Nq9, e9⟩ := q9
  have N9 := Fr.app N8 Nq9
  have M9 := M8
  refine g_aload X9 hx 97 (hb hby at_95) rfl rfl rfl ?_
  refine g_iload X9 hx 99 (hb hby at_97) rfl rfl ?_
  refine g_laload X9 hx hZ 100 e9 F_t (hb hby at_99) (kn) hkn hk3 (.long (fPI k x4 x2 x3)) (own_tab hkn hk3) rfl ?_
  refine g_lcmp X9 hx 101 (hb hby at_100) rfl ?_
  refine g_ifF X9 hx 104 (hb hby at_101) (Jvm.Free.XT.ll_ne_f (show (fPI k x4 x2 x3) = (fPI k x4 x2 x3) from rfl)) rfl ?_
  refine g_iconst X9 hx 105 (hb hby at_104) (1 : Int32) (by decide) rfl ?_
  refine g_goto X9 hx 109 (hb hby at_105) (by decide) (by decide) ?_
  refine g_nret X9 hx (by simp) hret hlk (hb hby at_109) (by decide) (by decide) ?_
  exact ⟨rfl, N9⟩
set_option maxRecDepth 65536 in
set_option maxHeartbeats 40000000 in
theorem comes_1 {Post : Tables → Env → Array Value → State → Outcome → State → Prop} (hpost : ∀ tb e args s v u, (limb_1_1.after args s (.returned v) u = true ∧ limb_1_2.after args s (.returned v) u = true ∧ True) → FrameEnd s (.returned v) u (Jvm.fieldLocs frame_1_writes args s ++ Jvm.arrayLocs frame_1_arrays args s ++ Jvm.staticLocs frame_1_statics s) 16 128 → Post tb e args s (.returned v) u) :
    ArmFor flags0 classFile x code maxLocals ret World_1 tables_1 room_1 Calls_1 rest_1 Pre_1 Post := by
  intro l hfl _ _ p e ha hc hk s m args below hf hA hF happ hP
  obtain ⟨hcalls, hrest, hpre⟩ := hP
  obtain ⟨-, -, -, hnamed, -, -, -, hat⟩ := (Spec.applies_iff hf).mp happ
  obtain ⟨hg, hn⟩ := and_e (Cond.before_iff.mp (show (Jvm.Cond.and given_1 narrow_1).before args s = true from hpre))
  obtain ⟨hcount, hg0⟩ := and_e hg
  obtain ⟨ha0, hg1⟩ := and_e hg0
  obtain ⟨ha1, hg2⟩ := and_e hg1
  obtain ⟨ha2, hg3⟩ := and_e hg2
  obtain ⟨ha3, hg4⟩ := and_e hg3
  obtain ⟨ha4, hg5⟩ := and_e hg4
  obtain ⟨w0, w1, w2, w3, w4, w5, rfl⟩ : ∃ w0 w1 w2 w3 w4 w5 : Value, args = #[w0, w1, w2, w3, w4, w5] := by
    have hs : args.size = 6 := by simpa [Cond.value, given_1] using hcount
    obtain ⟨L⟩ := args
    match L, hs with
    | [w0, w1, w2, w3, w4, w5], _ => exact ⟨w0, w1, w2, w3, w4, w5, rfl⟩
  have hw := fun d (hd : d ∈ tables_1) => atoms_spec (ws := Jvm.Cond.code x code maxLocals ret :: tables_1) hat d (List.mem_cons_of_mem _ hd)
  obtain ⟨i0, ei0⟩ := is_v ha0
  obtain rfl : w0 = (.int i0) := Option.some.inj ei0
  obtain ⟨i1, ei1⟩ := is_v ha1
  obtain rfl : w1 = (.int i1) := Option.some.inj ei1
  obtain ⟨i2, ei2⟩ := isL_v ha2
  obtain rfl : w2 = (.long i2) := Option.some.inj ei2
  obtain ⟨i3, ei3⟩ := isL_v ha3
  obtain rfl : w3 = (.long i3) := Option.some.inj ei3
  obtain ⟨i4, ei4⟩ := isL_v ha4
  obtain rfl : w4 = (.long i4) := Option.some.inj ei4
  obtain ⟨i5, ei5⟩ := isL_v hg5
  obtain rfl : w5 = (.long i5) := Option.some.inj ei5
  obtain ⟨n, o, h1, h2, h3, _, L, rfl, ⟨rfl, N⟩, hq⟩ := rm0 l s _ hw tables_1 i0 i1 i2 i3 i4 i5 s.heap s.heap.size (Nat.le_refl _)  p e ha hc hk s m _ below hf ((Spec.applies_iff_loose hf).mp happ).1 ⟨rfl, State.Warmed39.refl s, rfl⟩ trivial
  refine ⟨n, _, h1, h2, h3, hpost _ _ _ _ _ _ ⟨Cond.after_iff.mpr rfl, Cond.after_iff.mpr (eq_i res_at (Term.int_eval (1)) rfl), trivial⟩ ⟨hq.1, hq.2.1, (hq.2.2.sift fun y hy => Or.inr (N y hy)).mono (by decide) (by decide)⟩⟩
theorem main_1_1 : Claimed_1_1 := comes_1 fun _ _ _ _ _ _ h hF => ⟨h.1, hF⟩
theorem main_1_2 : Claimed_1_2 := comes_1 fun _ _ _ _ _ _ h hF => ⟨h.2.1, hF⟩
end Jvm.Pilot.@@N@@
namespace Jvm.Pilot.@@N@@
open Jvm Jvm.ClassFile Sem Op Lib Jvm.Free Jvm.Stand Jvm.Pilot.@@N@@.Jvm.D
/-! MADE BY PROGRAM (witnessworld.py) out of the Statement's table words and the real class files: 12 classes; the members and pool entries that the words name. The judged class is class 1, her method 1. -/
namespace start1
open Jvm.ClassFile
def u (s : String) : CpInfo := .utf8 (stringToUtf16 s)
/-- a pool by its gaps: so many unusable entries, then the entry; so many at the end -/
def gap : Nat → List CpInfo → List CpInfo
  | 0, r => r
  | n + 1, r => .unusable :: gap n r
def poolList (es : List (Nat × CpInfo)) (last : Nat) : List CpInfo := es.foldr (fun e r => gap e.1 (e.2 :: r)) (gap last [])
def pool (es : List (Nat × CpInfo)) (last : Nat) : Array CpInfo := ⟨poolList es last⟩
def fileOf (pool : Array CpInfo) (this : Nat) (attrs : Array Attribute := #[]) (ms : Array MethodInfo := #[]) (fl : Nat := 33) (sup : Nat := 0) (ifs : Array Nat := #[]) (fds : Array FieldInfo := #[]) : ClassFile where
  minorVersion := 0
  majorVersion := 65
  constantPool := pool
  accessFlags := fl
  thisClass := this
  superClass := sup
  interfaces := ifs
  fields := fds
  methods := ms
  attributes := attrs
def plain (name : String) (sup : Option ClassId) : Class where
  name := name
  kind := .ordinary
  loader := none
  accessFlags := 33
  super := sup
  interfaces := #[]
  cf := none
  fields := #[]
  methods := #[]
  instanceTypes := #[]
  staticTypes := #[]
  resolved := #[]
  callSites := []
  init := .initialized
  statics := none
  mirror := none

def pool0 : Array CpInfo := pool [(5, u "<init>"), (0, u "()V"), (1, .class_ 10), (1, u "java/lang/Object")] 113

def k0c0 : Code := { maxStack := 0, maxLocals := 1, code := object_method_1_code, exceptionTable := #[], attributes := #[] }
def k0m0 : Method := { name := "<init>", desc := "()V", sig := { parameters := [], returnType := none }, accessFlags := 1, code := some k0c0 }
/-- java/lang/Object -/
def k0 : Class := { plain "java/lang/Object" none with
  accessFlags := 33
  interfaces := #[]
  cf := some (fileOf pool0 8 #[] #[{ accessFlags := 1, nameIndex := 5, descriptorIndex := 6, attributes := #[] }] 33 0 #[] #[])
  fields := #[]
  methods := #[k0m0]
  instanceTypes := #[]
  staticTypes := #[]
  resolved := Array.replicate 124 none
  statics := none }

def pool1 : Array CpInfo := pool [(2, .class_ 4), (1, u "java/lang/Object"), (0, u "<init>"), (0, u "()V"), (0, .integer 2147483647), (0, .class_ 9), (0, u "com/example/layline/layline/internal/FixedCoordinates"), (0, .long 4), (1, .long 8), (1, .methodref 8 15), (0, .nameAndType 5 16), (0, u "(IIIJJJ)V"), (0, .long 2), (1, .methodref 8 20), (0, .nameAndType 21 22), (0, u "pathIndex0"), (0, u "(Lcom/example/layline/layline/internal/FixedCoordinates;JJ)J"), (0, .class_ 24), (0, u "com/example/layline/layline/internal/FixedCoordinatesPathIndex0PinLaw"), (2, u "law"), (0, u "(IIJJJJ)Z")] 5

def k1m0 : Method := { name := "<init>", desc := "()V", sig := { parameters := [], returnType := none }, accessFlags := 1, code := none }
def k1c1 : Code := { maxStack := 13, maxLocals := 14, code := code, exceptionTable := #[], attributes := #[] }
def k1m1 : Method := { name := "law", desc := "(IIJJJJ)Z", sig := { parameters := [.int, .int, .long, .long, .long, .long], returnType := some .boolean }, accessFlags := 9, code := some k1c1 }
/-- com/example/layline/layline/internal/FixedCoordinatesPathIndex0PinLaw -/
def k1 : Class := { plain "com/example/layline/layline/internal/FixedCoordinatesPathIndex0PinLaw" (some 0) with
  accessFlags := 49
  interfaces := #[]
  cf := some (fileOf pool1 23 #[] #[{ accessFlags := 1, nameIndex := 5, descriptorIndex := 6, attributes := #[] }, { accessFlags := 9, nameIndex := 27, descriptorIndex := 28, attributes := #[] }] 49 2 #[] #[])
  fields := #[]
  methods := #[k1m0, k1m1]
  instanceTypes := #[]
  staticTypes := #[]
  resolved := Array.replicate 34 none
  statics := none }

def pool2 : Array CpInfo := pool [(1, .methodref 2 3), (0, .class_ 4), (0, .nameAndType 5 6), (0, u "java/lang/Object"), (0, u "<init>"), (0, u "()V"), (0, .class_ 8), (0, u "java/lang/Record")] 13

def k2c0 : Code := { maxStack := 1, maxLocals := 1, code := jdk_30_method_1_code, exceptionTable := #[], attributes := #[] }
def k2m0 : Method := { name := "<init>", desc := "()V", sig := { parameters := [], returnType := none }, accessFlags := 4, code := some k2c0 }
/-- java/lang/Record -/
def k2 : Class := { plain "java/lang/Record" (some 0) with
  accessFlags := 1057
  interfaces := #[]
  cf := some (fileOf pool2 7 #[] #[{ accessFlags := 4, nameIndex := 5, descriptorIndex := 6, attributes := #[] }] 1057 2 #[] #[])
  fields := #[]
  methods := #[k2m0]
  instanceTypes := #[]
  staticTypes := #[]
  resolved := Array.replicate 22 none
  statics := none }

def pool3 : Array CpInfo := pool [(1, .methodref 2 3), (0, .class_ 4), (0, .nameAndType 5 6), (0, u "java/lang/Record"), (0, u "<init>"), (0, u "()V"), (0, .fieldref 8 9), (0, .class_ 10), (0, .nameAndType 11 12), (0, u "com/example/layline/layline/internal/FixedCoordinates"), (0, u "baseFrom"), (0, u "I"), (0, .fieldref 8 14), (0, .nameAndType 15 12), (0, u "index0From"), (0, .fieldref 8 17), (0, .nameAndType 18 12), (0, u "index1From"), (0, .fieldref 8 20), (0, .nameAndType 21 22), (0, u "base"), (0, u "J"), (0, .fieldref 8 24), (0, .nameAndType 25 22), (0, u "index0"), (0, .fieldref 8 27), (0, .nameAndType 28 22), (0, u "index1"), (8, u "(IIIJJJ)V"), (18, u "NONE"), (0, u "Lcom/example/layline/layline/internal/FixedCoordinates;"), (0, u "MOST_PATH_COORDINATES"), (16, u "pathIndex0"), (0, u "(Lcom/example/layline/layline/internal/FixedCoordinates;JJ)J")] 31

def k3c0 : Code := { maxStack := 3, maxLocals := 10, code := prog_1_method_1_code, exceptionTable := #[], attributes := #[] }
def k3m0 : Method := { name := "<init>", desc := "(IIIJJJ)V", sig := { parameters := [.int, .int, .int, .long, .long, .long], returnType := none }, accessFlags := 0, code := some k3c0 }
def k3c1 : Code := { maxStack := 2, maxLocals := 6, code := prog_1_method_5_code, exceptionTable := #[], attributes := #[] }
def k3m1 : Method := { name := "pathIndex0", desc := "(Lcom/example/layline/layline/internal/FixedCoordinates;JJ)J", sig := { parameters := [(.object "com/example/layline/layline/internal/FixedCoordinates"), .long, .long], returnType := some .long }, accessFlags := 0, code := some k3c1 }
/-- com/example/layline/layline/internal/FixedCoordinates -/
def k3 : Class := { plain "com/example/layline/layline/internal/FixedCoordinates" (some 2) with
  accessFlags := 48
  interfaces := #[]
  cf := some (fileOf pool3 8 #[] #[{ accessFlags := 0, nameIndex := 5, descriptorIndex := 37, attributes := #[] }, { accessFlags := 0, nameIndex := 75, descriptorIndex := 76, attributes := #[] }] 48 2 #[] #[{ accessFlags := 18, nameIndex := 11, descriptorIndex := 12, attributes := #[] }, { accessFlags := 18, nameIndex := 15, descriptorIndex := 12, attributes := #[] }, { accessFlags := 18, nameIndex := 18, descriptorIndex := 12, attributes := #[] }, { accessFlags := 18, nameIndex := 21, descriptorIndex := 22, attributes := #[] }, { accessFlags := 18, nameIndex := 25, descriptorIndex := 22, attributes := #[] }, { accessFlags := 18, nameIndex := 28, descriptorIndex := 22, attributes := #[] }, { accessFlags := 24, nameIndex := 56, descriptorIndex := 57, attributes := #[] }, { accessFlags := 26, nameIndex := 58, descriptorIndex := 12, attributes := #[] }])
  fields := #[{ name := "baseFrom", type := .int, accessFlags := 18, slot := 0, constantValue := 0 }, { name := "index0From", type := .int, accessFlags := 18, slot := 1, constantValue := 0 }, { name := "index1From", type := .int, accessFlags := 18, slot := 2, constantValue := 0 }, { name := "base", type := .long, accessFlags := 18, slot := 3, constantValue := 0 }, { name := "index0", type := .long, accessFlags := 18, slot := 4, constantValue := 0 }, { name := "index1", type := .long, accessFlags := 18, slot := 5, constantValue := 0 }, { name := "NONE", type := (.object "com/example/layline/layline/internal/FixedCoordinates"), accessFlags := 24, slot := 0, constantValue := 0 }, { name := "MOST_PATH_COORDINATES", type := .int, accessFlags := 26, slot := 1, constantValue := 0 }]
  methods := #[k3m0, k3m1]
  instanceTypes := #[.int, .int, .int, .long, .long, .long]
  staticTypes := #[(.object "com/example/layline/layline/internal/FixedCoordinates"), .int]
  resolved := Array.replicate 108 none
  statics := none }

def pool4 : Array CpInfo := pool [(1, u "java/lang/Cloneable"), (0, .class_ 1), (0, u "java/lang/Object"), (0, .class_ 3)] 3

/-- java/lang/Cloneable -/
def k4 : Class := { plain "java/lang/Cloneable" (some 0) with
  accessFlags := 1537
  interfaces := #[]
  cf := some (fileOf pool4 2 #[] #[] 1537 4 #[] #[])
  fields := #[]
  methods := #[]
  instanceTypes := #[]
  staticTypes := #[]
  resolved := Array.replicate 8 none
  statics := none }

def pool5 : Array CpInfo := pool [(1, u "java/io/Serializable"), (0, .class_ 1), (0, u "java/lang/Object"), (0, .class_ 3)] 3

/-- java/io/Serializable -/
def k5 : Class := { plain "java/io/Serializable" (some 0) with
  accessFlags := 1537
  interfaces := #[]
  cf := some (fileOf pool5 2 #[] #[] 1537 4 #[] #[])
  fields := #[]
  methods := #[]
  instanceTypes := #[]
  staticTypes := #[]
  resolved := Array.replicate 8 none
  statics := none }

/-- the primitive byte -/
def k6 : Class := { plain "byte" none with kind := .primitive 'B', accessFlags := 0x411 }
/-- [B -/
def k7 : Class := { plain "[B" (some 0) with kind := .array 6 .byte, interfaces := #[4, 5], accessFlags := 1041 }

/-- the primitive int -/
def k8 : Class := { plain "int" none with kind := .primitive 'I', accessFlags := 0x411 }
/-- [I -/
def k9 : Class := { plain "[I" (some 0) with kind := .array 8 .int, interfaces := #[4, 5], accessFlags := 1041 }

/-- the primitive long -/
def k10 : Class := { plain "long" none with kind := .primitive 'J', accessFlags := 0x411 }
/-- [J -/
def k11 : Class := { plain "[J" (some 0) with kind := .array 10 .long, interfaces := #[4, 5], accessFlags := 1041 }

def heap : Heap := #[]
def classes : Array Class := #[k0, k1, k2, k3, k4, k5, k6, k7, k8, k9, k10, k11]
def interned : List (Array UInt16 × Addr) := []
def slotsUsed : Nat := 0
def theMethod : MethodId := ⟨1, 1⟩
def args0 : Array Value := #[.int 5, .int 7, .long 3, .long 4, .long 6, .long 8]
def aboutOver (below : List Frame) : State where
  vm := { classes := classes, interned := interned.toArray }
  heap := heap
  slotsUsed := slotsUsed
  threads := #[{ frames := .invoking theMethod args0 :: below }]
def below0 : List Frame := [.native { method := ⟨0, 0⟩, args := #[] }]
def about1 : State := aboutOver below0
def p0 : Program := .bare "" "" ""
def e0 : Env := launch0.env 0 0 0
theorem w_frames : about1.frames = Frame.invoking theMethod args0 :: below0 := rfl
set_option maxRecDepth 65536 in
theorem w_args : argsFit about1.vm theMethod args0 = true := by decide +kernel
set_option maxRecDepth 65536 in
theorem w_heap : heapFits about1 = true := by decide +kernel
set_option maxRecDepth 65536 in
theorem w_runnable : about1.curStatus? = some .runnable := by decide +kernel
set_option maxRecDepth 65536 in
theorem w_alone : about1.alone = true := by decide +kernel
set_option maxRecDepth 65536 in
theorem w_named : about1.methodNamed? x = some theMethod := by decide +kernel
set_option maxRecDepth 65536 in
theorem w_hears : about1.hears theMethod below0 = true := by decide +kernel
set_option maxRecDepth 65536 in
theorem w_ripe : about1.ripe theMethod args0 below0 = true := by decide +kernel
theorem w_running : about1.status = .running := rfl
set_option maxRecDepth 65536 in
theorem w_room : about1.hasRoom e0.platform room_1 = true :=
  launch0.hasRoom_least _ room_1 (by decide +kernel) (by decide +kernel) (by decide +kernel) (by decide +kernel) (by decide +kernel) (by decide +kernel)
theorem allAtoms_all (ts : List Jvm.Cond) (a : Array Jvm.Value) (st : Jvm.State) : (allAtoms ts).before a st = ts.all (fun c => c.before a st) := by
  induction ts with
  | nil => rfl
  | cons c t ih =>
    show (Jvm.Cond.and c (allAtoms t)).before a st = _
    rw [Jvm.Cond.before_and, ih, List.all_cons]
def words1 : List Jvm.Cond := Jvm.Cond.code x code maxLocals ret :: tables_1
/-- a 'code' word, met by the world's own term for the bytes: nothing is compared byte by byte -/
theorem code_word {y : MethodName} {bytes : ByteArray} {mx : Nat} {rt : Option FieldType} {a : Array Value} {s : State} {m : MethodId} {meth : Method} {c : Code} (h1 : s.methodNamed? y = some m) (h2 : s.vm.method? m = some meth) (h3 : meth.code = some c) (h4 : c.code = bytes)
    (h5 : (c.maxLocals == mx && c.exceptionTable.isEmpty && decide (c.maxStack ≤ mostOperands) && decide (meth.sig.returnType = rt) && !meth.locks && decide (parseMethodDescriptor y.desc = some meth.sig)) = true) : (Jvm.Cond.code y bytes mx rt).before a s = true := by
  simp only [Bool.and_eq_true, beq_iff_eq, Bool.not_eq_true', decide_eq_true_eq] at h5
  obtain ⟨⟨⟨⟨⟨g1, g2⟩, g3⟩, g4⟩, g5⟩, g6⟩ := h5
  simp [Cond.before, Cond.holds, Cond.value, h1, h2, h3, h4, g1, g2, g3, g4, g5, g6]
def isCode : Jvm.Cond → Bool
  | .code _ _ _ _ => true
  | _ => false
theorem all_split {L : List Jvm.Cond} {P : Jvm.Cond → Bool} (h1 : L.all (fun c => isCode c || P c) = true) (h2 : ∀ c ∈ L.filter isCode, P c = true) : L.all P = true := by
  refine List.all_eq_true.mpr fun c hc => ?_
  have h := List.all_eq_true.mp h1 c hc
  rcases Bool.eq_false_or_eq_true (isCode c) with hi | hi
  · exact h2 c (List.mem_filter.mpr ⟨hc, hi⟩)
  · simpa [hi] using h
set_option maxRecDepth 65536 in
theorem w_c0 : (Jvm.Cond.code x code maxLocals ret).before args0 about1 = true := code_word (m := ⟨1, 1⟩) (meth := k1m1) (c := k1c1) (by decide +kernel) rfl rfl rfl (by decide +kernel)
set_option maxRecDepth 65536 in
theorem w_c1 : (Jvm.Cond.code ({ cls := "com/example/layline/layline/internal/FixedCoordinates", name := "<init>", desc := "(IIIJJJ)V" } : Jvm.MethodName) prog_1_method_1_code (10 : Nat) (Option.none : Option Jvm.ClassFile.FieldType)).before args0 about1 = true := code_word (m := ⟨3, 0⟩) (meth := k3m0) (c := k3c0) (by decide +kernel) rfl rfl rfl (by decide +kernel)
set_option maxRecDepth 65536 in
theorem w_c2 : (Jvm.Cond.code ({ cls := "java/lang/Record", name := "<init>", desc := "()V" } : Jvm.MethodName) jdk_30_method_1_code (1 : Nat) (Option.none : Option Jvm.ClassFile.FieldType)).before args0 about1 = true := code_word (m := ⟨2, 0⟩) (meth := k2m0) (c := k2c0) (by decide +kernel) rfl rfl rfl (by decide +kernel)
set_option maxRecDepth 65536 in
theorem w_c3 : (Jvm.Cond.code ({ cls := "java/lang/Object", name := "<init>", desc := "()V" } : Jvm.MethodName) object_method_1_code (1 : Nat) (Option.none : Option Jvm.ClassFile.FieldType)).before args0 about1 = true := code_word (m := ⟨0, 0⟩) (meth := k0m0) (c := k0c0) (by decide +kernel) rfl rfl rfl (by decide +kernel)
set_option maxRecDepth 65536 in
theorem w_c4 : (Jvm.Cond.code ({ cls := "com/example/layline/layline/internal/FixedCoordinates", name := "pathIndex0", desc := "(Lcom/example/layline/layline/internal/FixedCoordinates;JJ)J" } : Jvm.MethodName) prog_1_method_5_code (6 : Nat) (Option.some Jvm.ClassFile.FieldType.long)).before args0 about1 = true := code_word (m := ⟨3, 1⟩) (meth := k3m1) (c := k3c1) (by decide +kernel) rfl rfl rfl (by decide +kernel)
def codes1 : List Jvm.Cond := [Jvm.Cond.code x code maxLocals ret, Jvm.Cond.code ({ cls := "com/example/layline/layline/internal/FixedCoordinates", name := "<init>", desc := "(IIIJJJ)V" } : Jvm.MethodName) prog_1_method_1_code (10 : Nat) (Option.none : Option Jvm.ClassFile.FieldType), Jvm.Cond.code ({ cls := "java/lang/Record", name := "<init>", desc := "()V" } : Jvm.MethodName) jdk_30_method_1_code (1 : Nat) (Option.none : Option Jvm.ClassFile.FieldType), Jvm.Cond.code ({ cls := "java/lang/Object", name := "<init>", desc := "()V" } : Jvm.MethodName) object_method_1_code (1 : Nat) (Option.none : Option Jvm.ClassFile.FieldType), Jvm.Cond.code ({ cls := "com/example/layline/layline/internal/FixedCoordinates", name := "pathIndex0", desc := "(Lcom/example/layline/layline/internal/FixedCoordinates;JJ)J" } : Jvm.MethodName) prog_1_method_5_code (6 : Nat) (Option.some Jvm.ClassFile.FieldType.long)]
set_option maxRecDepth 65536 in
theorem codes_eq : words1.filter isCode = codes1 := rfl
theorem w_codes : ∀ c ∈ words1.filter isCode, c.before args0 about1 = true := by
  rw [codes_eq]
  intro c hc
  simp only [codes1, List.mem_cons, List.not_mem_nil, or_false] at hc
  rcases hc with rfl | rfl | rfl | rfl | rfl
  · exact w_c0
  · exact w_c1
  · exact w_c2
  · exact w_c3
  · exact w_c4
set_option maxRecDepth 65536 in
theorem w_t1 : (words1.take 24).all (fun c => isCode c || c.before args0 about1) = true := by decide +kernel
set_option maxRecDepth 65536 in
theorem w_t2 : (words1.drop 24).all (fun c => isCode c || c.before args0 about1) = true := by decide +kernel
theorem w_tables : (allAtoms (Jvm.Cond.code x code maxLocals ret :: tables_1)).before args0 about1 = true := by
  rw [allAtoms_all]
  show words1.all (fun c => c.before args0 about1) = true
  refine all_split ?_ w_codes
  rw [← List.take_append_drop 24 words1, List.all_append, w_t1, w_t2]
  rfl
set_option maxRecDepth 65536 in
theorem w_case : (Jvm.Cond.and given_1 narrow_1).before args0 about1 = true := by decide +kernel
theorem w_applies : (headSpec (Jvm.Cond.code x code maxLocals ret :: tables_1) room_1).applies x e0.platform about1 = true :=
  (Spec.applies_iff w_frames).mpr ⟨w_running, w_runnable, w_alone, w_named, w_hears, w_ripe, w_room, w_tables⟩
theorem atStart : AtStart classFile x code maxLocals ret World_1 tables_1 room_1 Calls_1 rest_1 Pre_1 launch0 p0 e0 about1 theMethod args0 below0 :=
  ⟨lists_1, trivial, launch0.admits_env _ _ _, launch0.least_env, fairChoices_fair.cas, fairChoices_fair.clock, w_frames, w_args, w_heap, w_applies, trivial, trivial, w_case⟩
end start1
theorem witness_1 : WitnessClaimed_1 := ⟨start1.p0, start1.e0, start1.about1, start1.theMethod, start1.args0, start1.below0, start1.atStart⟩
end Jvm.Pilot.@@N@@
