import JvmDerived
import JvmDerived.Pilot.@@N@@Statement
import JvmDerived.Pilot.@@N@@Code
set_option linter.unusedVariables false
set_option linter.unusedSimpArgs false
namespace Jvm.Pilot.@@N@@
open Jvm Jvm.ClassFile Sem Op Lib Jvm.Free Jvm.Stand Jvm.LawKit Jvm.RoadKit Bundle Jvm.Pilot.@@N@@.Jvm.D
section OwnWalk
/-- what a walk still owes from where it stands -/
def Go (p : Program) (e : Env) (below : List Frame) (Q : Outcome → State → Prop) (T : State) (g : JFrame) : Prop :=
  ∃ s₂ o, Steps p.tables e below (T.setTop g) s₂ ∧ s₂.status = .running ∧ Ended s₂ below o ∧ Q o s₂
/-- what a body owes at its end -/
def Qend (s : State) (Qf : Option Value → Heap → List Loc → Prop) (kc ks : Nat) (o : Outcome) (U : State) : Prop :=
  ∃ v L, o = .returned v ∧ Qf v U.heap L ∧ FrameEnd s o U L kc ks
variable {p : Program} {l : Launch} {e : Env} {R : Room} {s : State} {m : MethodId} {args : Array Value} {below : List Frame} {meth : Method} {c : Code} {T : State} {locs : List Loc} {cells slots : Nat} {Q : Outcome → State → Prop} {pc : Nat} {Ls : Array Slot} {rest : List Value}
theorem Go.step {T' : State} {g g' : JFrame} (k : ∀ t, Steps p.tables e below (T'.setTop g') t → Steps p.tables e below (T.setTop g) t) (h : Go p e below Q T' g') : Go p e below Q T g := by
  obtain ⟨t, o, h1, h2⟩ := h
  exact ⟨t, o, k t h1, h2⟩
theorem Go.cast {g g' : JFrame} (q : g = g') (h : Go p e below Q T g') : Go p e below Q T g := q ▸ h
theorem g_iadd (X : Stand p l e R s m args below meth c T locs cells slots) (hx : p.tables.exec = Jvm.exec) {x y : Int32} (pc' : Nat) (hd : decode c.code pc = .ok (.iadd, 1))  (hp : pc + 1 = pc')
    (k : Go p e below Q T (mkF m pc' Ls (.int (x + y) :: rest))) : Go p e below Q T (mkF m pc Ls (.int y :: .int x :: rest)) := by
  subst hp; exact Go.step (fun t k => XS.iadd X.here hx rfl hd rfl k) k
theorem g_isub (X : Stand p l e R s m args below meth c T locs cells slots) (hx : p.tables.exec = Jvm.exec) {x y : Int32} (pc' : Nat) (hd : decode c.code pc = .ok (.isub, 1))  (hp : pc + 1 = pc')
    (k : Go p e below Q T (mkF m pc' Ls (.int (x - y) :: rest))) : Go p e below Q T (mkF m pc Ls (.int y :: .int x :: rest)) := by
  subst hp; exact Go.step (fun t k => XS.isub X.here hx rfl hd rfl k) k
theorem g_imul (X : Stand p l e R s m args below meth c T locs cells slots) (hx : p.tables.exec = Jvm.exec) {x y : Int32} (pc' : Nat) (hd : decode c.code pc = .ok (.imul, 1))  (hp : pc + 1 = pc')
    (k : Go p e below Q T (mkF m pc' Ls (.int (x * y) :: rest))) : Go p e below Q T (mkF m pc Ls (.int y :: .int x :: rest)) := by
  subst hp; exact Go.step (fun t k => XS.imul X.here hx rfl hd rfl k) k
theorem g_iand (X : Stand p l e R s m args below meth c T locs cells slots) (hx : p.tables.exec = Jvm.exec) {x y : Int32} (pc' : Nat) (hd : decode c.code pc = .ok (.iand, 1))  (hp : pc + 1 = pc')
    (k : Go p e below Q T (mkF m pc' Ls (.int (x &&& y) :: rest))) : Go p e below Q T (mkF m pc Ls (.int y :: .int x :: rest)) := by
  subst hp; exact Go.step (fun t k => XS.iand X.here hx rfl hd rfl k) k
theorem g_ior (X : Stand p l e R s m args below meth c T locs cells slots) (hx : p.tables.exec = Jvm.exec) {x y : Int32} (pc' : Nat) (hd : decode c.code pc = .ok (.ior, 1))  (hp : pc + 1 = pc')
    (k : Go p e below Q T (mkF m pc' Ls (.int (x ||| y) :: rest))) : Go p e below Q T (mkF m pc Ls (.int y :: .int x :: rest)) := by
  subst hp; exact Go.step (fun t k => XS.ior X.here hx rfl hd rfl k) k
theorem g_ixor (X : Stand p l e R s m args below meth c T locs cells slots) (hx : p.tables.exec = Jvm.exec) {x y : Int32} (pc' : Nat) (hd : decode c.code pc = .ok (.ixor, 1))  (hp : pc + 1 = pc')
    (k : Go p e below Q T (mkF m pc' Ls (.int (x ^^^ y) :: rest))) : Go p e below Q T (mkF m pc Ls (.int y :: .int x :: rest)) := by
  subst hp; exact Go.step (fun t k => XS.ixor X.here hx rfl hd rfl k) k
theorem g_ishl (X : Stand p l e R s m args below meth c T locs cells slots) (hx : p.tables.exec = Jvm.exec) {x y : Int32} (pc' : Nat) (hd : decode c.code pc = .ok (.ishl, 1))  (hp : pc + 1 = pc')
    (k : Go p e below Q T (mkF m pc' Ls (.int (x <<< (y &&& 31)) :: rest))) : Go p e below Q T (mkF m pc Ls (.int y :: .int x :: rest)) := by
  subst hp; exact Go.step (fun t k => XS.ishl X.here hx rfl hd rfl k) k
theorem g_ishr (X : Stand p l e R s m args below meth c T locs cells slots) (hx : p.tables.exec = Jvm.exec) {x y : Int32} (pc' : Nat) (hd : decode c.code pc = .ok (.ishr, 1))  (hp : pc + 1 = pc')
    (k : Go p e below Q T (mkF m pc' Ls (.int (x >>> (y &&& 31)) :: rest))) : Go p e below Q T (mkF m pc Ls (.int y :: .int x :: rest)) := by
  subst hp; exact Go.step (fun t k => XS.ishr X.here hx rfl hd rfl k) k
theorem g_iushr (X : Stand p l e R s m args below meth c T locs cells slots) (hx : p.tables.exec = Jvm.exec) {x y : Int32} (pc' : Nat) (hd : decode c.code pc = .ok (.iushr, 1))  (hp : pc + 1 = pc')
    (k : Go p e below Q T (mkF m pc' Ls (.int ((x.toUInt32 >>> (y &&& 31).toUInt32).toInt32) :: rest))) : Go p e below Q T (mkF m pc Ls (.int y :: .int x :: rest)) := by
  subst hp; exact Go.step (fun t k => XS.iushr X.here hx rfl hd rfl k) k
theorem g_irem (X : Stand p l e R s m args below meth c T locs cells slots) (hx : p.tables.exec = Jvm.exec) {x y : Int32} (pc' : Nat) (hd : decode c.code pc = .ok (.irem, 1)) (hy : y ≠ 0) (hp : pc + 1 = pc')
    (k : Go p e below Q T (mkF m pc' Ls (.int (x % y) :: rest))) : Go p e below Q T (mkF m pc Ls (.int y :: .int x :: rest)) := by
  subst hp; exact Go.step (fun t k => iremM X hx rfl hd rfl hy k) k
theorem g_idiv (X : Stand p l e R s m args below meth c T locs cells slots) (hx : p.tables.exec = Jvm.exec) {x y : Int32} (pc' : Nat) (hd : decode c.code pc = .ok (.idiv, 1)) (hy : y ≠ 0) (hp : pc + 1 = pc')
    (k : Go p e below Q T (mkF m pc' Ls (.int (x / y) :: rest))) : Go p e below Q T (mkF m pc Ls (.int y :: .int x :: rest)) := by
  subst hp; exact Go.step (fun t k => XS.idiv X.here hx rfl hd rfl hy k) k
theorem g_ladd (X : Stand p l e R s m args below meth c T locs cells slots) (hx : p.tables.exec = Jvm.exec) {x y : Int64} (pc' : Nat) (hd : decode c.code pc = .ok (.ladd, 1))  (hp : pc + 1 = pc')
    (k : Go p e below Q T (mkF m pc' Ls (.long (x + y) :: rest))) : Go p e below Q T (mkF m pc Ls (.long y :: .long x :: rest)) := by
  subst hp; exact Go.step (fun t k => XS.ladd X.here hx rfl hd rfl k) k
theorem g_lsub (X : Stand p l e R s m args below meth c T locs cells slots) (hx : p.tables.exec = Jvm.exec) {x y : Int64} (pc' : Nat) (hd : decode c.code pc = .ok (.lsub, 1))  (hp : pc + 1 = pc')
    (k : Go p e below Q T (mkF m pc' Ls (.long (x - y) :: rest))) : Go p e below Q T (mkF m pc Ls (.long y :: .long x :: rest)) := by
  subst hp; exact Go.step (fun t k => XS.lsub X.here hx rfl hd rfl k) k
theorem g_lmul (X : Stand p l e R s m args below meth c T locs cells slots) (hx : p.tables.exec = Jvm.exec) {x y : Int64} (pc' : Nat) (hd : decode c.code pc = .ok (.lmul, 1))  (hp : pc + 1 = pc')
    (k : Go p e below Q T (mkF m pc' Ls (.long (x * y) :: rest))) : Go p e below Q T (mkF m pc Ls (.long y :: .long x :: rest)) := by
  subst hp; exact Go.step (fun t k => XS.lmul X.here hx rfl hd rfl k) k
theorem g_land (X : Stand p l e R s m args below meth c T locs cells slots) (hx : p.tables.exec = Jvm.exec) {x y : Int64} (pc' : Nat) (hd : decode c.code pc = .ok (.land, 1))  (hp : pc + 1 = pc')
    (k : Go p e below Q T (mkF m pc' Ls (.long (x &&& y) :: rest))) : Go p e below Q T (mkF m pc Ls (.long y :: .long x :: rest)) := by
  subst hp; exact Go.step (fun t k => XS.land X.here hx rfl hd rfl k) k
theorem g_lor (X : Stand p l e R s m args below meth c T locs cells slots) (hx : p.tables.exec = Jvm.exec) {x y : Int64} (pc' : Nat) (hd : decode c.code pc = .ok (.lor, 1))  (hp : pc + 1 = pc')
    (k : Go p e below Q T (mkF m pc' Ls (.long (x ||| y) :: rest))) : Go p e below Q T (mkF m pc Ls (.long y :: .long x :: rest)) := by
  subst hp; exact Go.step (fun t k => XS.lor X.here hx rfl hd rfl k) k
theorem g_lxor (X : Stand p l e R s m args below meth c T locs cells slots) (hx : p.tables.exec = Jvm.exec) {x y : Int64} (pc' : Nat) (hd : decode c.code pc = .ok (.lxor, 1))  (hp : pc + 1 = pc')
    (k : Go p e below Q T (mkF m pc' Ls (.long (x ^^^ y) :: rest))) : Go p e below Q T (mkF m pc Ls (.long y :: .long x :: rest)) := by
  subst hp; exact Go.step (fun t k => XS.lxor X.here hx rfl hd rfl k) k
theorem g_ldiv (X : Stand p l e R s m args below meth c T locs cells slots) (hx : p.tables.exec = Jvm.exec) {x y : Int64} (pc' : Nat) (hd : decode c.code pc = .ok (.ldiv, 1)) (hy : y ≠ 0) (hp : pc + 1 = pc')
    (k : Go p e below Q T (mkF m pc' Ls (.long (x / y) :: rest))) : Go p e below Q T (mkF m pc Ls (.long y :: .long x :: rest)) := by
  subst hp; exact Go.step (fun t k => XS.ldiv X.here hx rfl hd rfl hy k) k
theorem g_lshl (X : Stand p l e R s m args below meth c T locs cells slots) (hx : p.tables.exec = Jvm.exec) {x : Int64} {y : Int32} (pc' : Nat) (hd : decode c.code pc = .ok (.lshl, 1))  (hp : pc + 1 = pc')
    (k : Go p e below Q T (mkF m pc' Ls (.long (x <<< (y &&& 0x3f).toInt64) :: rest))) : Go p e below Q T (mkF m pc Ls (.int y :: .long x :: rest)) := by
  subst hp; exact Go.step (fun t k => XS.lshl X.here hx rfl hd rfl k) k
theorem g_lshr (X : Stand p l e R s m args below meth c T locs cells slots) (hx : p.tables.exec = Jvm.exec) {x : Int64} {y : Int32} (pc' : Nat) (hd : decode c.code pc = .ok (.lshr, 1))  (hp : pc + 1 = pc')
    (k : Go p e below Q T (mkF m pc' Ls (.long (x >>> (y &&& 0x3f).toInt64) :: rest))) : Go p e below Q T (mkF m pc Ls (.int y :: .long x :: rest)) := by
  subst hp; exact Go.step (fun t k => XS.lshr X.here hx rfl hd rfl k) k
theorem g_lushr (X : Stand p l e R s m args below meth c T locs cells slots) (hx : p.tables.exec = Jvm.exec) {x : Int64} {y : Int32} (pc' : Nat) (hd : decode c.code pc = .ok (.lushr, 1))  (hp : pc + 1 = pc')
    (k : Go p e below Q T (mkF m pc' Ls (.long ((x.toUInt64 >>> (y &&& 0x3f).toInt64.toUInt64).toInt64) :: rest))) : Go p e below Q T (mkF m pc Ls (.int y :: .long x :: rest)) := by
  subst hp; exact Go.step (fun t k => XS.lushr X.here hx rfl hd rfl k) k
theorem g_i2b (X : Stand p l e R s m args below meth c T locs cells slots) (hx : p.tables.exec = Jvm.exec) {x : Int32} (pc' : Nat) (hd : decode c.code pc = .ok (.i2b, 1))  (hp : pc + 1 = pc')
    (k : Go p e below Q T (mkF m pc' Ls (.int (x.toInt8.toInt32) :: rest))) : Go p e below Q T (mkF m pc Ls (.int x :: rest)) := by
  subst hp; exact Go.step (fun t k => XS.i2b X.here hx rfl hd rfl k) k
theorem g_i2c (X : Stand p l e R s m args below meth c T locs cells slots) (hx : p.tables.exec = Jvm.exec) {x : Int32} (pc' : Nat) (hd : decode c.code pc = .ok (.i2c, 1))  (hp : pc + 1 = pc')
    (k : Go p e below Q T (mkF m pc' Ls (.int (x.toUInt32.toUInt16.toUInt32.toInt32) :: rest))) : Go p e below Q T (mkF m pc Ls (.int x :: rest)) := by
  subst hp; exact Go.step (fun t k => XS.i2c X.here hx rfl hd rfl k) k
theorem g_i2s (X : Stand p l e R s m args below meth c T locs cells slots) (hx : p.tables.exec = Jvm.exec) {x : Int32} (pc' : Nat) (hd : decode c.code pc = .ok (.i2s, 1))  (hp : pc + 1 = pc')
    (k : Go p e below Q T (mkF m pc' Ls (.int (x.toInt16.toInt32) :: rest))) : Go p e below Q T (mkF m pc Ls (.int x :: rest)) := by
  subst hp; exact Go.step (fun t k => XS.i2s X.here hx rfl hd rfl k) k
theorem g_i2l (X : Stand p l e R s m args below meth c T locs cells slots) (hx : p.tables.exec = Jvm.exec) {x : Int32} (pc' : Nat) (hd : decode c.code pc = .ok (.i2l, 1))  (hp : pc + 1 = pc')
    (k : Go p e below Q T (mkF m pc' Ls (.long (x.toInt64) :: rest))) : Go p e below Q T (mkF m pc Ls (.int x :: rest)) := by
  subst hp; exact Go.step (fun t k => XS.i2l X.here hx rfl hd rfl k) k
theorem g_l2i (X : Stand p l e R s m args below meth c T locs cells slots) (hx : p.tables.exec = Jvm.exec) {x : Int64} (pc' : Nat) (hd : decode c.code pc = .ok (.l2i, 1))  (hp : pc + 1 = pc')
    (k : Go p e below Q T (mkF m pc' Ls (.int (x.toInt32) :: rest))) : Go p e below Q T (mkF m pc Ls (.long x :: rest)) := by
  subst hp; exact Go.step (fun t k => XS.l2i X.here hx rfl hd rfl k) k
theorem g_ineg (X : Stand p l e R s m args below meth c T locs cells slots) (hx : p.tables.exec = Jvm.exec) {x : Int32} (pc' : Nat) (hd : decode c.code pc = .ok (.ineg, 1))  (hp : pc + 1 = pc')
    (k : Go p e below Q T (mkF m pc' Ls (.int (-x) :: rest))) : Go p e below Q T (mkF m pc Ls (.int x :: rest)) := by
  subst hp; exact Go.step (fun t k => XS.ineg X.here hx rfl hd rfl k) k
theorem g_lneg (X : Stand p l e R s m args below meth c T locs cells slots) (hx : p.tables.exec = Jvm.exec) {x : Int64} (pc' : Nat) (hd : decode c.code pc = .ok (.lneg, 1))  (hp : pc + 1 = pc')
    (k : Go p e below Q T (mkF m pc' Ls (.long (-x) :: rest))) : Go p e below Q T (mkF m pc Ls (.long x :: rest)) := by
  subst hp; exact Go.step (fun t k => XS.lneg X.here hx rfl hd rfl k) k
theorem g_lcmp (X : Stand p l e R s m args below meth c T locs cells slots) (hx : p.tables.exec = Jvm.exec) {x y : Int64} (pc' : Nat) (hd : decode c.code pc = .ok (.lcmp, 1))  (hp : pc + 1 = pc')
    (k : Go p e below Q T (mkF m pc' Ls (.int (Jvm.Free.XT.cmpL x y) :: rest))) : Go p e below Q T (mkF m pc Ls (.long y :: .long x :: rest)) := by
  subst hp; exact Go.step (fun t k => Jvm.Free.XT.lcmp X.here hx rfl hd rfl k) k
theorem g_iloadN (X : Stand p l e R s m args below meth c T locs cells slots) (hx : p.tables.exec = Jvm.exec) {k' : Fin 4} {v : Int32} (pc' : Nat) (hd : decode c.code pc = .ok (.iload_n k', 1)) (hl : Ls[k'.val]? = some (.val (.int v))) (hp : pc + 1 = pc')
    (k : Go p e below Q T (mkF m pc' Ls (.int v :: rest))) : Go p e below Q T (mkF m pc Ls (rest)) := by
  subst hp; exact Go.step (fun t k => XS.iloadN X.here hx rfl hd hl k) k
theorem g_iload (X : Stand p l e R s m args below meth c T locs cells slots) (hx : p.tables.exec = Jvm.exec) {k' : Nat} {v : Int32} (pc' : Nat) (hd : decode c.code pc = .ok (.iload k', 2)) (hl : Ls[k']? = some (.val (.int v))) (hp : pc + 2 = pc')
    (k : Go p e below Q T (mkF m pc' Ls (.int v :: rest))) : Go p e below Q T (mkF m pc Ls (rest)) := by
  subst hp; exact Go.step (fun t k => XS.iload X.here hx rfl hd hl k) k
theorem g_lloadN (X : Stand p l e R s m args below meth c T locs cells slots) (hx : p.tables.exec = Jvm.exec) {k' : Fin 4} {v : Int64} (pc' : Nat) (hd : decode c.code pc = .ok (.lload_n k', 1)) (hl : Ls[k'.val]? = some (.val (.long v))) (hp : pc + 1 = pc')
    (k : Go p e below Q T (mkF m pc' Ls (.long v :: rest))) : Go p e below Q T (mkF m pc Ls (rest)) := by
  subst hp; exact Go.step (fun t k => XS.lloadN X.here hx rfl hd hl k) k
theorem g_lload (X : Stand p l e R s m args below meth c T locs cells slots) (hx : p.tables.exec = Jvm.exec) {k' : Nat} {v : Int64} (pc' : Nat) (hd : decode c.code pc = .ok (.lload k', 2)) (hl : Ls[k']? = some (.val (.long v))) (hp : pc + 2 = pc')
    (k : Go p e below Q T (mkF m pc' Ls (.long v :: rest))) : Go p e below Q T (mkF m pc Ls (rest)) := by
  subst hp; exact Go.step (fun t k => XS.lload X.here hx rfl hd hl k) k
theorem g_aloadN (X : Stand p l e R s m args below meth c T locs cells slots) (hx : p.tables.exec = Jvm.exec) {k' : Fin 4} {v : Value} (pc' : Nat) (hd : decode c.code pc = .ok (.aload_n k', 1)) (hl : Ls[k'.val]? = some (.val v)) (hv : v.isRef = true) (hp : pc + 1 = pc')
    (k : Go p e below Q T (mkF m pc' Ls (v :: rest))) : Go p e below Q T (mkF m pc Ls (rest)) := by
  subst hp; exact Go.step (fun t k => XS.aloadN X.here hx rfl hd hl hv k) k
theorem g_aload (X : Stand p l e R s m args below meth c T locs cells slots) (hx : p.tables.exec = Jvm.exec) {k' : Nat} {v : Value} (pc' : Nat) (hd : decode c.code pc = .ok (.aload k', 2)) (hl : Ls[k']? = some (.val v)) (hv : v.isRef = true) (hp : pc + 2 = pc')
    (k : Go p e below Q T (mkF m pc' Ls (v :: rest))) : Go p e below Q T (mkF m pc Ls (rest)) := by
  subst hp; exact Go.step (fun t k => XS.aload X.here hx rfl hd hl hv k) k
theorem g_istoreN (X : Stand p l e R s m args below meth c T locs cells slots) (hx : p.tables.exec = Jvm.exec) {k' : Fin 4} {x : Int32} (pc' : Nat) (hd : decode c.code pc = .ok (.istore_n k', 1)) (Ls' : Array Slot) (hl : storeLocals Ls k'.val (.int x) = some Ls') (hp : pc + 1 = pc')
    (k : Go p e below Q T (mkF m pc' Ls' (rest))) : Go p e below Q T (mkF m pc Ls (.int x :: rest)) := by
  subst hp; exact Go.step (fun t k => XS.istoreN X.here hx rfl hd rfl hl k) k
theorem g_istore (X : Stand p l e R s m args below meth c T locs cells slots) (hx : p.tables.exec = Jvm.exec) {k' : Nat} {x : Int32} (pc' : Nat) (hd : decode c.code pc = .ok (.istore k', 2)) (Ls' : Array Slot) (hl : storeLocals Ls k' (.int x) = some Ls') (hp : pc + 2 = pc')
    (k : Go p e below Q T (mkF m pc' Ls' (rest))) : Go p e below Q T (mkF m pc Ls (.int x :: rest)) := by
  subst hp; exact Go.step (fun t k => XS.istore X.here hx rfl hd rfl hl k) k
theorem g_lstoreN (X : Stand p l e R s m args below meth c T locs cells slots) (hx : p.tables.exec = Jvm.exec) {k' : Fin 4} {x : Int64} (pc' : Nat) (hd : decode c.code pc = .ok (.lstore_n k', 1)) (Ls' : Array Slot) (hl : storeLocals Ls k'.val (.long x) = some Ls') (hp : pc + 1 = pc')
    (k : Go p e below Q T (mkF m pc' Ls' (rest))) : Go p e below Q T (mkF m pc Ls (.long x :: rest)) := by
  subst hp; exact Go.step (fun t k => XS.lstoreN X.here hx rfl hd rfl hl k) k
theorem g_lstore (X : Stand p l e R s m args below meth c T locs cells slots) (hx : p.tables.exec = Jvm.exec) {k' : Nat} {x : Int64} (pc' : Nat) (hd : decode c.code pc = .ok (.lstore k', 2)) (Ls' : Array Slot) (hl : storeLocals Ls k' (.long x) = some Ls') (hp : pc + 2 = pc')
    (k : Go p e below Q T (mkF m pc' Ls' (rest))) : Go p e below Q T (mkF m pc Ls (.long x :: rest)) := by
  subst hp; exact Go.step (fun t k => XS.lstore X.here hx rfl hd rfl hl k) k
theorem g_astoreN (X : Stand p l e R s m args below meth c T locs cells slots) (hx : p.tables.exec = Jvm.exec) {k' : Fin 4} {x : Value} (pc' : Nat) (hd : decode c.code pc = .ok (.astore_n k', 1)) (hv : x.isRef = true) (Ls' : Array Slot) (hl : storeLocals Ls k'.val x = some Ls') (hp : pc + 1 = pc')
    (k : Go p e below Q T (mkF m pc' Ls' (rest))) : Go p e below Q T (mkF m pc Ls (x :: rest)) := by
  subst hp; exact Go.step (fun t k => XS.astoreN X.here hx rfl hd rfl hv hl k) k
theorem g_astore (X : Stand p l e R s m args below meth c T locs cells slots) (hx : p.tables.exec = Jvm.exec) {k' : Nat} {x : Value} (pc' : Nat) (hd : decode c.code pc = .ok (.astore k', 2)) (hv : x.isRef = true) (Ls' : Array Slot) (hl : storeLocals Ls k' x = some Ls') (hp : pc + 2 = pc')
    (k : Go p e below Q T (mkF m pc' Ls' (rest))) : Go p e below Q T (mkF m pc Ls (x :: rest)) := by
  subst hp; exact Go.step (fun t k => XS.astore X.here hx rfl hd rfl hv hl k) k
theorem g_iinc (X : Stand p l e R s m args below meth c T locs cells slots) (hx : p.tables.exec = Jvm.exec) {k' : Nat} {cst : Int} {x : Int32} (pc' : Nat) (hd : decode c.code pc = .ok (.iinc k' cst, 3)) (v : Int32) (hv : Int32.ofInt cst = v) (hl : Ls[k']? = some (.val (.int x))) (Ls' : Array Slot) (hl' : storeLocals Ls k' (.int (x + v)) = some Ls') (hp : pc + 3 = pc')
    (k : Go p e below Q T (mkF m pc' Ls' (rest))) : Go p e below Q T (mkF m pc Ls (rest)) := by
  subst hp; exact Go.step (fun t k => XS.iinc X.here hx rfl hd hl (by rw [hv]; exact hl') k) k
theorem g_iincC (X : Stand p l e R s m args below meth c T locs cells slots) (hx : p.tables.exec = Jvm.exec) {k' : Nat} {cst : Int} {x : Int32} (pc' : Nat) (hd : decode c.code pc = .ok (.iinc k' cst, 3)) (v w : Int32) (hv : Int32.ofInt cst = v) (hw : x + v = w) (hl : Ls[k']? = some (.val (.int x))) (Ls' : Array Slot) (hl' : storeLocals Ls k' (.int w) = some Ls') (hp : pc + 3 = pc')
    (k : Go p e below Q T (mkF m pc' Ls' (rest))) : Go p e below Q T (mkF m pc Ls (rest)) := by
  subst hp; exact Go.step (fun t k => XS.iinc X.here hx rfl hd hl (by rw [hv, hw]; exact hl') k) k
theorem g_iconst (X : Stand p l e R s m args below meth c T locs cells slots) (hx : p.tables.exec = Jvm.exec) {i : Int} (pc' : Nat) (hd : decode c.code pc = .ok (.iconst i, 1)) (v : Int32) (hv : Int32.ofInt i = v) (hp : pc + 1 = pc')
    (k : Go p e below Q T (mkF m pc' Ls (.int v :: rest))) : Go p e below Q T (mkF m pc Ls (rest)) := by
  subst hp; exact Go.step (fun t k => XS.iconst X.here hx rfl hd (by rw [hv]; exact k)) k
theorem g_bipush (X : Stand p l e R s m args below meth c T locs cells slots) (hx : p.tables.exec = Jvm.exec) {i : Int} (pc' : Nat) (hd : decode c.code pc = .ok (.bipush i, 2)) (v : Int32) (hv : (Int8.ofInt i).toInt32 = v) (hp : pc + 2 = pc')
    (k : Go p e below Q T (mkF m pc' Ls (.int v :: rest))) : Go p e below Q T (mkF m pc Ls (rest)) := by
  subst hp; exact Go.step (fun t k => XS.bipush X.here hx rfl hd (by rw [hv]; exact k)) k
theorem g_sipush (X : Stand p l e R s m args below meth c T locs cells slots) (hx : p.tables.exec = Jvm.exec) {i : Int} (pc' : Nat) (hd : decode c.code pc = .ok (.sipush i, 3)) (v : Int32) (hv : (Int16.ofInt i).toInt32 = v) (hp : pc + 3 = pc')
    (k : Go p e below Q T (mkF m pc' Ls (.int v :: rest))) : Go p e below Q T (mkF m pc Ls (rest)) := by
  subst hp; exact Go.step (fun t k => XS.sipush X.here hx rfl hd (by rw [hv]; exact k)) k
theorem g_lconst (X : Stand p l e R s m args below meth c T locs cells slots) (hx : p.tables.exec = Jvm.exec) {i : Fin 2} (pc' : Nat) (hd : decode c.code pc = .ok (.lconst i, 1)) (v : Int64) (hv : Int64.ofNat i = v) (hp : pc + 1 = pc')
    (k : Go p e below Q T (mkF m pc' Ls (.long v :: rest))) : Go p e below Q T (mkF m pc Ls (rest)) := by
  subst hp; exact Go.step (fun t k => XS.lconst X.here hx rfl hd (by rw [hv]; exact k)) k
theorem g_null (X : Stand p l e R s m args below meth c T locs cells slots) (hx : p.tables.exec = Jvm.exec)  (pc' : Nat) (hd : decode c.code pc = .ok (.aconst_null, 1))  (hp : pc + 1 = pc')
    (k : Go p e below Q T (mkF m pc' Ls (.null :: rest))) : Go p e below Q T (mkF m pc Ls (rest)) := by
  subst hp; exact Go.step (fun t k => XS.aconstNull X.here hx rfl hd k) k
theorem g_dup (X : Stand p l e R s m args below meth c T locs cells slots) (hx : p.tables.exec = Jvm.exec) {x : Value} (pc' : Nat) (hd : decode c.code pc = .ok (.dup, 1)) (hc : x.category = 1) (hp : pc + 1 = pc')
    (k : Go p e below Q T (mkF m pc' Ls (x :: x :: rest))) : Go p e below Q T (mkF m pc Ls (x :: rest)) := by
  subst hp; exact Go.step (fun t k => XS.dup X.here hx rfl hd rfl hc k) k
theorem g_pop (X : Stand p l e R s m args below meth c T locs cells slots) (hx : p.tables.exec = Jvm.exec) {x : Value} (pc' : Nat) (hd : decode c.code pc = .ok (.pop, 1)) (hc : x.category = 1) (hp : pc + 1 = pc')
    (k : Go p e below Q T (mkF m pc' Ls (rest))) : Go p e below Q T (mkF m pc Ls (x :: rest)) := by
  subst hp; exact Go.step (fun t k => XS.pop X.here hx rfl hd rfl hc k) k
theorem g_dup2 (X : Stand p l e R s m args below meth c T locs cells slots) (hx : p.tables.exec = Jvm.exec) {x y : Value} (pc' : Nat) (hd : decode c.code pc = .ok (.dup2, 1)) (hc : x.category = 1) (hc' : y.category = 1) (hp : pc + 1 = pc')
    (k : Go p e below Q T (mkF m pc' Ls (x :: y :: x :: y :: rest))) : Go p e below Q T (mkF m pc Ls (x :: y :: rest)) := by
  subst hp; exact Go.step (fun t k => Jvm.Free.XT.dup2 X.here hx rfl hd rfl hc hc' k) k
theorem g_dupX1 (X : Stand p l e R s m args below meth c T locs cells slots) (hx : p.tables.exec = Jvm.exec) {x y : Value} (pc' : Nat) (hd : decode c.code pc = .ok (.dup_x1, 1)) (hc : x.category = 1) (hc' : y.category = 1) (hp : pc + 1 = pc')
    (k : Go p e below Q T (mkF m pc' Ls (x :: y :: x :: rest))) : Go p e below Q T (mkF m pc Ls (x :: y :: rest)) := by
  subst hp; exact Go.step (fun t k => XS.dupX1 X.here hx rfl hd rfl hc hc' k) k
theorem g_ldcI (X : Stand p l e R s m args below meth c T locs cells slots) (hx : p.tables.exec = Jvm.exec) {Z : State} {a0 : Array Value} (hZ : Z.Warmed39 s.vm) {own : String} {index : Nat} (v : Int32) (hown : s.vm.findClass own = some m.cls) (w : (Jvm.Cond.constant own index v).before a0 Z = true) (pc' : Nat) (hd : decode c.code pc = .ok (.ldc index, 2))  (hp : pc + 2 = pc')
    (k : Go p e below Q T (mkF m pc' Ls (.int v :: rest))) : Go p e below Q T (mkF m pc Ls (rest)) := by
  subst hp; exact Go.step (fun t k => X.ldcI hx hown (mv hZ w) rfl hd k) k
theorem g_ldcWI (X : Stand p l e R s m args below meth c T locs cells slots) (hx : p.tables.exec = Jvm.exec) {Z : State} {a0 : Array Value} (hZ : Z.Warmed39 s.vm) {own : String} {index : Nat} (v : Int32) (hown : s.vm.findClass own = some m.cls) (w : (Jvm.Cond.constant own index v).before a0 Z = true) (pc' : Nat) (hd : decode c.code pc = .ok (.ldc_w index, 3))  (hp : pc + 3 = pc')
    (k : Go p e below Q T (mkF m pc' Ls (.int v :: rest))) : Go p e below Q T (mkF m pc Ls (rest)) := by
  subst hp; exact Go.step (fun t k => X.ldcWI hx hown (mv hZ w) rfl hd k) k
theorem g_ldc2J (X : Stand p l e R s m args below meth c T locs cells slots) (hx : p.tables.exec = Jvm.exec) {Z : State} {a0 : Array Value} (hZ : Z.Warmed39 s.vm) {own : String} {index : Nat} (v : Int64) (hown : s.vm.findClass own = some m.cls) (w : (Jvm.Cond.constantLong own index v).before a0 Z = true) (pc' : Nat) (hd : decode c.code pc = .ok (.ldc2_w index, 3))  (hp : pc + 3 = pc')
    (k : Go p e below Q T (mkF m pc' Ls (.long v :: rest))) : Go p e below Q T (mkF m pc Ls (rest)) := by
  subst hp; exact Go.step (fun t k => X.ldc2J hx hown (mv hZ w) rfl hd k) k
theorem g_goto (X : Stand p l e R s m args below meth c T locs cells slots) (hx : p.tables.exec = Jvm.exec) (pc' : Nat) {o : Int} (hd : decode c.code pc = .ok (.goto o, 3)) (ho : 0 ≤ (pc : Int) + o) (hp : ((pc : Int) + o).toNat = pc') {st : List Value}
    (k : Go p e below Q T (mkF m pc' Ls st)) : Go p e below Q T (mkF m pc Ls st) := Go.step (fun t k => XS.goto X.here hx rfl rfl hd ho hp k) k
theorem g_ifT (X : Stand p l e R s m args below meth c T locs cells slots) (hx : p.tables.exec = Jvm.exec) (pc' : Nat) {o : Int} {cd : ClassFile.Cond} {x : Int32} (hd : decode c.code pc = .ok (.ifCond cd o, 3)) (hc : ifCond.holds cd x = true) (ho : 0 ≤ (pc : Int) + o) (hp : ((pc : Int) + o).toNat = pc')
    (k : Go p e below Q T (mkF m pc' Ls rest)) : Go p e below Q T (mkF m pc Ls (.int x :: rest)) := Go.step (fun t k => XS.ifYes X.here hx rfl rfl hd rfl hc ho hp k) k
theorem g_ifF (X : Stand p l e R s m args below meth c T locs cells slots) (hx : p.tables.exec = Jvm.exec) (pc' : Nat) {o : Int} {cd : ClassFile.Cond} {x : Int32} (hd : decode c.code pc = .ok (.ifCond cd o, 3)) (hc : ifCond.holds cd x = false) (hp : pc + 3 = pc')
    (k : Go p e below Q T (mkF m pc' Ls rest)) : Go p e below Q T (mkF m pc Ls (.int x :: rest)) := by subst hp; exact Go.step (fun t k => XS.ifNo X.here hx rfl hd rfl hc k) k
theorem g_icT (X : Stand p l e R s m args below meth c T locs cells slots) (hx : p.tables.exec = Jvm.exec) (pc' : Nat) {o : Int} {cd : ClassFile.Cond} {x y : Int32} (hd : decode c.code pc = .ok (.if_icmp cd o, 3)) (hc : if_icmp.holds cd x y = true) (ho : 0 ≤ (pc : Int) + o) (hp : ((pc : Int) + o).toNat = pc')
    (k : Go p e below Q T (mkF m pc' Ls rest)) : Go p e below Q T (mkF m pc Ls (.int y :: .int x :: rest)) := Go.step (fun t k => XS.icmpYes X.here hx rfl rfl hd rfl hc ho hp k) k
theorem g_icF (X : Stand p l e R s m args below meth c T locs cells slots) (hx : p.tables.exec = Jvm.exec) (pc' : Nat) {o : Int} {cd : ClassFile.Cond} {x y : Int32} (hd : decode c.code pc = .ok (.if_icmp cd o, 3)) (hc : if_icmp.holds cd x y = false) (hp : pc + 3 = pc')
    (k : Go p e below Q T (mkF m pc' Ls rest)) : Go p e below Q T (mkF m pc Ls (.int y :: .int x :: rest)) := by subst hp; exact Go.step (fun t k => XS.icmpNo X.here hx rfl hd rfl hc k) k
theorem g_swIn (X : Stand p l e R s m args below meth c T locs cells slots) (hx : p.tables.exec = Jvm.exec) (pc' : Nat) {dflt low high : Int} {offs : Array Int} {len : Nat} {o : Int} {i : Int32} (hd : decode c.code pc = .ok (.tableswitch dflt low high offs, len)) (hin : ¬ (i.toInt < low ∨ i.toInt > high)) (hoff : offs[(i.toInt - low).toNat]? = some o) (ho : 0 ≤ (pc : Int) + o) (hp : ((pc : Int) + o).toNat = pc')
    (k : Go p e below Q T (mkF m pc' Ls rest)) : Go p e below Q T (mkF m pc Ls (.int i :: rest)) := Go.step (fun t k => XS.tswIn X.here hx rfl rfl hd rfl hin hoff ho hp k) k
theorem g_swOut (X : Stand p l e R s m args below meth c T locs cells slots) (hx : p.tables.exec = Jvm.exec) (pc' : Nat) {dflt low high : Int} {offs : Array Int} {len : Nat} {i : Int32} (hd : decode c.code pc = .ok (.tableswitch dflt low high offs, len)) (hout : i.toInt < low ∨ i.toInt > high) (ho : 0 ≤ (pc : Int) + dflt) (hp : ((pc : Int) + dflt).toNat = pc')
    (k : Go p e below Q T (mkF m pc' Ls rest)) : Go p e below Q T (mkF m pc Ls (.int i :: rest)) := Go.step (fun t k => XS.tswOut X.here hx rfl rfl hd rfl hout ho hp k) k
theorem g_nullT (X : Stand p l e R s m args below meth c T locs cells slots) (hx : p.tables.exec = Jvm.exec) (pc' : Nat) {o : Int} (hd : decode c.code pc = .ok (.ifnull o, 3)) (ho : 0 ≤ (pc : Int) + o) (hp : ((pc : Int) + o).toNat = pc')
    (k : Go p e below Q T (mkF m pc' Ls rest)) : Go p e below Q T (mkF m pc Ls (.null :: rest)) := Go.step (fun t k => XS.ifnullYes X.here hx rfl rfl hd rfl ho hp k) k
theorem g_nullF (X : Stand p l e R s m args below meth c T locs cells slots) (hx : p.tables.exec = Jvm.exec) (pc' : Nat) {o : Int} {b : Addr} (hd : decode c.code pc = .ok (.ifnull o, 3)) (hp : pc + 3 = pc')
    (k : Go p e below Q T (mkF m pc' Ls rest)) : Go p e below Q T (mkF m pc Ls (.ref b :: rest)) := by subst hp; exact Go.step (fun t k => XS.ifnullNo X.here hx rfl hd rfl k) k
theorem g_nonnullT (X : Stand p l e R s m args below meth c T locs cells slots) (hx : p.tables.exec = Jvm.exec) (pc' : Nat) {o : Int} {b : Addr} (hd : decode c.code pc = .ok (.ifnonnull o, 3)) (ho : 0 ≤ (pc : Int) + o) (hp : ((pc : Int) + o).toNat = pc')
    (k : Go p e below Q T (mkF m pc' Ls rest)) : Go p e below Q T (mkF m pc Ls (.ref b :: rest)) := Go.step (fun t k => XS.ifnonnullYes X.here hx rfl rfl hd rfl ho hp k) k
theorem g_nonnullF (X : Stand p l e R s m args below meth c T locs cells slots) (hx : p.tables.exec = Jvm.exec) (pc' : Nat) {o : Int} (hd : decode c.code pc = .ok (.ifnonnull o, 3)) (hp : pc + 3 = pc')
    (k : Go p e below Q T (mkF m pc' Ls rest)) : Go p e below Q T (mkF m pc Ls (.null :: rest)) := by subst hp; exact Go.step (fun t k => XS.ifnonnullNo X.here hx rfl hd rfl k) k
theorem own_end {Qf : Option Value → Heap → List Loc → Prop} {kc ks : Nat} {g : JFrame} (X : Stand p l e R s m args below meth c T locs cells slots) (hx : p.tables.exec = Jvm.exec) (v : Option Value) (hv : meth.sig.returnType = none → v = none) (hlocks : meth.locks = false)
    (st : ∀ fs, (∀ (f : JFrame) (acts : List Action), f.method = m → f.locked = none → f.entered = [] → (doReturn e (T.setTop f) acts v).1 = T.setFrames fs) → Steps p.tables e below (T.setTop g) (T.setFrames fs))
    (hc : cells ≤ kc) (hs : slots ≤ ks) (hQ : Qf v T.heap locs) : Go p e below (Qend s Qf kc ks) T g := by
  obtain ⟨fs, hr, hrun, hended, hW, hsame⟩ := X.leave (v := v) hv hlocks
  exact ⟨_, _, st fs hr, hrun, hended, _, _, rfl, hQ, ⟨_, rfl⟩, hW, hsame.mono hc hs⟩
theorem g_iret {Qf : Option Value → Heap → List Loc → Prop} {kc ks : Nat} (X : Stand p l e R s m args below meth c T locs cells slots) (hx : p.tables.exec = Jvm.exec) {z : Int32} (hret : meth.sig.returnType = some .int) (hlocks : meth.locks = false) (hd : decode c.code pc = .ok (.ireturn, 1)) (hc : cells ≤ kc) (hs : slots ≤ ks)
    (hQ : Qf (some (.int z)) T.heap locs) : Go p e below (Qend s Qf kc ks) T (mkF m pc Ls (.int z :: rest)) :=
  own_end X hx _ (fun h => by rw [hret] at h; cases h) hlocks (fun fs hr => retOut X hx hret rfl (Or.inl ⟨rfl, Or.inl rfl, _, rfl⟩) hd hr) hc hs hQ
theorem g_lret {Qf : Option Value → Heap → List Loc → Prop} {kc ks : Nat} (X : Stand p l e R s m args below meth c T locs cells slots) (hx : p.tables.exec = Jvm.exec) {z : Int64} (hret : meth.sig.returnType = some .long) (hlocks : meth.locks = false) (hd : decode c.code pc = .ok (.lreturn, 1)) (hc : cells ≤ kc) (hs : slots ≤ ks)
    (hQ : Qf (some (.long z)) T.heap locs) : Go p e below (Qend s Qf kc ks) T (mkF m pc Ls (.long z :: rest)) :=
  own_end X hx _ (fun h => by rw [hret] at h; cases h) hlocks (fun fs hr => retOut X hx hret rfl (Or.inr (Or.inl ⟨rfl, rfl, _, rfl⟩)) hd hr) hc hs hQ
theorem g_nret {Qf : Option Value → Heap → List Loc → Prop} {kc ks : Nat} (X : Stand p l e R s m args below meth c T locs cells slots) (hx : p.tables.exec = Jvm.exec) {z : Int32} {t : FieldType} (ht : t = .boolean ∨ t = .byte ∨ t = .char ∨ t = .short) (hret : meth.sig.returnType = some t) (hlocks : meth.locks = false) (hd : decode c.code pc = .ok (.ireturn, 1)) (hc : cells ≤ kc) (hs : slots ≤ ks)
    (hQ : Qf (some (.int (nar t z))) T.heap locs) : Go p e below (Qend s Qf kc ks) T (mkF m pc Ls (.int z :: rest)) :=
  own_end X hx _ (fun h => by rw [hret] at h; cases h) hlocks (fun fs hr => retN X hx hret ht hd hr) hc hs hQ
theorem g_aret {Qf : Option Value → Heap → List Loc → Prop} {kc ks : Nat} (X : Stand p l e R s m args below meth c T locs cells slots) (hx : p.tables.exec = Jvm.exec) {w : Value} {t : FieldType} (ht : t.isReference = true) (hw : w.isRef = true) (hn : narrow t w = w) (hret : meth.sig.returnType = some t) (hlocks : meth.locks = false) (hd : decode c.code pc = .ok (.areturn, 1)) (hc : cells ≤ kc) (hs : slots ≤ ks)
    (hQ : Qf (some w) T.heap locs) : Go p e below (Qend s Qf kc ks) T (mkF m pc Ls (w :: rest)) :=
  own_end X hx _ (fun h => by rw [hret] at h; cases h) hlocks (fun fs hr => retOut X hx hret hn (Or.inr (Or.inr (Or.inr (Or.inr ⟨rfl, ht, hw⟩)))) hd hr) hc hs hQ
theorem g_ret0 {Qf : Option Value → Heap → List Loc → Prop} {kc ks : Nat} (X : Stand p l e R s m args below meth c T locs cells slots) (hx : p.tables.exec = Jvm.exec) (hret : meth.sig.returnType = none) (hlocks : meth.locks = false) (hd : decode c.code pc = .ok (.return_, 1)) (hc : cells ≤ kc) (hs : slots ≤ ks)
    (hQ : Qf none T.heap locs) : Go p e below (Qend s Qf kc ks) T (mkF m pc Ls []) :=
  own_end X hx _ (fun _ => rfl) hlocks (fun fs hr => X.returnOut hx hret hd hr) hc hs hQ
/-- from a body's first row -/
theorem own_start {y : MethodName} {bytes : ByteArray} {maxL : Nat} {ret : Option FieldType} {ws : List Jvm.Cond} {rm : Room} {as' : Array Value} {Z : State} {h0 : Heap} {Qf : Option Value → Heap → List Loc → Prop} (hp : plainFor y = true)
    (body : ∀ (p : Program) (e : Env) (s : State) (m : MethodId) (below : List Frame) (meth : Method) (c : Code) (T : State), Stand p l e rm s m as' below meth c T [] 0 0 → p.tables.exec = Jvm.exec → c.code = bytes → c.maxLocals = maxL → s.vm.findClass y.cls = some m.cls →
      meth.name = y.name → meth.sig.returnType = ret → meth.locks = false → Z.Warmed39 s.vm → T.heap = h0 → Go p e below (Qend s Qf rm.cells rm.slots) T (entryFrame m as' maxL)) :
    MetFree l y (head1 (Jvm.Cond.code y bytes maxL ret :: ws) rm) (fun a U => a = as' ∧ Z.Warmed39 U.vm ∧ U.heap = h0) (fun _ _ _ _ _ => True) (fun _ U o U' => ∃ v L, o = .returned v ∧ Qf v U'.heap L ∧ FrameEnd U o U' L rm.cells rm.slots) := by
  refine MetFree.of_bodySF hp hisR ?_
  intro p e s m args below meth c s₁ Bd hml0 hP hK
  obtain ⟨rfl, hZ, hh⟩ := hP
  exact body p e s m below meth c s₁ (Stand.of_body Bd) Bd.exec Bd.bytes hml0 (findClass_of_methodNamed Bd.named) (name_of_methodNamed Bd.named Bd.method).1 Bd.returns Bd.notSynchronized hZ (by rw [← hh, Bd.state]; rfl)
/-- a static call, paid by the callee's own contract -/
theorem g_callS (X : Stand p l e R s m args below meth c T locs cells slots) (hx : p.tables.exec = Jvm.exec) {Z : State} {a0 : Array Value} (hZ : Z.Warmed39 s.vm) {own : String} {index : Nat} {y : MethodName} {bytes : ByteArray} {maxL : Nat} {ret' : Option FieldType} {rm : Room} {Qc : Option Value → Heap → List Loc → Prop} {h : Heap} (pc' : Nat) (argsL : List Value) (rest : List Value) (W : Nat)
    (hown : s.vm.findClass own = some m.cls) (w1 : (Jvm.Cond.methodLink own index y).before a0 Z = true) (w2 : (Jvm.Cond.static y).before a0 Z = true) (w3 : (Jvm.Cond.initialized y.cls).before a0 Z = true) (w4 : (Jvm.Cond.code y bytes maxL ret').before a0 Z = true) (hy : y.cls ≠ "java/lang/invoke/MethodHandle" ∧ y.cls ≠ "java/lang/invoke/VarHandle")
    (eT : T.heap = h)
    (hM : MetFree l y (head1 [Jvm.Cond.code y bytes maxL ret'] rm) (fun a U => a = argsL.toArray ∧ Z.Warmed39 U.vm ∧ U.heap = h) (fun _ _ _ _ _ => True) (fun _ U o U' => ∃ v L, o = .returned v ∧ Qc v U'.heap L ∧ FrameEnd U o U' L rm.cells rm.slots))
    (hf : rm.frames + 1 ≤ R.frames) (hl : W + (maxL + 11) + rm.locals ≤ R.locals) (hcl : cells + rm.cells ≤ R.cells) (hsl : slots + rm.slots ≤ R.slots)
    (hsize : Ls.size = c.maxLocals) {st : List Value} (hstack : st = argsL.reverse ++ rest) {ps : List FieldType} {r : Option FieldType} (hdesc : parseMethodDescriptor y.desc = some ⟨ps, r⟩) (hlen : argsL.length = ps.length) (hW : (rest.map fun v => v.category).sum ≤ W) (hd : decode c.code pc = .ok (.invokestatic index, 3)) (hp : pc + 3 = pc')
    (k : ∀ (v : Option Value) (T' : State) (L : List Loc), Stand p l e R s m args below meth c T' (locs ++ L) (cells + rm.cells) (slots + rm.slots) → Qc v T'.heap L → Go p e below Q T' (mkF m pc' Ls (v.toList ++ rest))) : Go p e below Q T (mkF m pc Ls st) := by
  subst hp hstack
  obtain ⟨v, _, ⟨T', L', k', n'⟩, -, X', ⟨L, hQ, l1, y1, z1⟩, st⟩ := Jvm.LawKit.callS X hx (y := y) hown (mvT hZ w1) (mvT hZ w2) (mvT hZ w3) (mvT hZ w4) hy (backOf (W := W) hM hZ w4 w3 hf hl) (g := mkF m pc Ls (argsL.reverse ++ rest)) rfl hsize (argsL := argsL) (rest := rest) (lenOf hdesc hlen) rfl (by show 2 * 0 + _ ≤ _; omega) hd (fun _ _ => ⟨rfl, eT, hcl, hsl⟩)
  dsimp only [Pt.U, Pt.locs, Pt.cells, Pt.slots] at X' l1 y1 z1 st hQ
  subst l1 y1 z1
  exact Go.step (fun t k => st _ k) (k v T' L X' hQ)
end OwnWalk
section OwnArr
variable {p : Program} {l : Launch} {e : Env} {R : Room} {s : State} {m : MethodId} {args : Array Value} {below : List Frame} {meth : Method} {c : Code} {T : State} {locs : List Loc} {cells slots : Nat} {Q : Outcome → State → Prop} {pc : Nat} {Ls : Array Slot} {rest : List Value} {Z : State} {a0 : Array Value} {h h' : Heap} {a b : Addr} {ty : FieldType} {n : Nat} {f f' : Nat → Value} {ws : List Addr} {sl : Nat} {v : Value}
/-- in heap h the array at a has n places; place i holds f i -/
def AV (Z : State) (h : Heap) (a : Addr) (ty : FieldType) (n : Nat) (f : Nat → Value) : Prop := ∃ c : Cell, Arr Z h a c ty ∧ c.slots.size = n ∧ ∀ i, i < n → c.slots[i]? = some (f i)
theorem AV.lt (F : AV Z h a ty n f) : a < h.size := by obtain ⟨c, A, -⟩ := F; exact A.lt
theorem AV.ext (F : AV Z h a ty n f) (E : Ext h h') : AV Z h' a ty n f := by obtain ⟨c, A, r⟩ := F; exact ⟨c, A.ext E, r⟩
theorem AV.keep (F : AV Z h a ty n f) (K : Keep h h' ws) (q : a ∉ ws) : AV Z h' a ty n f := by obtain ⟨c, A, r⟩ := F; exact ⟨c, ⟨K.2.1 a c A.1 q, A.2⟩, r⟩
theorem AV.other (F : AV Z h b ty n f) (W : Wr h h' a sl v) (q : b ≠ a) : AV Z h' b ty n f := by obtain ⟨c, A, r⟩ := F; exact ⟨c, A.other W q, r⟩
theorem AV.set (F : AV Z h a ty n f) (W : Wr h h' a sl v) : AV Z h' a ty n (fun i => if i = sl then v else f i) := by
  obtain ⟨c, A, S, H⟩ := F
  refine ⟨c.setSlot sl v, A.same W, by rw [sz_set]; exact S, fun i hi => ?_⟩
  by_cases q : i = sl
  · subst q
    simp [Cell.setSlot, S, hi]
  · show (c.slots.setIfInBounds sl v)[i]? = some (if i = sl then v else f i)
    rw [Array.getElem?_setIfInBounds_ne (Ne.symm q), if_neg q]
    exact H i hi
theorem AV.congr (F : AV Z h a ty n f) (q : ∀ i, i < n → f i = f' i) : AV Z h a ty n f' := by obtain ⟨c, A, S, H⟩ := F; exact ⟨c, A, S, fun i hi => by rw [← q i hi]; exact H i hi⟩
theorem own_ix {j : Int32} {i : Nat} (hi : j.toInt = i) : j.toNatClampNeg = i := by show j.toInt.toNat = i; omega
theorem own_nn {j : Int32} {i : Nat} (hi : j.toInt = i) : ¬ j < 0 := by rw [Int32.lt_iff_toInt_lt, hi]; show ¬ (i : Int) < 0; omega
theorem own_in {c : Cell} {j : Int32} {i : Nat} (S : c.slots.size = n) (hi : j.toInt = i) (hin : i < n) : ¬ (j < 0 ∨ c.slots.size ≤ j.toNatClampNeg) := by
  rw [own_ix hi, S]; exact fun q => q.elim (own_nn hi) (fun q => by omega)
theorem g_newarr (X : Stand p l e R s m args below meth c T locs cells slots) (hx : p.tables.exec = Jvm.exec) (hZ : Z.Warmed39 s.vm) {aty : ArrayType} (pc' : Nat) (w : (Jvm.Cond.arrayClass (newarray.typeOf aty)).before a0 Z = true) (eT : T.heap = h) {z : Int32} (hd : decode c.code pc = .ok (.newarray aty, 2)) (nn : Nat) (hn : z.toInt = nn) (cap : Nat) (hcap : nn ≤ cap) (hb8 : cap * 8 ≤ 536870912) (hc : cells + 1 ≤ R.cells) (hl : slots + cap ≤ R.slots) (hp : pc + 2 = pc')
    (k : ∀ (T' : State) (a : Addr), Stand p l e R s m args below meth c T' locs (cells + 1) (slots + cap) → Ext h T'.heap → a = h.size → AV Z T'.heap a (newarray.typeOf aty) nn (fun _ => defaultValue (newarray.typeOf aty)) → Go p e below Q T' (mkF m pc' Ls (.ref a :: rest))) : Go p e below Q T (mkF m pc Ls (.int z :: rest)) := by
  subst hp
  obtain ⟨T', h', cA, X', e', E, A, st⟩ := newP X hx hZ w eT (g := mkF m pc Ls (.int z :: rest)) rfl hd rfl (own_nn hn) (cap := cap) (by rw [own_ix hn]; exact hcap) hb8 hc hl
  subst e'
  refine Go.step (fun t k => st t k) (k T' _ X' E rfl ⟨_, A, by rw [sz_new, own_ix hn], fun i hi => ?_⟩)
  simp [newA, own_ix hn, hi]
theorem g_arrlen (X : Stand p l e R s m args below meth c T locs cells slots) (hx : p.tables.exec = Jvm.exec) (hZ : Z.Warmed39 s.vm) (pc' : Nat) (eT : T.heap = h) (F : AV Z h a ty n f) (z : Int32) (hz : z.toInt = n) (hd : decode c.code pc = .ok (.arraylength, 1)) (hp : pc + 1 = pc')
    (k : Go p e below Q T (mkF m pc' Ls (.int z :: rest))) : Go p e below Q T (mkF m pc Ls (.ref a :: rest)) := by
  subst hp
  obtain ⟨cl, A, S, H⟩ := F
  have q : cl.slots.size.toInt32 = z := len_of (by rw [own_ix hz]; exact S) (own_nn hz)
  rw [← q] at k
  have st := X.arraylength hx (cell := cl) (ty := ty) (by rw [eT]; exact A.1) (State.isArrayOf_alike hZ.alike A.2.1) (g := mkF m pc Ls (.ref a :: rest)) rfl rfl hd
  exact Go.step (fun t k => st t k) k
theorem g_bastore (X : Stand p l e R s m args below meth c T locs cells slots) (hx : p.tables.exec = Jvm.exec) (hZ : Z.Warmed39 s.vm) (pc' : Nat) (eT : T.heap = h) (F : AV Z h a .byte n f) {j : Int32} {x : Int32} (hd : decode c.code pc = .ok (.bastore, 1)) (i : Nat) (hi : j.toInt = i) (hin : i < n) (hp : pc + 1 = pc')
    (k : ∀ (T' : State), Stand p l e R s m args below meth c T' (locs ++ [⟨a, i⟩]) cells slots → Wr h T'.heap a i (.int (nar .byte x)) → AV Z T'.heap a .byte n (fun q => if q = i then .int (nar .byte x) else f q) → Go p e below Q T' (mkF m pc' Ls rest)) : Go p e below Q T (mkF m pc Ls (.int x :: .int j :: .ref a :: rest)) := by
  subst hp
  obtain ⟨cl, A, S, H⟩ := F
  obtain ⟨T', h', X', e', W, st⟩ := stB X hx hZ eT A (own_in S hi hin) (g := mkF m pc Ls (.int x :: .int j :: .ref a :: rest)) rfl rfl hd
  subst e'
  rw [own_ix hi] at X' W
  exact Go.step (fun t k => st t k) (k T' X' W (AV.set ⟨cl, A, S, H⟩ W))
theorem g_iastore (X : Stand p l e R s m args below meth c T locs cells slots) (hx : p.tables.exec = Jvm.exec) (hZ : Z.Warmed39 s.vm) (pc' : Nat) (eT : T.heap = h) (F : AV Z h a .int n f) {j : Int32} {x : Int32} (hd : decode c.code pc = .ok (.iastore, 1)) (i : Nat) (hi : j.toInt = i) (hin : i < n) (hp : pc + 1 = pc')
    (k : ∀ (T' : State), Stand p l e R s m args below meth c T' (locs ++ [⟨a, i⟩]) cells slots → Wr h T'.heap a i (.int x) → AV Z T'.heap a .int n (fun q => if q = i then .int x else f q) → Go p e below Q T' (mkF m pc' Ls rest)) : Go p e below Q T (mkF m pc Ls (.int x :: .int j :: .ref a :: rest)) := by
  subst hp
  obtain ⟨cl, A, S, H⟩ := F
  obtain ⟨T', h', X', e', W, st⟩ := stI X hx hZ eT A (own_in S hi hin) (g := mkF m pc Ls (.int x :: .int j :: .ref a :: rest)) rfl rfl hd
  subst e'
  rw [own_ix hi] at X' W
  exact Go.step (fun t k => st t k) (k T' X' W (AV.set ⟨cl, A, S, H⟩ W))
theorem g_lastore (X : Stand p l e R s m args below meth c T locs cells slots) (hx : p.tables.exec = Jvm.exec) (hZ : Z.Warmed39 s.vm) (pc' : Nat) (eT : T.heap = h) (F : AV Z h a .long n f) {j : Int32} {x : Int64} (hd : decode c.code pc = .ok (.lastore, 1)) (i : Nat) (hi : j.toInt = i) (hin : i < n) (hp : pc + 1 = pc')
    (k : ∀ (T' : State), Stand p l e R s m args below meth c T' (locs ++ [⟨a, i⟩]) cells slots → Wr h T'.heap a i (.long x) → AV Z T'.heap a .long n (fun q => if q = i then .long x else f q) → Go p e below Q T' (mkF m pc' Ls rest)) : Go p e below Q T (mkF m pc Ls (.long x :: .int j :: .ref a :: rest)) := by
  subst hp
  obtain ⟨cl, A, S, H⟩ := F
  obtain ⟨T', h', X', e', W, st⟩ := stJ X hx hZ eT A (own_in S hi hin) (g := mkF m pc Ls (.long x :: .int j :: .ref a :: rest)) rfl rfl hd
  subst e'
  rw [own_ix hi] at X' W
  exact Go.step (fun t k => st t k) (k T' X' W (AV.set ⟨cl, A, S, H⟩ W))
theorem g_baload (X : Stand p l e R s m args below meth c T locs cells slots) (hx : p.tables.exec = Jvm.exec) (hZ : Z.Warmed39 s.vm) (pc' : Nat) (eT : T.heap = h) (F : AV Z h a .byte n f) {j : Int32} (hd : decode c.code pc = .ok (.baload, 1)) (i : Nat) (hi : j.toInt = i) (hin : i < n) (v : Value) (hv : f i = v) (hp : pc + 1 = pc')
    (k : Go p e below Q T (mkF m pc' Ls (v :: rest))) : Go p e below Q T (mkF m pc Ls (.int j :: .ref a :: rest)) := by
  subst hp hv
  obtain ⟨cl, A, S, H⟩ := F
  have st := X.baloadBytes hx (cell := cl) (j := j) (v := f i) (by rw [eT]; exact A.1) (State.isArrayOf_alike hZ.alike A.2.1) A.2.2 (own_in S hi hin) (by rw [own_ix hi]; exact H i hin) (g := mkF m pc Ls (.int j :: .ref a :: rest)) rfl rfl hd
  exact Go.step (fun t k => st t k) k
theorem g_iaload (X : Stand p l e R s m args below meth c T locs cells slots) (hx : p.tables.exec = Jvm.exec) (hZ : Z.Warmed39 s.vm) (pc' : Nat) (eT : T.heap = h) (F : AV Z h a .int n f) {j : Int32} (hd : decode c.code pc = .ok (.iaload, 1)) (i : Nat) (hi : j.toInt = i) (hin : i < n) (v : Value) (hv : f i = v) (hp : pc + 1 = pc')
    (k : Go p e below Q T (mkF m pc' Ls (v :: rest))) : Go p e below Q T (mkF m pc Ls (.int j :: .ref a :: rest)) := by
  subst hp hv
  obtain ⟨cl, A, S, H⟩ := F
  have st := X.iaload hx (cell := cl) (j := j) (v := f i) (by rw [eT]; exact A.1) (State.isArrayOf_alike hZ.alike A.2.1) A.2.2 (own_in S hi hin) (by rw [own_ix hi]; exact H i hin) (g := mkF m pc Ls (.int j :: .ref a :: rest)) rfl rfl hd
  exact Go.step (fun t k => st t k) k
theorem g_laload (X : Stand p l e R s m args below meth c T locs cells slots) (hx : p.tables.exec = Jvm.exec) (hZ : Z.Warmed39 s.vm) (pc' : Nat) (eT : T.heap = h) (F : AV Z h a .long n f) {j : Int32} (hd : decode c.code pc = .ok (.laload, 1)) (i : Nat) (hi : j.toInt = i) (hin : i < n) (v : Value) (hv : f i = v) (hp : pc + 1 = pc')
    (k : Go p e below Q T (mkF m pc' Ls (v :: rest))) : Go p e below Q T (mkF m pc Ls (.int j :: .ref a :: rest)) := by
  subst hp hv
  obtain ⟨cl, A, S, H⟩ := F
  have st := X.laload hx (cell := cl) (j := j) (v := f i) (by rw [eT]; exact A.1) (State.isArrayOf_alike hZ.alike A.2.1) A.2.2 (own_in S hi hin) (by rw [own_ix hi]; exact H i hin) (g := mkF m pc Ls (.int j :: .ref a :: rest)) rfl rfl hd
  exact Go.step (fun t k => st t k) k
end OwnArr

theorem d1_0 : decode method_4_code 0 = .ok (.iload_n 0, 1) := by decide +kernel
theorem d1_1 : decode method_4_code 1 = .ok (.iconst 2, 1) := by decide +kernel
theorem d1_2 : decode method_4_code 2 = .ok (.iushr, 1) := by decide +kernel
theorem d1_3 : decode method_4_code 3 = .ok (.iconst 3, 1) := by decide +kernel
theorem d1_4 : decode method_4_code 4 = .ok (.iand, 1) := by decide +kernel
theorem d1_5 : decode method_4_code 5 = .ok (.istore_n 1, 1) := by decide +kernel
theorem d1_6 : decode method_4_code 6 = .ok (.iload_n 1, 1) := by decide +kernel
theorem d1_7 : decode method_4_code 7 = .ok (.iconst 1, 1) := by decide +kernel
theorem d1_8 : decode method_4_code 8 = .ok (.iadd, 1) := by decide +kernel
theorem d1_9 : decode method_4_code 9 = .ok (.iload_n 0, 1) := by decide +kernel
theorem d1_10 : decode method_4_code 10 = .ok (.iconst 4, 1) := by decide +kernel
theorem d1_11 : decode method_4_code 11 = .ok (.iushr, 1) := by decide +kernel
theorem d1_12 : decode method_4_code 12 = .ok (.iconst 3, 1) := by decide +kernel
theorem d1_13 : decode method_4_code 13 = .ok (.iand, 1) := by decide +kernel
theorem d1_14 : decode method_4_code 14 = .ok (.iadd, 1) := by decide +kernel
theorem d1_15 : decode method_4_code 15 = .ok (.istore_n 2, 1) := by decide +kernel
theorem d1_16 : decode method_4_code 16 = .ok (.iload_n 2, 1) := by decide +kernel
theorem d1_17 : decode method_4_code 17 = .ok (.iconst 1, 1) := by decide +kernel
theorem d1_18 : decode method_4_code 18 = .ok (.iadd, 1) := by decide +kernel
theorem d1_19 : decode method_4_code 19 = .ok (.iload_n 0, 1) := by decide +kernel
theorem d1_20 : decode method_4_code 20 = .ok (.bipush 6, 2) := by decide +kernel
theorem d1_22 : decode method_4_code 22 = .ok (.iushr, 1) := by decide +kernel
theorem d1_23 : decode method_4_code 23 = .ok (.iconst 3, 1) := by decide +kernel
theorem d1_24 : decode method_4_code 24 = .ok (.iand, 1) := by decide +kernel
theorem d1_25 : decode method_4_code 25 = .ok (.iadd, 1) := by decide +kernel
theorem d1_26 : decode method_4_code 26 = .ok (.istore_n 3, 1) := by decide +kernel
theorem d1_27 : decode method_4_code 27 = .ok (.iconst 3, 1) := by decide +kernel
theorem d1_28 : decode method_4_code 28 = .ok (.newarray .int, 2) := by decide +kernel
theorem d1_30 : decode method_4_code 30 = .ok (.dup, 1) := by decide +kernel
theorem d1_31 : decode method_4_code 31 = .ok (.iconst 0, 1) := by decide +kernel
theorem d1_32 : decode method_4_code 32 = .ok (.iload_n 1, 1) := by decide +kernel
theorem d1_33 : decode method_4_code 33 = .ok (.iastore, 1) := by decide +kernel
theorem d1_34 : decode method_4_code 34 = .ok (.dup, 1) := by decide +kernel
theorem d1_35 : decode method_4_code 35 = .ok (.iconst 1, 1) := by decide +kernel
theorem d1_36 : decode method_4_code 36 = .ok (.iload_n 2, 1) := by decide +kernel
theorem d1_37 : decode method_4_code 37 = .ok (.iastore, 1) := by decide +kernel
theorem d1_38 : decode method_4_code 38 = .ok (.dup, 1) := by decide +kernel
theorem d1_39 : decode method_4_code 39 = .ok (.iconst 2, 1) := by decide +kernel
theorem d1_40 : decode method_4_code 40 = .ok (.iload_n 3, 1) := by decide +kernel
theorem d1_41 : decode method_4_code 41 = .ok (.iastore, 1) := by decide +kernel
theorem d1_42 : decode method_4_code 42 = .ok (.areturn, 1) := by decide +kernel
theorem d2_0 : decode method_5_code 0 = .ok (.iconst 3, 1) := by decide +kernel
theorem d2_1 : decode method_5_code 1 = .ok (.newarray .int, 2) := by decide +kernel
theorem d2_3 : decode method_5_code 3 = .ok (.dup, 1) := by decide +kernel
theorem d2_4 : decode method_5_code 4 = .ok (.iconst 0, 1) := by decide +kernel
theorem d2_5 : decode method_5_code 5 = .ok (.iload_n 0, 1) := by decide +kernel
theorem d2_6 : decode method_5_code 6 = .ok (.bipush 8, 2) := by decide +kernel
theorem d2_8 : decode method_5_code 8 = .ok (.iushr, 1) := by decide +kernel
theorem d2_9 : decode method_5_code 9 = .ok (.iconst 1, 1) := by decide +kernel
theorem d2_10 : decode method_5_code 10 = .ok (.iand, 1) := by decide +kernel
theorem d2_11 : decode method_5_code 11 = .ok (.iastore, 1) := by decide +kernel
theorem d2_12 : decode method_5_code 12 = .ok (.dup, 1) := by decide +kernel
theorem d2_13 : decode method_5_code 13 = .ok (.iconst 1, 1) := by decide +kernel
theorem d2_14 : decode method_5_code 14 = .ok (.iload_n 0, 1) := by decide +kernel
theorem d2_15 : decode method_5_code 15 = .ok (.bipush 9, 2) := by decide +kernel
theorem d2_17 : decode method_5_code 17 = .ok (.iushr, 1) := by decide +kernel
theorem d2_18 : decode method_5_code 18 = .ok (.iconst 1, 1) := by decide +kernel
theorem d2_19 : decode method_5_code 19 = .ok (.iand, 1) := by decide +kernel
theorem d2_20 : decode method_5_code 20 = .ok (.iastore, 1) := by decide +kernel
theorem d2_21 : decode method_5_code 21 = .ok (.dup, 1) := by decide +kernel
theorem d2_22 : decode method_5_code 22 = .ok (.iconst 2, 1) := by decide +kernel
theorem d2_23 : decode method_5_code 23 = .ok (.iload_n 0, 1) := by decide +kernel
theorem d2_24 : decode method_5_code 24 = .ok (.bipush 10, 2) := by decide +kernel
theorem d2_26 : decode method_5_code 26 = .ok (.iushr, 1) := by decide +kernel
theorem d2_27 : decode method_5_code 27 = .ok (.iconst 1, 1) := by decide +kernel
theorem d2_28 : decode method_5_code 28 = .ok (.iand, 1) := by decide +kernel
theorem d2_29 : decode method_5_code 29 = .ok (.iastore, 1) := by decide +kernel
theorem d2_30 : decode method_5_code 30 = .ok (.areturn, 1) := by decide +kernel
theorem d3_0 : decode method_6_code 0 = .ok (.iload_n 3, 1) := by decide +kernel
theorem d3_1 : decode method_6_code 1 = .ok (.iconst 2, 1) := by decide +kernel
theorem d3_2 : decode method_6_code 2 = .ok (.aload_n 1, 1) := by decide +kernel
theorem d3_3 : decode method_6_code 3 = .ok (.iconst 0, 1) := by decide +kernel
theorem d3_4 : decode method_6_code 4 = .ok (.iaload, 1) := by decide +kernel
theorem d3_5 : decode method_6_code 5 = .ok (.imul, 1) := by decide +kernel
theorem d3_6 : decode method_6_code 6 = .ok (.iadd, 1) := by decide +kernel
theorem d3_7 : decode method_6_code 7 = .ok (.aload_n 2, 1) := by decide +kernel
theorem d3_8 : decode method_6_code 8 = .ok (.iconst 0, 1) := by decide +kernel
theorem d3_9 : decode method_6_code 9 = .ok (.iaload, 1) := by decide +kernel
theorem d3_10 : decode method_6_code 10 = .ok (.iadd, 1) := by decide +kernel
theorem d3_11 : decode method_6_code 11 = .ok (.istore 4, 2) := by decide +kernel
theorem d3_13 : decode method_6_code 13 = .ok (.iload_n 3, 1) := by decide +kernel
theorem d3_14 : decode method_6_code 14 = .ok (.iconst 2, 1) := by decide +kernel
theorem d3_15 : decode method_6_code 15 = .ok (.aload_n 1, 1) := by decide +kernel
theorem d3_16 : decode method_6_code 16 = .ok (.iconst 1, 1) := by decide +kernel
theorem d3_17 : decode method_6_code 17 = .ok (.iaload, 1) := by decide +kernel
theorem d3_18 : decode method_6_code 18 = .ok (.imul, 1) := by decide +kernel
theorem d3_19 : decode method_6_code 19 = .ok (.iadd, 1) := by decide +kernel
theorem d3_20 : decode method_6_code 20 = .ok (.aload_n 2, 1) := by decide +kernel
theorem d3_21 : decode method_6_code 21 = .ok (.iconst 1, 1) := by decide +kernel
theorem d3_22 : decode method_6_code 22 = .ok (.iaload, 1) := by decide +kernel
theorem d3_23 : decode method_6_code 23 = .ok (.iadd, 1) := by decide +kernel
theorem d3_24 : decode method_6_code 24 = .ok (.istore 5, 2) := by decide +kernel
theorem d3_26 : decode method_6_code 26 = .ok (.iload_n 3, 1) := by decide +kernel
theorem d3_27 : decode method_6_code 27 = .ok (.iconst 2, 1) := by decide +kernel
theorem d3_28 : decode method_6_code 28 = .ok (.aload_n 1, 1) := by decide +kernel
theorem d3_29 : decode method_6_code 29 = .ok (.iconst 2, 1) := by decide +kernel
theorem d3_30 : decode method_6_code 30 = .ok (.iaload, 1) := by decide +kernel
theorem d3_31 : decode method_6_code 31 = .ok (.imul, 1) := by decide +kernel
theorem d3_32 : decode method_6_code 32 = .ok (.iadd, 1) := by decide +kernel
theorem d3_33 : decode method_6_code 33 = .ok (.aload_n 2, 1) := by decide +kernel
theorem d3_34 : decode method_6_code 34 = .ok (.iconst 2, 1) := by decide +kernel
theorem d3_35 : decode method_6_code 35 = .ok (.iaload, 1) := by decide +kernel
theorem d3_36 : decode method_6_code 36 = .ok (.iadd, 1) := by decide +kernel
theorem d3_37 : decode method_6_code 37 = .ok (.istore 6, 2) := by decide +kernel
theorem d3_39 : decode method_6_code 39 = .ok (.iload_n 0, 1) := by decide +kernel
theorem d3_40 : decode method_6_code 40 = .ok (.ifCond .ne 7, 3) := by decide +kernel
theorem d3_43 : decode method_6_code 43 = .ok (.iconst 0, 1) := by decide +kernel
theorem d3_44 : decode method_6_code 44 = .ok (.newarray .int, 2) := by decide +kernel
theorem d3_46 : decode method_6_code 46 = .ok (.areturn, 1) := by decide +kernel
theorem d3_47 : decode method_6_code 47 = .ok (.iload_n 0, 1) := by decide +kernel
theorem d3_48 : decode method_6_code 48 = .ok (.iconst 1, 1) := by decide +kernel
theorem d3_49 : decode method_6_code 49 = .ok (.if_icmp .ne 12, 3) := by decide +kernel
theorem d3_52 : decode method_6_code 52 = .ok (.iconst 1, 1) := by decide +kernel
theorem d3_53 : decode method_6_code 53 = .ok (.newarray .int, 2) := by decide +kernel
theorem d3_55 : decode method_6_code 55 = .ok (.dup, 1) := by decide +kernel
theorem d3_56 : decode method_6_code 56 = .ok (.iconst 0, 1) := by decide +kernel
theorem d3_57 : decode method_6_code 57 = .ok (.iload 4, 2) := by decide +kernel
theorem d3_59 : decode method_6_code 59 = .ok (.iastore, 1) := by decide +kernel
theorem d3_60 : decode method_6_code 60 = .ok (.areturn, 1) := by decide +kernel
theorem d3_61 : decode method_6_code 61 = .ok (.iload_n 0, 1) := by decide +kernel
theorem d3_62 : decode method_6_code 62 = .ok (.iconst 2, 1) := by decide +kernel
theorem d3_63 : decode method_6_code 63 = .ok (.if_icmp .ne 17, 3) := by decide +kernel
theorem d3_66 : decode method_6_code 66 = .ok (.iconst 2, 1) := by decide +kernel
theorem d3_67 : decode method_6_code 67 = .ok (.newarray .int, 2) := by decide +kernel
theorem d3_69 : decode method_6_code 69 = .ok (.dup, 1) := by decide +kernel
theorem d3_70 : decode method_6_code 70 = .ok (.iconst 0, 1) := by decide +kernel
theorem d3_71 : decode method_6_code 71 = .ok (.iload 4, 2) := by decide +kernel
theorem d3_73 : decode method_6_code 73 = .ok (.iastore, 1) := by decide +kernel
theorem d3_74 : decode method_6_code 74 = .ok (.dup, 1) := by decide +kernel
theorem d3_75 : decode method_6_code 75 = .ok (.iconst 1, 1) := by decide +kernel
theorem d3_76 : decode method_6_code 76 = .ok (.iload 5, 2) := by decide +kernel
theorem d3_78 : decode method_6_code 78 = .ok (.iastore, 1) := by decide +kernel
theorem d3_79 : decode method_6_code 79 = .ok (.areturn, 1) := by decide +kernel
theorem d3_80 : decode method_6_code 80 = .ok (.iconst 3, 1) := by decide +kernel
theorem d3_81 : decode method_6_code 81 = .ok (.newarray .int, 2) := by decide +kernel
theorem d3_83 : decode method_6_code 83 = .ok (.dup, 1) := by decide +kernel
theorem d3_84 : decode method_6_code 84 = .ok (.iconst 0, 1) := by decide +kernel
theorem d3_85 : decode method_6_code 85 = .ok (.iload 4, 2) := by decide +kernel
theorem d3_87 : decode method_6_code 87 = .ok (.iastore, 1) := by decide +kernel
theorem d3_88 : decode method_6_code 88 = .ok (.dup, 1) := by decide +kernel
theorem d3_89 : decode method_6_code 89 = .ok (.iconst 1, 1) := by decide +kernel
theorem d3_90 : decode method_6_code 90 = .ok (.iload 5, 2) := by decide +kernel
theorem d3_92 : decode method_6_code 92 = .ok (.iastore, 1) := by decide +kernel
theorem d3_93 : decode method_6_code 93 = .ok (.dup, 1) := by decide +kernel
theorem d3_94 : decode method_6_code 94 = .ok (.iconst 2, 1) := by decide +kernel
theorem d3_95 : decode method_6_code 95 = .ok (.iload 6, 2) := by decide +kernel
theorem d3_97 : decode method_6_code 97 = .ok (.iastore, 1) := by decide +kernel
theorem d3_98 : decode method_6_code 98 = .ok (.areturn, 1) := by decide +kernel
theorem d4_0 : decode method_3_code 0 = .ok (.iload_n 0, 1) := by decide +kernel
theorem d4_1 : decode method_3_code 1 = .ok (.iload_n 2, 1) := by decide +kernel
theorem d4_2 : decode method_3_code 2 = .ok (.if_icmp .ge 34, 3) := by decide +kernel
theorem d4_5 : decode method_3_code 5 = .ok (.iload_n 1, 1) := by decide +kernel
theorem d4_6 : decode method_3_code 6 = .ok (.iload_n 3, 1) := by decide +kernel
theorem d4_7 : decode method_3_code 7 = .ok (.if_icmp .ge 29, 3) := by decide +kernel
theorem d4_10 : decode method_3_code 10 = .ok (.aload 4, 2) := by decide +kernel
theorem d4_12 : decode method_3_code 12 = .ok (.iload_n 0, 1) := by decide +kernel
theorem d4_13 : decode method_3_code 13 = .ok (.iaload, 1) := by decide +kernel
theorem d4_14 : decode method_3_code 14 = .ok (.aload 5, 2) := by decide +kernel
theorem d4_16 : decode method_3_code 16 = .ok (.iload_n 1, 1) := by decide +kernel
theorem d4_17 : decode method_3_code 17 = .ok (.iaload, 1) := by decide +kernel
theorem d4_18 : decode method_3_code 18 = .ok (.if_icmp .ne 18, 3) := by decide +kernel
theorem d4_21 : decode method_3_code 21 = .ok (.aload 6, 2) := by decide +kernel
theorem d4_23 : decode method_3_code 23 = .ok (.iload_n 0, 1) := by decide +kernel
theorem d4_24 : decode method_3_code 24 = .ok (.iaload, 1) := by decide +kernel
theorem d4_25 : decode method_3_code 25 = .ok (.aload 7, 2) := by decide +kernel
theorem d4_27 : decode method_3_code 27 = .ok (.iload_n 1, 1) := by decide +kernel
theorem d4_28 : decode method_3_code 28 = .ok (.iaload, 1) := by decide +kernel
theorem d4_29 : decode method_3_code 29 = .ok (.if_icmp .eq 7, 3) := by decide +kernel
theorem d4_32 : decode method_3_code 32 = .ok (.iconst 1, 1) := by decide +kernel
theorem d4_33 : decode method_3_code 33 = .ok (.goto 4, 3) := by decide +kernel
theorem d4_36 : decode method_3_code 36 = .ok (.iconst 0, 1) := by decide +kernel
theorem d4_37 : decode method_3_code 37 = .ok (.ireturn, 1) := by decide +kernel
theorem d5_0 : decode prog_25_method_8_code 0 = .ok (.iconst 0, 1) := by decide +kernel
theorem d5_1 : decode prog_25_method_8_code 1 = .ok (.istore_n 2, 1) := by decide +kernel
theorem d5_2 : decode prog_25_method_8_code 2 = .ok (.iconst 0, 1) := by decide +kernel
theorem d5_3 : decode prog_25_method_8_code 3 = .ok (.istore_n 3, 1) := by decide +kernel
theorem d5_4 : decode prog_25_method_8_code 4 = .ok (.iload_n 2, 1) := by decide +kernel
theorem d5_5 : decode prog_25_method_8_code 5 = .ok (.aload_n 0, 1) := by decide +kernel
theorem d5_6 : decode prog_25_method_8_code 6 = .ok (.arraylength, 1) := by decide +kernel
theorem d5_7 : decode prog_25_method_8_code 7 = .ok (.if_icmp .ge 64, 3) := by decide +kernel
theorem d5_10 : decode prog_25_method_8_code 10 = .ok (.iload_n 3, 1) := by decide +kernel
theorem d5_11 : decode prog_25_method_8_code 11 = .ok (.aload_n 1, 1) := by decide +kernel
theorem d5_12 : decode prog_25_method_8_code 12 = .ok (.arraylength, 1) := by decide +kernel
theorem d5_13 : decode prog_25_method_8_code 13 = .ok (.if_icmp .ge 58, 3) := by decide +kernel
theorem d5_16 : decode prog_25_method_8_code 16 = .ok (.aload_n 0, 1) := by decide +kernel
theorem d5_17 : decode prog_25_method_8_code 17 = .ok (.iload_n 2, 1) := by decide +kernel
theorem d5_18 : decode prog_25_method_8_code 18 = .ok (.iaload, 1) := by decide +kernel
theorem d5_19 : decode prog_25_method_8_code 19 = .ok (.iconst 2, 1) := by decide +kernel
theorem d5_20 : decode prog_25_method_8_code 20 = .ok (.idiv, 1) := by decide +kernel
theorem d5_21 : decode prog_25_method_8_code 21 = .ok (.istore 4, 2) := by decide +kernel
theorem d5_23 : decode prog_25_method_8_code 23 = .ok (.aload_n 1, 1) := by decide +kernel
theorem d5_24 : decode prog_25_method_8_code 24 = .ok (.iload_n 3, 1) := by decide +kernel
theorem d5_25 : decode prog_25_method_8_code 25 = .ok (.iaload, 1) := by decide +kernel
theorem d5_26 : decode prog_25_method_8_code 26 = .ok (.iconst 2, 1) := by decide +kernel
theorem d5_27 : decode prog_25_method_8_code 27 = .ok (.idiv, 1) := by decide +kernel
theorem d5_28 : decode prog_25_method_8_code 28 = .ok (.istore 5, 2) := by decide +kernel
theorem d5_30 : decode prog_25_method_8_code 30 = .ok (.iload 4, 2) := by decide +kernel
theorem d5_32 : decode prog_25_method_8_code 32 = .ok (.iload 5, 2) := by decide +kernel
theorem d5_34 : decode prog_25_method_8_code 34 = .ok (.if_icmp .ne 14, 3) := by decide +kernel
theorem d5_37 : decode prog_25_method_8_code 37 = .ok (.aload_n 0, 1) := by decide +kernel
theorem d5_38 : decode prog_25_method_8_code 38 = .ok (.iload_n 2, 1) := by decide +kernel
theorem d5_39 : decode prog_25_method_8_code 39 = .ok (.iaload, 1) := by decide +kernel
theorem d5_40 : decode prog_25_method_8_code 40 = .ok (.aload_n 1, 1) := by decide +kernel
theorem d5_41 : decode prog_25_method_8_code 41 = .ok (.iload_n 3, 1) := by decide +kernel
theorem d5_42 : decode prog_25_method_8_code 42 = .ok (.iaload, 1) := by decide +kernel
theorem d5_43 : decode prog_25_method_8_code 43 = .ok (.if_icmp .eq 5, 3) := by decide +kernel
theorem d5_46 : decode prog_25_method_8_code 46 = .ok (.iconst 1, 1) := by decide +kernel
theorem d5_47 : decode prog_25_method_8_code 47 = .ok (.ireturn, 1) := by decide +kernel
theorem d5_48 : decode prog_25_method_8_code 48 = .ok (.iload 4, 2) := by decide +kernel
theorem d5_50 : decode prog_25_method_8_code 50 = .ok (.iload 5, 2) := by decide +kernel
theorem d5_52 : decode prog_25_method_8_code 52 = .ok (.if_icmp .gt 6, 3) := by decide +kernel
theorem d5_55 : decode prog_25_method_8_code 55 = .ok (.iinc 2 1, 3) := by decide +kernel
theorem d5_58 : decode prog_25_method_8_code 58 = .ok (.iload 5, 2) := by decide +kernel
theorem d5_60 : decode prog_25_method_8_code 60 = .ok (.iload 4, 2) := by decide +kernel
theorem d5_62 : decode prog_25_method_8_code 62 = .ok (.if_icmp .gt 6, 3) := by decide +kernel
theorem d5_65 : decode prog_25_method_8_code 65 = .ok (.iinc 3 1, 3) := by decide +kernel
theorem d5_68 : decode prog_25_method_8_code 68 = .ok (.goto (-64), 3) := by decide +kernel
theorem d5_71 : decode prog_25_method_8_code 71 = .ok (.iconst 0, 1) := by decide +kernel
theorem d5_72 : decode prog_25_method_8_code 72 = .ok (.ireturn, 1) := by decide +kernel
theorem pd_0 : parseMethodDescriptor "(I)[I" = some ⟨[.int], some (.array .int)⟩ := by decide +kernel
theorem pd_1 : parseMethodDescriptor "(I[I[II)[I" = some ⟨[.int, (.array .int), (.array .int), .int], some (.array .int)⟩ := by decide +kernel
theorem pd_2 : parseMethodDescriptor "([I[I)Z" = some ⟨[(.array .int), (.array .int)], some .boolean⟩ := by decide +kernel
theorem pd_3 : parseMethodDescriptor "(IIII[I[I[I[I)Z" = some ⟨[.int, .int, .int, .int, (.array .int), (.array .int), (.array .int), (.array .int)], some .boolean⟩ := by decide +kernel
theorem pn_0 : plainFor (⟨"com/example/endless_words/endlesswords/automaton/CubeContradictPinLaw", "props", "(I)[I"⟩ : MethodName) = true := by first | exact plainFor_of_name (by first | (simp [plainName, overriddenIn]; done) | decide +kernel) | decide +kernel
theorem pn_1 : plainFor (⟨"com/example/endless_words/endlesswords/automaton/CubeContradictPinLaw", "signs", "(I)[I"⟩ : MethodName) = true := by first | exact plainFor_of_name (by first | (simp [plainName, overriddenIn]; done) | decide +kernel) | decide +kernel
theorem pn_2 : plainFor (⟨"com/example/endless_words/endlesswords/automaton/CubeContradictPinLaw", "lits", "(I[I[II)[I"⟩ : MethodName) = true := by first | exact plainFor_of_name (by first | (simp [plainName, overriddenIn]; done) | decide +kernel) | decide +kernel
theorem pn_3 : plainFor (⟨"com/example/endless_words/endlesswords/automaton/CubeContradictPinLaw", "clash", "(IIII[I[I[I[I)Z"⟩ : MethodName) = true := by first | exact plainFor_of_name (by first | (simp [plainName, overriddenIn]; done) | decide +kernel) | decide +kernel
theorem pn_4 : plainFor (⟨"com/example/endless_words/endlesswords/automaton/DisjunctiveForm$Cube", "contradict", "([I[I)Z"⟩ : MethodName) = true := by first | exact plainFor_of_name (by first | (simp [plainName, overriddenIn]; done) | decide +kernel) | decide +kernel
theorem pn_5 : plainFor x = true := by first | exact plainFor_of_name (by first | (simp [plainName, overriddenIn]; done) | decide +kernel) | decide +kernel
def pP (x : Int32) (i : Nat) : Int32 := if i = 0 then (((x.toUInt32 >>> ((2 : Int32) &&& 31).toUInt32).toInt32) &&& (3 : Int32)) else if i = 1 then (((((x.toUInt32 >>> ((2 : Int32) &&& 31).toUInt32).toInt32) &&& (3 : Int32)) + (1 : Int32)) + (((x.toUInt32 >>> ((4 : Int32) &&& 31).toUInt32).toInt32) &&& (3 : Int32))) else (((((((x.toUInt32 >>> ((2 : Int32) &&& 31).toUInt32).toInt32) &&& (3 : Int32)) + (1 : Int32)) + (((x.toUInt32 >>> ((4 : Int32) &&& 31).toUInt32).toInt32) &&& (3 : Int32))) + (1 : Int32)) + (((x.toUInt32 >>> ((6 : Int32) &&& 31).toUInt32).toInt32) &&& (3 : Int32)))
def sP (x : Int32) (i : Nat) : Int32 := if i = 0 then (((x.toUInt32 >>> ((8 : Int32) &&& 31).toUInt32).toInt32) &&& (1 : Int32)) else if i = 1 then (((x.toUInt32 >>> ((9 : Int32) &&& 31).toUInt32).toInt32) &&& (1 : Int32)) else (((x.toUInt32 >>> ((10 : Int32) &&& 31).toUInt32).toInt32) &&& (1 : Int32))
theorem own_p3 (x : Int32) : 0 ≤ (pP x 0).toInt ∧ (pP x 0).toInt < (pP x 1).toInt ∧ (pP x 1).toInt < (pP x 2).toInt ∧ (pP x 2).toInt ≤ 11 := by
  show 0 ≤ ((((x.toUInt32 >>> ((2 : Int32) &&& 31).toUInt32).toInt32) &&& (3 : Int32))).toInt ∧ ((((x.toUInt32 >>> ((2 : Int32) &&& 31).toUInt32).toInt32) &&& (3 : Int32))).toInt < ((((((x.toUInt32 >>> ((2 : Int32) &&& 31).toUInt32).toInt32) &&& (3 : Int32)) + (1 : Int32)) + (((x.toUInt32 >>> ((4 : Int32) &&& 31).toUInt32).toInt32) &&& (3 : Int32)))).toInt ∧ ((((((x.toUInt32 >>> ((2 : Int32) &&& 31).toUInt32).toInt32) &&& (3 : Int32)) + (1 : Int32)) + (((x.toUInt32 >>> ((4 : Int32) &&& 31).toUInt32).toInt32) &&& (3 : Int32)))).toInt < ((((((((x.toUInt32 >>> ((2 : Int32) &&& 31).toUInt32).toInt32) &&& (3 : Int32)) + (1 : Int32)) + (((x.toUInt32 >>> ((4 : Int32) &&& 31).toUInt32).toInt32) &&& (3 : Int32))) + (1 : Int32)) + (((x.toUInt32 >>> ((6 : Int32) &&& 31).toUInt32).toInt32) &&& (3 : Int32)))).toInt ∧ ((((((((x.toUInt32 >>> ((2 : Int32) &&& 31).toUInt32).toInt32) &&& (3 : Int32)) + (1 : Int32)) + (((x.toUInt32 >>> ((4 : Int32) &&& 31).toUInt32).toInt32) &&& (3 : Int32))) + (1 : Int32)) + (((x.toUInt32 >>> ((6 : Int32) &&& 31).toUInt32).toInt32) &&& (3 : Int32)))).toInt ≤ 11
  generalize ((x.toUInt32 >>> ((2 : Int32) &&& 31).toUInt32).toInt32) = A
  generalize ((x.toUInt32 >>> ((4 : Int32) &&& 31).toUInt32).toInt32) = B
  generalize ((x.toUInt32 >>> ((6 : Int32) &&& 31).toUInt32).toInt32) = C
  have a := c_mask A 3 2 (by decide) (by decide)
  have b := c_mask B 3 2 (by decide) (by decide)
  have c := c_mask C 3 2 (by decide) (by decide)
  generalize A &&& 3 = A' at *
  generalize B &&& 3 = B' at *
  generalize C &&& 3 = C' at *
  have z1 : (1 : Int32).toInt = 1 := by decide
  have k1 := c_iadd A' 1
  have r1 := rng32 (A' + 1)
  have k2 := c_iadd (A' + 1) B'
  have r2 := rng32 (A' + 1 + B')
  have k3 := c_iadd (A' + 1 + B') 1
  have r3 := rng32 (A' + 1 + B' + 1)
  have k4 := c_iadd (A' + 1 + B' + 1) C'
  have r4 := rng32 (A' + 1 + B' + 1 + C')
  rw [z1] at k1 k3
  omega
theorem own_s3 (x : Int32) (i : Nat) : (sP x i).toInt = 0 ∨ (sP x i).toInt = 1 := by
  unfold sP
  have h : ∀ A : Int32, (A &&& (1 : Int32)).toInt = 0 ∨ (A &&& (1 : Int32)).toInt = 1 := fun A => by
    have := c_mask A 1 1 (by decide) (by decide)
    omega
  split
  · exact h _
  · split
    · exact h _
    · exact h _
theorem own_pm (x : Int32) {i k : Nat} (h : i < k) (hk : k < 3) : (pP x i).toInt < (pP x k).toInt := by
  have q := own_p3 x
  rcases (show (i = 0 ∧ k = 1) ∨ (i = 0 ∧ k = 2) ∨ (i = 1 ∧ k = 2) by omega) with ⟨rfl, rfl⟩ | ⟨rfl, rfl⟩ | ⟨rfl, rfl⟩ <;> omega
theorem own_pb (x : Int32) {i : Nat} (h : i < 3) : 0 ≤ (pP x i).toInt ∧ (pP x i).toInt ≤ 11 := by
  have q := own_p3 x
  rcases (show i = 0 ∨ i = 1 ∨ i = 2 by omega) with rfl | rfl | rfl <;> omega
theorem own_base (k : Int32) : ∃ B : Int, (k &&& (1073741822 : Int32)).toInt = 2 * B ∧ 0 ≤ B ∧ B ≤ 536870911 := by
  have b := c_and k 1073741822 (by decide)
  have z : (1073741822 : Int32).toInt = 1073741822 := by decide
  have m := c_mask (k &&& 1073741822) 1 1 (by decide) (by decide)
  have e : (k &&& 1073741822) &&& (1 : Int32) = 0 := by
    rw [Int32.and_assoc, show (1073741822 : Int32) &&& 1 = 0 by decide, Int32.and_zero]
  rw [e] at m
  have z0 : (0 : Int32).toInt = 0 := by decide
  rw [z0] at m
  rw [z] at b
  exact ⟨(k &&& 1073741822).toInt / 2, by omega, by omega, by omega⟩
/-- a literal's worth -/
def lit (base : Int32) (P S : Nat → Int32) (i : Nat) : Int32 := (base + ((2 : Int32) * P i)) + S i
theorem own_lit {base : Int32} {B : Int} (hB : base.toInt = 2 * B ∧ 0 ≤ B ∧ B ≤ 536870911) (x : Int32) {i : Nat} (h : i < 3) : (lit base (pP x) (sP x) i).toInt = 2 * (B + (pP x i).toInt) + (sP x i).toInt := by
  have p := own_pb x h
  have s := own_s3 x i
  unfold lit
  have k1 := c_imul 2 (pP x i)
  have r1 := rng32 (2 * pP x i)
  have k2 := c_iadd base (2 * pP x i)
  have r2 := rng32 (base + 2 * pP x i)
  have k3 := c_iadd (base + 2 * pP x i) (sP x i)
  have r3 := rng32 (base + 2 * pP x i + sP x i)
  have z2 : (2 : Int32).toInt = 2 := by decide
  rw [z2] at k1
  omega
def QA (Z : State) (n : Nat) (f : Nat → Value) (h0 : Heap) (n0 : Nat) (v : Option Value) (h : Heap) (L : List Loc) : Prop := ∃ a, v = some (.ref a) ∧ Fr n0 L ∧ n0 ≤ a ∧ h0.size ≤ a ∧ Keep h0 h [] ∧ AV Z h a .int n f
set_option maxRecDepth 65536 in
set_option maxHeartbeats 40000000 in
theorem rm1 (l : Launch) (Z : State) (a0 : Array Value) (hw : ∀ d ∈ tables_1, d.before a0 Z = true) (ws : List Jvm.Cond) (x : Int32) (h0 : Heap) (n0 : Nat) (Z0 : n0 ≤ h0.size)  :
    MetFree l (⟨"com/example/endless_words/endlesswords/automaton/CubeContradictPinLaw", "props", "(I)[I"⟩ : MethodName) (head1 (Jvm.Cond.code (⟨"com/example/endless_words/endlesswords/automaton/CubeContradictPinLaw", "props", "(I)[I"⟩ : MethodName) method_4_code 4 (some (.array .int)) :: ws) ({ frames := 0, cells := 1, slots := 3, locals := 0 } : Room)) (fun av_ U_ => av_ = #[(.int x)] ∧ Z.Warmed39 U_.vm ∧ U_.heap = h0) (fun _ _ _ _ _ => True) (fun _ U_ o_ W_ => ∃ v_ L_, o_ = .returned v_ ∧ QA Z 3 (fun i => .int (pP x i)) h0 n0 v_ W_.heap L_ ∧ FrameEnd U_ o_ W_ L_ ({ frames := 0, cells := 1, slots := 3, locals := 0 } : Room).cells ({ frames := 0, cells := 1, slots := 3, locals := 0 } : Room).slots) := by
  refine own_start pn_0 ?_
  intro p e s m below meth c T0 X0 hx hby hml hown hnm hret hlk hZ e0
  have N0 := Fr.nil n0
  have M0 := Z0
  have K0 : Keep h0 h0 [] := Keep.refl _ _
  refine Go.cast (show entryFrame m #[(.int x)] 4 = (mkF m 0 #[.val (.int x), .unset, .unset, .unset] []) from (by first | (simp [entryFrame, mkF, argsToLocals, Value.category, maxLocals]; done) | rfl)) ?_
  refine g_iloadN X0 hx 1 (hb hby d1_0) rfl rfl ?_
  refine g_iconst X0 hx 2 (hb hby d1_1) (2 : Int32) (by decide) rfl ?_
  refine g_iushr X0 hx 3 (hb hby d1_2) rfl ?_
  refine g_iconst X0 hx 4 (hb hby d1_3) (3 : Int32) (by decide) rfl ?_
  refine g_iand X0 hx 5 (hb hby d1_4) rfl ?_
  refine g_istoreN X0 hx 6 (hb hby d1_5) #[.val (.int x), .val (.int (((x.toUInt32 >>> ((2 : Int32) &&& 31).toUInt32).toInt32) &&& (3 : Int32))), .unset, .unset] rfl rfl ?_
  refine g_iloadN X0 hx 7 (hb hby d1_6) rfl rfl ?_
  refine g_iconst X0 hx 8 (hb hby d1_7) (1 : Int32) (by decide) rfl ?_
  refine g_iadd X0 hx 9 (hb hby d1_8) rfl ?_
  refine g_iloadN X0 hx 10 (hb hby d1_9) rfl rfl ?_
  refine g_iconst X0 hx 11 (hb hby d1_10) (4 : Int32) (by decide) rfl ?_
  refine g_iushr X0 hx 12 (hb hby d1_11) rfl ?_
  refine g_iconst X0 hx 13 (hb hby d1_12) (3 : Int32) (by decide) rfl ?_
  refine g_iand X0 hx 14 (hb hby d1_13) rfl ?_
  refine g_iadd X0 hx 15 (hb hby d1_14) rfl ?_
  refine g_istoreN X0 hx 16 (hb hby d1_15) #[.val (.int x), .val (.int (((x.toUInt32 >>> ((2 : Int32) &&& 31).toUInt32).toInt32) &&& (3 : Int32))), .val (.int (((((x.toUInt32 >>> ((2 : Int32) &&& 31).toUInt32).toInt32) &&& (3 : Int32)) + (1 : Int32)) + (((x.toUInt32 >>> ((4 : Int32) &&& 31).toUInt32).toInt32) &&& (3 : Int32)))), .unset] rfl rfl ?_
  refine g_iloadN X0 hx 17 (hb hby d1_16) rfl rfl ?_
  refine g_iconst X0 hx 18 (hb hby d1_17) (1 : Int32) (by decide) rfl ?_
  refine g_iadd X0 hx 19 (hb hby d1_18) rfl ?_
  refine g_iloadN X0 hx 20 (hb hby d1_19) rfl rfl ?_
  refine g_bipush X0 hx 22 (hb hby d1_20) (6 : Int32) (by decide) rfl ?_
  refine g_iushr X0 hx 23 (hb hby d1_22) rfl ?_
  refine g_iconst X0 hx 24 (hb hby d1_23) (3 : Int32) (by decide) rfl ?_
  refine g_iand X0 hx 25 (hb hby d1_24) rfl ?_
  refine g_iadd X0 hx 26 (hb hby d1_25) rfl ?_
  refine g_istoreN X0 hx 27 (hb hby d1_26) #[.val (.int x), .val (.int (((x.toUInt32 >>> ((2 : Int32) &&& 31).toUInt32).toInt32) &&& (3 : Int32))), .val (.int (((((x.toUInt32 >>> ((2 : Int32) &&& 31).toUInt32).toInt32) &&& (3 : Int32)) + (1 : Int32)) + (((x.toUInt32 >>> ((4 : Int32) &&& 31).toUInt32).toInt32) &&& (3 : Int32)))), .val (.int (((((((x.toUInt32 >>> ((2 : Int32) &&& 31).toUInt32).toInt32) &&& (3 : Int32)) + (1 : Int32)) + (((x.toUInt32 >>> ((4 : Int32) &&& 31).toUInt32).toInt32) &&& (3 : Int32))) + (1 : Int32)) + (((x.toUInt32 >>> ((6 : Int32) &&& 31).toUInt32).toInt32) &&& (3 : Int32))))] rfl rfl ?_
  refine g_iconst X0 hx 28 (hb hby d1_27) (3 : Int32) (by decide) rfl ?_
  refine g_newarr X0 hx hZ 30 (hw _ (List.mem_of_getElem? (i := 5) rfl)) e0 (hb hby d1_28) (3) (by decide) 3 (by decide) (by decide) (by decide) (by decide) rfl ?_
  intro T1 a X1 E1 g_a F_a
  have e1 : T1.heap = T1.heap := rfl
  have N1 := N0
  have Z_a : n0 ≤ a := by rw [g_a]; exact M0
  have M1 : n0 ≤ T1.heap.size := Nat.le_trans M0 E1.1
  have G_a : h0.size ≤ a := by rw [g_a]; exact K0.1
  have K1 : Keep h0 T1.heap [] := K0.ext E1
  refine g_dup X1 hx 31 (hb hby d1_30) rfl rfl ?_
  refine g_iconst X1 hx 32 (hb hby d1_31) (0 : Int32) (by decide) rfl ?_
  refine g_iloadN X1 hx 33 (hb hby d1_32) rfl rfl ?_
  refine g_iastore X1 hx hZ 34 e1 F_a (hb hby d1_33) (0) (by decide) (by decide) rfl ?_
  intro T2 X2 W2 G2
  replace F_a := G2
  have e2 : T2.heap = T2.heap := rfl
  have N2 := Fr.snoc X2 N1 Z_a
  have M2 : n0 ≤ T2.heap.size := by rw [W2.size]; exact M1
  have K2 : Keep h0 T2.heap [] := K1.wr W2 (Or.inr G_a)
  refine g_dup X2 hx 35 (hb hby d1_34) rfl rfl ?_
  refine g_iconst X2 hx 36 (hb hby d1_35) (1 : Int32) (by decide) rfl ?_
  refine g_iloadN X2 hx 37 (hb hby d1_36) rfl rfl ?_
  refine g_iastore X2 hx hZ 38 e2 F_a (hb hby d1_37) (1) (by decide) (by decide) rfl ?_
  intro T3 X3 W3 G3
  replace F_a := G3
  have e3 : T3.heap = T3.heap := rfl
  have N3 := Fr.snoc X3 N2 Z_a
  have M3 : n0 ≤ T3.heap.size := by rw [W3.size]; exact M2
  have K3 : Keep h0 T3.heap [] := K2.wr W3 (Or.inr G_a)
  refine g_dup X3 hx 39 (hb hby d1_38) rfl rfl ?_
  refine g_iconst X3 hx 40 (hb hby d1_39) (2 : Int32) (by decide) rfl ?_
  refine g_iloadN X3 hx 41 (hb hby d1_40) rfl rfl ?_
  refine g_iastore X3 hx hZ 42 e3 F_a (hb hby d1_41) (2) (by decide) (by decide) rfl ?_
  intro T4 X4 W4 G4
  replace F_a := G4
  have e4 : T4.heap = T4.heap := rfl
  have N4 := Fr.snoc X4 N3 Z_a
  have M4 : n0 ≤ T4.heap.size := by rw [W4.size]; exact M3
  have K4 : Keep h0 T4.heap [] := K3.wr W4 (Or.inr G_a)
  refine g_aret X4 hx rfl rfl rfl hret hlk (hb hby d1_42) (by decide) (by decide) ?_
  exact ⟨a, rfl, N4, Z_a, G_a, K4, F_a.congr (f' := fun i => .int (pP x i)) (fun i hi => by rcases (show i = 0 ∨ i = 1 ∨ i = 2 by omega) with rfl | rfl | rfl <;> rfl)⟩
set_option maxRecDepth 65536 in
set_option maxHeartbeats 40000000 in
theorem rm2 (l : Launch) (Z : State) (a0 : Array Value) (hw : ∀ d ∈ tables_1, d.before a0 Z = true) (ws : List Jvm.Cond) (x : Int32) (h0 : Heap) (n0 : Nat) (Z0 : n0 ≤ h0.size)  :
    MetFree l (⟨"com/example/endless_words/endlesswords/automaton/CubeContradictPinLaw", "signs", "(I)[I"⟩ : MethodName) (head1 (Jvm.Cond.code (⟨"com/example/endless_words/endlesswords/automaton/CubeContradictPinLaw", "signs", "(I)[I"⟩ : MethodName) method_5_code 1 (some (.array .int)) :: ws) ({ frames := 0, cells := 1, slots := 3, locals := 0 } : Room)) (fun av_ U_ => av_ = #[(.int x)] ∧ Z.Warmed39 U_.vm ∧ U_.heap = h0) (fun _ _ _ _ _ => True) (fun _ U_ o_ W_ => ∃ v_ L_, o_ = .returned v_ ∧ QA Z 3 (fun i => .int (sP x i)) h0 n0 v_ W_.heap L_ ∧ FrameEnd U_ o_ W_ L_ ({ frames := 0, cells := 1, slots := 3, locals := 0 } : Room).cells ({ frames := 0, cells := 1, slots := 3, locals := 0 } : Room).slots) := by
  refine own_start pn_1 ?_
  intro p e s m below meth c T0 X0 hx hby hml hown hnm hret hlk hZ e0
  have N0 := Fr.nil n0
  have M0 := Z0
  have K0 : Keep h0 h0 [] := Keep.refl _ _
  refine Go.cast (show entryFrame m #[(.int x)] 1 = (mkF m 0 #[.val (.int x)] []) from (by first | (simp [entryFrame, mkF, argsToLocals, Value.category, maxLocals]; done) | rfl)) ?_
  refine g_iconst X0 hx 1 (hb hby d2_0) (3 : Int32) (by decide) rfl ?_
  refine g_newarr X0 hx hZ 3 (hw _ (List.mem_of_getElem? (i := 5) rfl)) e0 (hb hby d2_1) (3) (by decide) 3 (by decide) (by decide) (by decide) (by decide) rfl ?_
  intro T1 a X1 E1 g_a F_a
  have e1 : T1.heap = T1.heap := rfl
  have N1 := N0
  have Z_a : n0 ≤ a := by rw [g_a]; exact M0
  have M1 : n0 ≤ T1.heap.size := Nat.le_trans M0 E1.1
  have G_a : h0.size ≤ a := by rw [g_a]; exact K0.1
  have K1 : Keep h0 T1.heap [] := K0.ext E1
  refine g_dup X1 hx 4 (hb hby d2_3) rfl rfl ?_
  refine g_iconst X1 hx 5 (hb hby d2_4) (0 : Int32) (by decide) rfl ?_
  refine g_iloadN X1 hx 6 (hb hby d2_5) rfl rfl ?_
  refine g_bipush X1 hx 8 (hb hby d2_6) (8 : Int32) (by decide) rfl ?_
  refine g_iushr X1 hx 9 (hb hby d2_8) rfl ?_
  refine g_iconst X1 hx 10 (hb hby d2_9) (1 : Int32) (by decide) rfl ?_
  refine g_iand X1 hx 11 (hb hby d2_10) rfl ?_
  refine g_iastore X1 hx hZ 12 e1 F_a (hb hby d2_11) (0) (by decide) (by decide) rfl ?_
  intro T2 X2 W2 G2
  replace F_a := G2
  have e2 : T2.heap = T2.heap := rfl
  have N2 := Fr.snoc X2 N1 Z_a
  have M2 : n0 ≤ T2.heap.size := by rw [W2.size]; exact M1
  have K2 : Keep h0 T2.heap [] := K1.wr W2 (Or.inr G_a)
  refine g_dup X2 hx 13 (hb hby d2_12) rfl rfl ?_
  refine g_iconst X2 hx 14 (hb hby d2_13) (1 : Int32) (by decide) rfl ?_
  refine g_iloadN X2 hx 15 (hb hby d2_14) rfl rfl ?_
  refine g_bipush X2 hx 17 (hb hby d2_15) (9 : Int32) (by decide) rfl ?_
  refine g_iushr X2 hx 18 (hb hby d2_17) rfl ?_
  refine g_iconst X2 hx 19 (hb hby d2_18) (1 : Int32) (by decide) rfl ?_
  refine g_iand X2 hx 20 (hb hby d2_19) rfl ?_
  refine g_iastore X2 hx hZ 21 e2 F_a (hb hby d2_20) (1) (by decide) (by decide) rfl ?_
  intro T3 X3 W3 G3
  replace F_a := G3
  have e3 : T3.heap = T3.heap := rfl
  have N3 := Fr.snoc X3 N2 Z_a
  have M3 : n0 ≤ T3.heap.size := by rw [W3.size]; exact M2
  have K3 : Keep h0 T3.heap [] := K2.wr W3 (Or.inr G_a)
  refine g_dup X3 hx 22 (hb hby d2_21) rfl rfl ?_
  refine g_iconst X3 hx 23 (hb hby d2_22) (2 : Int32) (by decide) rfl ?_
  refine g_iloadN X3 hx 24 (hb hby d2_23) rfl rfl ?_
  refine g_bipush X3 hx 26 (hb hby d2_24) (10 : Int32) (by decide) rfl ?_
  refine g_iushr X3 hx 27 (hb hby d2_26) rfl ?_
  refine g_iconst X3 hx 28 (hb hby d2_27) (1 : Int32) (by decide) rfl ?_
  refine g_iand X3 hx 29 (hb hby d2_28) rfl ?_
  refine g_iastore X3 hx hZ 30 e3 F_a (hb hby d2_29) (2) (by decide) (by decide) rfl ?_
  intro T4 X4 W4 G4
  replace F_a := G4
  have e4 : T4.heap = T4.heap := rfl
  have N4 := Fr.snoc X4 N3 Z_a
  have M4 : n0 ≤ T4.heap.size := by rw [W4.size]; exact M3
  have K4 : Keep h0 T4.heap [] := K3.wr W4 (Or.inr G_a)
  refine g_aret X4 hx rfl rfl rfl hret hlk (hb hby d2_30) (by decide) (by decide) ?_
  exact ⟨a, rfl, N4, Z_a, G_a, K4, F_a.congr (f' := fun i => .int (sP x i)) (fun i hi => by rcases (show i = 0 ∨ i = 1 ∨ i = 2 by omega) with rfl | rfl | rfl <;> rfl)⟩
theorem own_nn4 {n : Int32} (hn : 0 ≤ n.toInt ∧ n.toInt ≤ 3) : n = 0 ∨ n = 1 ∨ n = 2 ∨ n = 3 := by
  have z0 : (0 : Int32).toInt = 0 := by decide
  have z1 : (1 : Int32).toInt = 1 := by decide
  have z2 : (2 : Int32).toInt = 2 := by decide
  have z3 : (3 : Int32).toInt = 3 := by decide
  simp only [← Int32.toInt_inj, z0, z1, z2, z3]; omega
set_option maxRecDepth 65536 in
set_option maxHeartbeats 40000000 in
theorem rm3 (l : Launch) (Z : State) (a0 : Array Value) (hw : ∀ d ∈ tables_1, d.before a0 Z = true) (ws : List Jvm.Cond) (n : Int32) (p_ s_ : Addr) (base : Int32) (nn : Nat) (P S : Nat → Int32) (h0 : Heap) (n0 : Nat) (Z0 : n0 ≤ h0.size) (hn : 0 ≤ n.toInt ∧ n.toInt ≤ 3) (hnn : n.toInt = nn) (F_p_ : AV Z h0 p_ .int 3 (fun i => .int (P i))) (F_s_ : AV Z h0 s_ .int 3 (fun i => .int (S i))) (ne_p__s_ : p_ ≠ s_) :
    MetFree l (⟨"com/example/endless_words/endlesswords/automaton/CubeContradictPinLaw", "lits", "(I[I[II)[I"⟩ : MethodName) (head1 (Jvm.Cond.code (⟨"com/example/endless_words/endlesswords/automaton/CubeContradictPinLaw", "lits", "(I[I[II)[I"⟩ : MethodName) method_6_code 7 (some (.array .int)) :: ws) ({ frames := 0, cells := 1, slots := 3, locals := 0 } : Room)) (fun av_ U_ => av_ = #[(.int n), (.ref p_), (.ref s_), (.int base)] ∧ Z.Warmed39 U_.vm ∧ U_.heap = h0) (fun _ _ _ _ _ => True) (fun _ U_ o_ W_ => ∃ v_ L_, o_ = .returned v_ ∧ QA Z nn (fun i => .int (lit base P S i)) h0 n0 v_ W_.heap L_ ∧ FrameEnd U_ o_ W_ L_ ({ frames := 0, cells := 1, slots := 3, locals := 0 } : Room).cells ({ frames := 0, cells := 1, slots := 3, locals := 0 } : Room).slots) := by
  refine own_start pn_2 ?_
  intro p e s m below meth c T0 X0 hx hby hml hown hnm hret hlk hZ e0
  have N0 := Fr.nil n0
  have M0 := Z0
  have K0 : Keep h0 h0 [] := Keep.refl _ _
  refine Go.cast (show entryFrame m #[(.int n), (.ref p_), (.ref s_), (.int base)] 7 = (mkF m 0 #[.val (.int n), .val (.ref p_), .val (.ref s_), .val (.int base), .unset, .unset, .unset] []) from (by first | (simp [entryFrame, mkF, argsToLocals, Value.category, maxLocals]; done) | rfl)) ?_
  refine g_iloadN X0 hx 1 (hb hby d3_0) rfl rfl ?_
  refine g_iconst X0 hx 2 (hb hby d3_1) (2 : Int32) (by decide) rfl ?_
  refine g_aloadN X0 hx 3 (hb hby d3_2) rfl rfl rfl ?_
  refine g_iconst X0 hx 4 (hb hby d3_3) (0 : Int32) (by decide) rfl ?_
  refine g_iaload X0 hx hZ 5 e0 F_p_ (hb hby d3_4) (0) (by decide) (by decide) (.int (P 0)) rfl rfl ?_
  refine g_imul X0 hx 6 (hb hby d3_5) rfl ?_
  refine g_iadd X0 hx 7 (hb hby d3_6) rfl ?_
  refine g_aloadN X0 hx 8 (hb hby d3_7) rfl rfl rfl ?_
  refine g_iconst X0 hx 9 (hb hby d3_8) (0 : Int32) (by decide) rfl ?_
  refine g_iaload X0 hx hZ 10 e0 F_s_ (hb hby d3_9) (0) (by decide) (by decide) (.int (S 0)) rfl rfl ?_
  refine g_iadd X0 hx 11 (hb hby d3_10) rfl ?_
  refine g_istore X0 hx 13 (hb hby d3_11) #[.val (.int n), .val (.ref p_), .val (.ref s_), .val (.int base), .val (.int ((base + ((2 : Int32) * (P 0))) + (S 0))), .unset, .unset] rfl rfl ?_
  refine g_iloadN X0 hx 14 (hb hby d3_13) rfl rfl ?_
  refine g_iconst X0 hx 15 (hb hby d3_14) (2 : Int32) (by decide) rfl ?_
  refine g_aloadN X0 hx 16 (hb hby d3_15) rfl rfl rfl ?_
  refine g_iconst X0 hx 17 (hb hby d3_16) (1 : Int32) (by decide) rfl ?_
  refine g_iaload X0 hx hZ 18 e0 F_p_ (hb hby d3_17) (1) (by decide) (by decide) (.int (P 1)) rfl rfl ?_
  refine g_imul X0 hx 19 (hb hby d3_18) rfl ?_
  refine g_iadd X0 hx 20 (hb hby d3_19) rfl ?_
  refine g_aloadN X0 hx 21 (hb hby d3_20) rfl rfl rfl ?_
  refine g_iconst X0 hx 22 (hb hby d3_21) (1 : Int32) (by decide) rfl ?_
  refine g_iaload X0 hx hZ 23 e0 F_s_ (hb hby d3_22) (1) (by decide) (by decide) (.int (S 1)) rfl rfl ?_
  refine g_iadd X0 hx 24 (hb hby d3_23) rfl ?_
  refine g_istore X0 hx 26 (hb hby d3_24) #[.val (.int n), .val (.ref p_), .val (.ref s_), .val (.int base), .val (.int ((base + ((2 : Int32) * (P 0))) + (S 0))), .val (.int ((base + ((2 : Int32) * (P 1))) + (S 1))), .unset] rfl rfl ?_
  refine g_iloadN X0 hx 27 (hb hby d3_26) rfl rfl ?_
  refine g_iconst X0 hx 28 (hb hby d3_27) (2 : Int32) (by decide) rfl ?_
  refine g_aloadN X0 hx 29 (hb hby d3_28) rfl rfl rfl ?_
  refine g_iconst X0 hx 30 (hb hby d3_29) (2 : Int32) (by decide) rfl ?_
  refine g_iaload X0 hx hZ 31 e0 F_p_ (hb hby d3_30) (2) (by decide) (by decide) (.int (P 2)) rfl rfl ?_
  refine g_imul X0 hx 32 (hb hby d3_31) rfl ?_
  refine g_iadd X0 hx 33 (hb hby d3_32) rfl ?_
  refine g_aloadN X0 hx 34 (hb hby d3_33) rfl rfl rfl ?_
  refine g_iconst X0 hx 35 (hb hby d3_34) (2 : Int32) (by decide) rfl ?_
  refine g_iaload X0 hx hZ 36 e0 F_s_ (hb hby d3_35) (2) (by decide) (by decide) (.int (S 2)) rfl rfl ?_
  refine g_iadd X0 hx 37 (hb hby d3_36) rfl ?_
  refine g_istore X0 hx 39 (hb hby d3_37) #[.val (.int n), .val (.ref p_), .val (.ref s_), .val (.int base), .val (.int ((base + ((2 : Int32) * (P 0))) + (S 0))), .val (.int ((base + ((2 : Int32) * (P 1))) + (S 1))), .val (.int ((base + ((2 : Int32) * (P 2))) + (S 2)))] rfl rfl ?_
  refine g_iloadN X0 hx 40 (hb hby d3_39) rfl rfl ?_
  by_cases c40 : n = (0 : Int32)
  · refine g_ifF X0 hx 43 (hb hby d3_40) (Jvm.Free.XT.i0_ne_f c40) rfl ?_
    refine g_iconst X0 hx 44 (hb hby d3_43) (0 : Int32) (by decide) rfl ?_
    refine g_newarr X0 hx hZ 46 (hw _ (List.mem_of_getElem? (i := 5) rfl)) e0 (hb hby d3_44) (0) (by decide) 0 (by decide) (by decide) (by decide) (by decide) rfl ?_
    intro T1 a X1 E1 g_a F_a
    have e1 : T1.heap = T1.heap := rfl
    have N1 := N0
    have Z_a : n0 ≤ a := by rw [g_a]; exact M0
    have M1 : n0 ≤ T1.heap.size := Nat.le_trans M0 E1.1
    have ne_p__a : p_ ≠ a := by rw [g_a]; exact Nat.ne_of_lt F_p_.lt
    replace F_p_ := F_p_.ext E1
    have ne_s__a : s_ ≠ a := by rw [g_a]; exact Nat.ne_of_lt F_s_.lt
    replace F_s_ := F_s_.ext E1
    have G_a : h0.size ≤ a := by rw [g_a]; exact K0.1
    have K1 : Keep h0 T1.heap [] := K0.ext E1
    refine g_aret X1 hx rfl rfl rfl hret hlk (hb hby d3_46) (by decide) (by decide) ?_
    have en : nn = 0 := by have z : (0 : Int32).toInt = 0 := (by decide); rw [c40, z] at hnn; omega
    subst en
    exact ⟨a, rfl, N1, Z_a, G_a, K1, F_a.congr (f' := fun i => .int (lit base P S i)) (fun i hi => by omega)⟩
  · refine g_ifT X0 hx 47 (hb hby d3_40) (Jvm.Free.XT.i0_ne_t c40) (by decide) (by decide) ?_
    refine g_iloadN X0 hx 48 (hb hby d3_47) rfl rfl ?_
    refine g_iconst X0 hx 49 (hb hby d3_48) (1 : Int32) (by decide) rfl ?_
    by_cases c49 : n = (1 : Int32)
    · refine g_icF X0 hx 52 (hb hby d3_49) (Jvm.Free.XT.ii_ne_f c49) rfl ?_
      refine g_iconst X0 hx 53 (hb hby d3_52) (1 : Int32) (by decide) rfl ?_
      refine g_newarr X0 hx hZ 55 (hw _ (List.mem_of_getElem? (i := 5) rfl)) e0 (hb hby d3_53) (1) (by decide) 1 (by decide) (by decide) (by decide) (by decide) rfl ?_
      intro T2 a X2 E2 g_a F_a
      have e2 : T2.heap = T2.heap := rfl
      have N2 := N0
      have Z_a : n0 ≤ a := by rw [g_a]; exact M0
      have M2 : n0 ≤ T2.heap.size := Nat.le_trans M0 E2.1
      have ne_p__a : p_ ≠ a := by rw [g_a]; exact Nat.ne_of_lt F_p_.lt
      replace F_p_ := F_p_.ext E2
      have ne_s__a : s_ ≠ a := by rw [g_a]; exact Nat.ne_of_lt F_s_.lt
      replace F_s_ := F_s_.ext E2
      have G_a : h0.size ≤ a := by rw [g_a]; exact K0.1
      have K2 : Keep h0 T2.heap [] := K0.ext E2
      refine g_dup X2 hx 56 (hb hby d3_55) rfl rfl ?_
      refine g_iconst X2 hx 57 (hb hby d3_56) (0 : Int32) (by decide) rfl ?_
      refine g_iload X2 hx 59 (hb hby d3_57) rfl rfl ?_
      refine g_iastore X2 hx hZ 60 e2 F_a (hb hby d3_59) (0) (by decide) (by decide) rfl ?_
      intro T3 X3 W3 G3
      replace F_a := G3
      have e3 : T3.heap = T3.heap := rfl
      have N3 := Fr.snoc X3 N2 Z_a
      have M3 : n0 ≤ T3.heap.size := by rw [W3.size]; exact M2
      replace F_p_ := F_p_.other W3 ne_p__a
      replace F_s_ := F_s_.other W3 ne_s__a
      have K3 : Keep h0 T3.heap [] := K2.wr W3 (Or.inr G_a)
      refine g_aret X3 hx rfl rfl rfl hret hlk (hb hby d3_60) (by decide) (by decide) ?_
      have en : nn = 1 := by have z : (1 : Int32).toInt = 1 := (by decide); rw [c49, z] at hnn; omega
      subst en
      exact ⟨a, rfl, N3, Z_a, G_a, K3, F_a.congr (f' := fun i => .int (lit base P S i)) (fun i hi => by rcases (show i = 0 by omega) with rfl <;> rfl)⟩
    · refine g_icT X0 hx 61 (hb hby d3_49) (Jvm.Free.XT.ii_ne_t c49) (by decide) (by decide) ?_
      refine g_iloadN X0 hx 62 (hb hby d3_61) rfl rfl ?_
      refine g_iconst X0 hx 63 (hb hby d3_62) (2 : Int32) (by decide) rfl ?_
      by_cases c63 : n = (2 : Int32)
      · refine g_icF X0 hx 66 (hb hby d3_63) (Jvm.Free.XT.ii_ne_f c63) rfl ?_
        refine g_iconst X0 hx 67 (hb hby d3_66) (2 : Int32) (by decide) rfl ?_
        refine g_newarr X0 hx hZ 69 (hw _ (List.mem_of_getElem? (i := 5) rfl)) e0 (hb hby d3_67) (2) (by decide) 2 (by decide) (by decide) (by decide) (by decide) rfl ?_
        intro T4 a X4 E4 g_a F_a
        have e4 : T4.heap = T4.heap := rfl
        have N4 := N0
        have Z_a : n0 ≤ a := by rw [g_a]; exact M0
        have M4 : n0 ≤ T4.heap.size := Nat.le_trans M0 E4.1
        have ne_p__a : p_ ≠ a := by rw [g_a]; exact Nat.ne_of_lt F_p_.lt
        replace F_p_ := F_p_.ext E4
        have ne_s__a : s_ ≠ a := by rw [g_a]; exact Nat.ne_of_lt F_s_.lt
        replace F_s_ := F_s_.ext E4
        have G_a : h0.size ≤ a := by rw [g_a]; exact K0.1
        have K4 : Keep h0 T4.heap [] := K0.ext E4
        refine g_dup X4 hx 70 (hb hby d3_69) rfl rfl ?_
        refine g_iconst X4 hx 71 (hb hby d3_70) (0 : Int32) (by decide) rfl ?_
        refine g_iload X4 hx 73 (hb hby d3_71) rfl rfl ?_
        refine g_iastore X4 hx hZ 74 e4 F_a (hb hby d3_73) (0) (by decide) (by decide) rfl ?_
        intro T5 X5 W5 G5
        replace F_a := G5
        have e5 : T5.heap = T5.heap := rfl
        have N5 := Fr.snoc X5 N4 Z_a
        have M5 : n0 ≤ T5.heap.size := by rw [W5.size]; exact M4
        replace F_p_ := F_p_.other W5 ne_p__a
        replace F_s_ := F_s_.other W5 ne_s__a
        have K5 : Keep h0 T5.heap [] := K4.wr W5 (Or.inr G_a)
        refine g_dup X5 hx 75 (hb hby d3_74) rfl rfl ?_
        refine g_iconst X5 hx 76 (hb hby d3_75) (1 : Int32) (by decide) rfl ?_
        refine g_iload X5 hx 78 (hb hby d3_76) rfl rfl ?_
        refine g_iastore X5 hx hZ 79 e5 F_a (hb hby d3_78) (1) (by decide) (by decide) rfl ?_
        intro T6 X6 W6 G6
        replace F_a := G6
        have e6 : T6.heap = T6.heap := rfl
        have N6 := Fr.snoc X6 N5 Z_a
        have M6 : n0 ≤ T6.heap.size := by rw [W6.size]; exact M5
        replace F_p_ := F_p_.other W6 ne_p__a
        replace F_s_ := F_s_.other W6 ne_s__a
        have K6 : Keep h0 T6.heap [] := K5.wr W6 (Or.inr G_a)
        refine g_aret X6 hx rfl rfl rfl hret hlk (hb hby d3_79) (by decide) (by decide) ?_
        have en : nn = 2 := by have z : (2 : Int32).toInt = 2 := (by decide); rw [c63, z] at hnn; omega
        subst en
        exact ⟨a, rfl, N6, Z_a, G_a, K6, F_a.congr (f' := fun i => .int (lit base P S i)) (fun i hi => by rcases (show i = 0 ∨ i = 1 by omega) with rfl | rfl <;> rfl)⟩
      · refine g_icT X0 hx 80 (hb hby d3_63) (Jvm.Free.XT.ii_ne_t c63) (by decide) (by decide) ?_
        refine g_iconst X0 hx 81 (hb hby d3_80) (3 : Int32) (by decide) rfl ?_
        refine g_newarr X0 hx hZ 83 (hw _ (List.mem_of_getElem? (i := 5) rfl)) e0 (hb hby d3_81) (3) (by decide) 3 (by decide) (by decide) (by decide) (by decide) rfl ?_
        intro T7 a X7 E7 g_a F_a
        have e7 : T7.heap = T7.heap := rfl
        have N7 := N0
        have Z_a : n0 ≤ a := by rw [g_a]; exact M0
        have M7 : n0 ≤ T7.heap.size := Nat.le_trans M0 E7.1
        have ne_p__a : p_ ≠ a := by rw [g_a]; exact Nat.ne_of_lt F_p_.lt
        replace F_p_ := F_p_.ext E7
        have ne_s__a : s_ ≠ a := by rw [g_a]; exact Nat.ne_of_lt F_s_.lt
        replace F_s_ := F_s_.ext E7
        have G_a : h0.size ≤ a := by rw [g_a]; exact K0.1
        have K7 : Keep h0 T7.heap [] := K0.ext E7
        refine g_dup X7 hx 84 (hb hby d3_83) rfl rfl ?_
        refine g_iconst X7 hx 85 (hb hby d3_84) (0 : Int32) (by decide) rfl ?_
        refine g_iload X7 hx 87 (hb hby d3_85) rfl rfl ?_
        refine g_iastore X7 hx hZ 88 e7 F_a (hb hby d3_87) (0) (by decide) (by decide) rfl ?_
        intro T8 X8 W8 G8
        replace F_a := G8
        have e8 : T8.heap = T8.heap := rfl
        have N8 := Fr.snoc X8 N7 Z_a
        have M8 : n0 ≤ T8.heap.size := by rw [W8.size]; exact M7
        replace F_p_ := F_p_.other W8 ne_p__a
        replace F_s_ := F_s_.other W8 ne_s__a
        have K8 : Keep h0 T8.heap [] := K7.wr W8 (Or.inr G_a)
        refine g_dup X8 hx 89 (hb hby d3_88) rfl rfl ?_
        refine g_iconst X8 hx 90 (hb hby d3_89) (1 : Int32) (by decide) rfl ?_
        refine g_iload X8 hx 92 (hb hby d3_90) rfl rfl ?_
        refine g_iastore X8 hx hZ 93 e8 F_a (hb hby d3_92) (1) (by decide) (by decide) rfl ?_
        intro T9 X9 W9 G9
        replace F_a := G9
        have e9 : T9.heap = T9.heap := rfl
        have N9 := Fr.snoc X9 N8 Z_a
        have M9 : n0 ≤ T9.heap.size := by rw [W9.size]; exact M8
        replace F_p_ := F_p_.other W9 ne_p__a
        replace F_s_ := F_s_.other W9 ne_s__a
        have K9 : Keep h0 T9.heap [] := K8.wr W9 (Or.inr G_a)
        refine g_dup X9 hx 94 (hb hby d3_93) rfl rfl ?_
        refine g_iconst X9 hx 95 (hb hby d3_94) (2 : Int32) (by decide) rfl ?_
        refine g_iload X9 hx 97 (hb hby d3_95) rfl rfl ?_
        refine g_iastore X9 hx hZ 98 e9 F_a (hb hby d3_97) (2) (by decide) (by decide) rfl ?_
        intro T10 X10 W10 G10
        replace F_a := G10
        have e10 : T10.heap = T10.heap := rfl
        have N10 := Fr.snoc X10 N9 Z_a
        have M10 : n0 ≤ T10.heap.size := by rw [W10.size]; exact M9
        replace F_p_ := F_p_.other W10 ne_p__a
        replace F_s_ := F_s_.other W10 ne_s__a
        have K10 : Keep h0 T10.heap [] := K9.wr W10 (Or.inr G_a)
        refine g_aret X10 hx rfl rfl rfl hret hlk (hb hby d3_98) (by decide) (by decide) ?_
        have e3 : n = 3 := by rcases own_nn4 hn with h | h | h | h <;> first | exact absurd h ‹_› | exact h
        have en : nn = 3 := by have z : (3 : Int32).toInt = 3 := (by decide); rw [e3, z] at hnn; omega
        subst en
        exact ⟨a, rfl, N10, Z_a, G_a, K10, F_a.congr (f' := fun i => .int (lit base P S i)) (fun i hi => by rcases (show i = 0 ∨ i = 1 ∨ i = 2 by omega) with rfl | rfl | rfl <;> rfl)⟩
def fCl (i j n1 n2 : Int32) (P1 P2 S1 S2 : Int32) : Int32 := if i < n1 then if j < n2 then if P1 = P2 then if S1 = S2 then 0 else 1 else 0 else 0 else 0
def QC (r : Int32) (h0 : Heap) (n0 : Nat) (v : Option Value) (h : Heap) (L : List Loc) : Prop := v = some (.int r) ∧ Fr n0 L ∧ h = h0
set_option maxRecDepth 65536 in
set_option maxHeartbeats 40000000 in
theorem rm4 (l : Launch) (Z : State) (a0 : Array Value) (hw : ∀ d ∈ tables_1, d.before a0 Z = true) (ws : List Jvm.Cond) (i j n1 n2 : Int32) (p1 p2 s1 s2 : Addr) (iN jN : Nat) (P1 P2 S1 S2 : Nat → Int32) (h0 : Heap) (n0 : Nat) (Z0 : n0 ≤ h0.size) (hi : i.toInt = iN) (hj : j.toInt = jN) (hi3 : iN < 3) (hj3 : jN < 3) (F_p1 : AV Z h0 p1 .int 3 (fun q => .int (P1 q))) (F_p2 : AV Z h0 p2 .int 3 (fun q => .int (P2 q))) (F_s1 : AV Z h0 s1 .int 3 (fun q => .int (S1 q))) (F_s2 : AV Z h0 s2 .int 3 (fun q => .int (S2 q))) :
    MetFree l (⟨"com/example/endless_words/endlesswords/automaton/CubeContradictPinLaw", "clash", "(IIII[I[I[I[I)Z"⟩ : MethodName) (head1 (Jvm.Cond.code (⟨"com/example/endless_words/endlesswords/automaton/CubeContradictPinLaw", "clash", "(IIII[I[I[I[I)Z"⟩ : MethodName) method_3_code 8 (some .boolean) :: ws) ({ frames := 0, cells := 0, slots := 0, locals := 0 } : Room)) (fun av_ U_ => av_ = #[(.int i), (.int j), (.int n1), (.int n2), (.ref p1), (.ref p2), (.ref s1), (.ref s2)] ∧ Z.Warmed39 U_.vm ∧ U_.heap = h0) (fun _ _ _ _ _ => True) (fun _ U_ o_ W_ => ∃ v_ L_, o_ = .returned v_ ∧ QC (fCl i j n1 n2 (P1 iN) (P2 jN) (S1 iN) (S2 jN)) h0 n0 v_ W_.heap L_ ∧ FrameEnd U_ o_ W_ L_ ({ frames := 0, cells := 0, slots := 0, locals := 0 } : Room).cells ({ frames := 0, cells := 0, slots := 0, locals := 0 } : Room).slots) := by
  refine own_start pn_3 ?_
  intro p e s m below meth c T0 X0 hx hby hml hown hnm hret hlk hZ e0
  have N0 := Fr.nil n0
  have M0 := Z0
  refine Go.cast (show entryFrame m #[(.int i), (.int j), (.int n1), (.int n2), (.ref p1), (.ref p2), (.ref s1), (.ref s2)] 8 = (mkF m 0 #[.val (.int i), .val (.int j), .val (.int n1), .val (.int n2), .val (.ref p1), .val (.ref p2), .val (.ref s1), .val (.ref s2)] []) from (by first | (simp [entryFrame, mkF, argsToLocals, Value.category, maxLocals]; done) | rfl)) ?_
  refine g_iloadN X0 hx 1 (hb hby d4_0) rfl rfl ?_
  refine g_iloadN X0 hx 2 (hb hby d4_1) rfl rfl ?_
  by_cases c2 : i < n1
  · refine g_icF X0 hx 5 (hb hby d4_2) (Jvm.Free.XT.ii_ge_f c2) rfl ?_
    refine g_iloadN X0 hx 6 (hb hby d4_5) rfl rfl ?_
    refine g_iloadN X0 hx 7 (hb hby d4_6) rfl rfl ?_
    by_cases c7 : j < n2
    · refine g_icF X0 hx 10 (hb hby d4_7) (Jvm.Free.XT.ii_ge_f c7) rfl ?_
      refine g_aload X0 hx 12 (hb hby d4_10) rfl rfl rfl ?_
      refine g_iloadN X0 hx 13 (hb hby d4_12) rfl rfl ?_
      refine g_iaload X0 hx hZ 14 e0 F_p1 (hb hby d4_13) (iN) hi hi3 (.int (P1 iN)) rfl rfl ?_
      refine g_aload X0 hx 16 (hb hby d4_14) rfl rfl rfl ?_
      refine g_iloadN X0 hx 17 (hb hby d4_16) rfl rfl ?_
      refine g_iaload X0 hx hZ 18 e0 F_p2 (hb hby d4_17) (jN) hj hj3 (.int (P2 jN)) rfl rfl ?_
      by_cases c18 : (P1 iN) = (P2 jN)
      · refine g_icF X0 hx 21 (hb hby d4_18) (Jvm.Free.XT.ii_ne_f c18) rfl ?_
        refine g_aload X0 hx 23 (hb hby d4_21) rfl rfl rfl ?_
        refine g_iloadN X0 hx 24 (hb hby d4_23) rfl rfl ?_
        refine g_iaload X0 hx hZ 25 e0 F_s1 (hb hby d4_24) (iN) hi hi3 (.int (S1 iN)) rfl rfl ?_
        refine g_aload X0 hx 27 (hb hby d4_25) rfl rfl rfl ?_
        refine g_iloadN X0 hx 28 (hb hby d4_27) rfl rfl ?_
        refine g_iaload X0 hx hZ 29 e0 F_s2 (hb hby d4_28) (jN) hj hj3 (.int (S2 jN)) rfl rfl ?_
        by_cases c29 : (S1 iN) = (S2 jN)
        · refine g_icT X0 hx 36 (hb hby d4_29) (Jvm.Free.XT.ii_eq_t c29) (by decide) (by decide) ?_
          refine g_iconst X0 hx 37 (hb hby d4_36) (0 : Int32) (by decide) rfl ?_
          refine g_nret X0 hx (by simp) hret hlk (hb hby d4_37) (by decide) (by decide) ?_
          exact ⟨by simp [fCl, nar, c2, c7, c18, c29], N0, e0⟩
        · refine g_icF X0 hx 32 (hb hby d4_29) (Jvm.Free.XT.ii_eq_f c29) rfl ?_
          refine g_iconst X0 hx 33 (hb hby d4_32) (1 : Int32) (by decide) rfl ?_
          refine g_goto X0 hx 37 (hb hby d4_33) (by decide) (by decide) ?_
          refine g_nret X0 hx (by simp) hret hlk (hb hby d4_37) (by decide) (by decide) ?_
          exact ⟨by simp [fCl, nar, c2, c7, c18, c29], N0, e0⟩
      · refine g_icT X0 hx 36 (hb hby d4_18) (Jvm.Free.XT.ii_ne_t c18) (by decide) (by decide) ?_
        refine g_iconst X0 hx 37 (hb hby d4_36) (0 : Int32) (by decide) rfl ?_
        refine g_nret X0 hx (by simp) hret hlk (hb hby d4_37) (by decide) (by decide) ?_
        exact ⟨by simp [fCl, nar, c2, c7, c18], N0, e0⟩
    · refine g_icT X0 hx 36 (hb hby d4_7) (Jvm.Free.XT.ii_ge_t c7) (by decide) (by decide) ?_
      refine g_iconst X0 hx 37 (hb hby d4_36) (0 : Int32) (by decide) rfl ?_
      refine g_nret X0 hx (by simp) hret hlk (hb hby d4_37) (by decide) (by decide) ?_
      exact ⟨by simp [fCl, nar, c2, c7], N0, e0⟩
  · refine g_icT X0 hx 36 (hb hby d4_2) (Jvm.Free.XT.ii_ge_t c2) (by decide) (by decide) ?_
    refine g_iconst X0 hx 37 (hb hby d4_36) (0 : Int32) (by decide) rfl ?_
    refine g_nret X0 hx (by simp) hret hlk (hb hby d4_37) (by decide) (by decide) ?_
    exact ⟨by simp [fCl, nar, c2], N0, e0⟩
/-- a clash of two rows of literals -/
def Cl (n1 n2 : Nat) (u v : Nat → Int32) (i j : Nat) : Prop := i < n1 ∧ j < n2 ∧ (u i).toInt / 2 = (v j).toInt / 2 ∧ ¬ u i = v j
def Inv (n1 n2 : Nat) (u v : Nat → Int32) (i j : Nat) : Prop := ∀ a b, a < i ∨ b < j → ¬ Cl n1 n2 u v a b
def Row (n : Nat) (u : Nat → Int32) : Prop := (∀ i, i < n → 0 ≤ (u i).toInt) ∧ ∀ i k, i < k → k < n → (u i).toInt / 2 < (u k).toInt / 2
theorem own_inv0 {n1 n2 : Nat} {u v : Nat → Int32} : Inv n1 n2 u v 0 0 := fun a b h => by omega
theorem own_invi {n1 n2 : Nat} {u v : Nat → Int32} {i j : Nat} (I : Inv n1 n2 u v i j) (hv : Row n2 v) (h : (u i).toInt / 2 < (v j).toInt / 2) : Inv n1 n2 u v (i + 1) j := fun a b q c => by
  by_cases h1 : a < i ∨ b < j
  · exact I a b h1 c
  · have e : a = i := by omega
    subst e
    obtain ⟨c1, c2, c3, c4⟩ := c
    rcases Nat.lt_or_ge j b with g | g
    · have := hv.2 j b g c2; omega
    · have e : b = j := by omega
      subst e; omega
theorem own_invj {n1 n2 : Nat} {u v : Nat → Int32} {i j : Nat} (I : Inv n1 n2 u v i j) (hu : Row n1 u) (h : (v j).toInt / 2 < (u i).toInt / 2) : Inv n1 n2 u v i (j + 1) := fun a b q c => by
  by_cases h1 : a < i ∨ b < j
  · exact I a b h1 c
  · have e : b = j := by omega
    subst e
    obtain ⟨c1, c2, c3, c4⟩ := c
    rcases Nat.lt_or_ge i a with g | g
    · have := hu.2 i a g c1; omega
    · have e : a = i := by omega
      subst e; omega
theorem own_invb {n1 n2 : Nat} {u v : Nat → Int32} {i j : Nat} (I : Inv n1 n2 u v i j) (hu : Row n1 u) (hv : Row n2 v) (h : u i = v j) : Inv n1 n2 u v (i + 1) (j + 1) := fun a b q c => by
  by_cases h1 : a < i ∨ b < j
  · exact I a b h1 c
  · obtain ⟨c1, c2, c3, c4⟩ := c
    have hh := congrArg Int32.toInt h
    rcases Nat.lt_or_ge i a with g | g
    · have e : b = j := by omega
      subst e
      have := hu.2 i a g c1; omega
    · have e : a = i := by omega
      subst e
      rcases Nat.lt_or_ge j b with g' | g'
      · have := hv.2 j b g' c2; omega
      · have e : b = j := by omega
        subst e
        exact c4 h
theorem own_half {x y : Int32} (h : x / (2 : Int32) = y) (hx : 0 ≤ x.toInt) : y.toInt = x.toInt / 2 := by
  rw [← h]; exact (c_idiv x 2 2 (by decide) (by decide)).1 hx
theorem own_lt {i n : Int32} {a b : Nat} (hi : i.toInt = a) (hn : n.toInt = b) : i < n ↔ a < b := by rw [Int32.lt_iff_toInt_lt, hi, hn]; omega
theorem own_p1 {x : Int32} {j : Nat} (h : x.toInt = j) (hj : j < 99) : (x + (1 : Int32)).toInt = ((j + 1 : Nat) : Int) := by
  have q := c_iadd x 1
  have b := rng32 (x + 1)
  have z : (1 : Int32).toInt = 1 := by decide
  omega
def QK (n1 n2 : Nat) (u v : Nat → Int32) (h0 : Heap) (n0 : Nat) (r : Option Value) (h : Heap) (L : List Loc) : Prop := ∃ z : Int32, r = some (.int z) ∧ Fr n0 L ∧ h = h0 ∧ ((z = 1 ∧ ∃ i j, Cl n1 n2 u v i j) ∨ (z = 0 ∧ ∀ i j, ¬ Cl n1 n2 u v i j))
set_option maxRecDepth 65536 in
set_option maxHeartbeats 40000000 in
theorem rm5 (l : Launch) (Z : State) (a0 : Array Value) (hw : ∀ d ∈ tables_1, d.before a0 Z = true) (ws : List Jvm.Cond) (a b : Addr) (n1 n2 : Nat) (z1 z2 : Int32) (u v : Nat → Int32) (h0 : Heap) (n0 : Nat) (Z0 : n0 ≤ h0.size) (hn1 : z1.toInt = n1) (hn2 : z2.toInt = n2) (h13 : n1 ≤ 3) (h23 : n2 ≤ 3) (hu : Row n1 u) (hv : Row n2 v) (F_a : AV Z h0 a .int n1 (fun i => .int (u i))) (F_b : AV Z h0 b .int n2 (fun i => .int (v i))) :
    MetFree l (⟨"com/example/endless_words/endlesswords/automaton/DisjunctiveForm$Cube", "contradict", "([I[I)Z"⟩ : MethodName) (head1 (Jvm.Cond.code (⟨"com/example/endless_words/endlesswords/automaton/DisjunctiveForm$Cube", "contradict", "([I[I)Z"⟩ : MethodName) prog_25_method_8_code 6 (some .boolean) :: ws) ({ frames := 0, cells := 0, slots := 0, locals := 0 } : Room)) (fun av_ U_ => av_ = #[(.ref a), (.ref b)] ∧ Z.Warmed39 U_.vm ∧ U_.heap = h0) (fun _ _ _ _ _ => True) (fun _ U_ o_ W_ => ∃ v_ L_, o_ = .returned v_ ∧ QK n1 n2 u v h0 n0 v_ W_.heap L_ ∧ FrameEnd U_ o_ W_ L_ ({ frames := 0, cells := 0, slots := 0, locals := 0 } : Room).cells ({ frames := 0, cells := 0, slots := 0, locals := 0 } : Room).slots) := by
  refine own_start pn_4 ?_
  intro p e s m below meth c T0 X0 hx hby hml hown hnm hret hlk hZ e0
  have N0 := Fr.nil n0
  have M0 := Z0
  refine Go.cast (show entryFrame m #[(.ref a), (.ref b)] 6 = (mkF m 0 #[.val (.ref a), .val (.ref b), .unset, .unset, .unset, .unset] []) from (by first | (simp [entryFrame, mkF, argsToLocals, Value.category, maxLocals]; done) | rfl)) ?_
  refine g_iconst X0 hx 1 (hb hby d5_0) (0 : Int32) (by decide) rfl ?_
  refine g_istoreN X0 hx 2 (hb hby d5_1) #[.val (.ref a), .val (.ref b), .val (.int (0 : Int32)), .unset, .unset, .unset] rfl rfl ?_
  refine g_iconst X0 hx 3 (hb hby d5_2) (0 : Int32) (by decide) rfl ?_
  refine g_istoreN X0 hx 4 (hb hby d5_3) #[.val (.ref a), .val (.ref b), .val (.int (0 : Int32)), .val (.int (0 : Int32)), .unset, .unset] rfl rfl ?_
  have loop : ∀ (k i j : Nat) (i32 j32 : Int32) (s4 s5 : Slot), (n1 - i) + (n2 - j) < k → i ≤ n1 → j ≤ n2 → i32.toInt = i → j32.toInt = j → One s4 → One s5 → Inv n1 n2 u v i j → Go p e below (Qend s (QK n1 n2 u v h0 n0) ({ frames := 0, cells := 0, slots := 0, locals := 0 } : Room).cells ({ frames := 0, cells := 0, slots := 0, locals := 0 } : Room).slots) T0 (mkF m 4 #[.val (.ref a), .val (.ref b), .val (.int i32), .val (.int j32), s4, s5] []) := by
    intro k
    induction k with
    | zero => intro i j i32 j32 s4 s5 hk; omega
    | succ k ih =>
        intro i j i32 j32 s4 s5 hk hi1 hj1 hi hj o_s4 o_s5 hI
        refine g_iloadN X0 hx 5 (hb hby d5_4) rfl rfl ?_
        refine g_aloadN X0 hx 6 (hb hby d5_5) rfl rfl rfl ?_
        refine g_arrlen X0 hx hZ 7 e0 F_a z1 hn1 (hb hby d5_6) rfl ?_
        by_cases c7 : i32 < z1
        · refine g_icF X0 hx 10 (hb hby d5_7) (Jvm.Free.XT.ii_ge_f c7) rfl ?_
          have li : i < n1 := (own_lt hi hn1).mp c7
          refine g_iloadN X0 hx 11 (hb hby d5_10) rfl rfl ?_
          refine g_aloadN X0 hx 12 (hb hby d5_11) rfl rfl rfl ?_
          refine g_arrlen X0 hx hZ 13 e0 F_b z2 hn2 (hb hby d5_12) rfl ?_
          by_cases c13 : j32 < z2
          · refine g_icF X0 hx 16 (hb hby d5_13) (Jvm.Free.XT.ii_ge_f c13) rfl ?_
            have lj : j < n2 := (own_lt hj hn2).mp c13
            refine g_aloadN X0 hx 17 (hb hby d5_16) rfl rfl rfl ?_
            refine g_iloadN X0 hx 18 (hb hby d5_17) rfl rfl ?_
            refine g_iaload X0 hx hZ 19 e0 F_a (hb hby d5_18) (i) hi li (.int (u i)) rfl rfl ?_
            refine g_iconst X0 hx 20 (hb hby d5_19) (2 : Int32) (by decide) rfl ?_
            refine g_idiv X0 hx 21 (hb hby d5_20) (by decide) rfl ?_
            refine g_istore X0 hx 23 (hb hby d5_21) #[.val (.ref a), .val (.ref b), .val (.int i32), .val (.int j32), .val (.int ((u i) / (2 : Int32))), s5] (Jvm.Free.XS.store1 (o := s4) rfl o_s4 rfl) rfl ?_
            generalize h_pu : ((u i) / (2 : Int32)) = pu
            refine g_aloadN X0 hx 24 (hb hby d5_23) rfl rfl rfl ?_
            refine g_iloadN X0 hx 25 (hb hby d5_24) rfl rfl ?_
            refine g_iaload X0 hx hZ 26 e0 F_b (hb hby d5_25) (j) hj lj (.int (v j)) rfl rfl ?_
            refine g_iconst X0 hx 27 (hb hby d5_26) (2 : Int32) (by decide) rfl ?_
            refine g_idiv X0 hx 28 (hb hby d5_27) (by decide) rfl ?_
            refine g_istore X0 hx 30 (hb hby d5_28) #[.val (.ref a), .val (.ref b), .val (.int i32), .val (.int j32), .val (.int pu), .val (.int ((v j) / (2 : Int32)))] (Jvm.Free.XS.store1 (o := s5) rfl o_s5 rfl) rfl ?_
            generalize h_pv : ((v j) / (2 : Int32)) = pv
            have epu := own_half h_pu (hu.1 i li)
            have epv := own_half h_pv (hv.1 j lj)
            refine g_iload X0 hx 32 (hb hby d5_30) rfl rfl ?_
            refine g_iload X0 hx 34 (hb hby d5_32) rfl rfl ?_
            by_cases c34 : pu = pv
            · refine g_icF X0 hx 37 (hb hby d5_34) (Jvm.Free.XT.ii_ne_f c34) rfl ?_
              refine g_aloadN X0 hx 38 (hb hby d5_37) rfl rfl rfl ?_
              refine g_iloadN X0 hx 39 (hb hby d5_38) rfl rfl ?_
              refine g_iaload X0 hx hZ 40 e0 F_a (hb hby d5_39) (i) hi li (.int (u i)) rfl rfl ?_
              refine g_aloadN X0 hx 41 (hb hby d5_40) rfl rfl rfl ?_
              refine g_iloadN X0 hx 42 (hb hby d5_41) rfl rfl ?_
              refine g_iaload X0 hx hZ 43 e0 F_b (hb hby d5_42) (j) hj lj (.int (v j)) rfl rfl ?_
              by_cases c43 : (u i) = (v j)
              · refine g_icT X0 hx 48 (hb hby d5_43) (Jvm.Free.XT.ii_eq_t c43) (by decide) (by decide) ?_
                refine g_iload X0 hx 50 (hb hby d5_48) rfl rfl ?_
                refine g_iload X0 hx 52 (hb hby d5_50) rfl rfl ?_
                refine g_icF X0 hx 55 (hb hby d5_52) (Jvm.Free.XT.ii_gt_f (show ¬ (pv < pu) from (by rw [c34]; exact Int32.lt_irrefl))) rfl ?_
                refine g_iinc X0 hx 58 (hb hby d5_55) (1 : Int32) (by decide) rfl #[.val (.ref a), .val (.ref b), .val (.int (i32 + (1 : Int32))), .val (.int j32), .val (.int pu), .val (.int pv)] rfl rfl ?_
                refine g_iload X0 hx 60 (hb hby d5_58) rfl rfl ?_
                refine g_iload X0 hx 62 (hb hby d5_60) rfl rfl ?_
                refine g_icF X0 hx 65 (hb hby d5_62) (Jvm.Free.XT.ii_gt_f (show ¬ (pu < pv) from (by rw [c34]; exact Int32.lt_irrefl))) rfl ?_
                refine g_iinc X0 hx 68 (hb hby d5_65) (1 : Int32) (by decide) rfl #[.val (.ref a), .val (.ref b), .val (.int (i32 + (1 : Int32))), .val (.int (j32 + (1 : Int32))), .val (.int pu), .val (.int pv)] rfl rfl ?_
                refine g_goto X0 hx 4 (hb hby d5_68) (by decide) (by decide) ?_
                exact ih (i + 1) (j + 1) _ _ _ _ (by omega) (by omega) (by omega) (own_p1 hi (by omega)) (own_p1 hj (by omega)) (One.val rfl) (One.val rfl) (own_invb hI hu hv c43)
              · refine g_icF X0 hx 46 (hb hby d5_43) (Jvm.Free.XT.ii_eq_f c43) rfl ?_
                refine g_iconst X0 hx 47 (hb hby d5_46) (1 : Int32) (by decide) rfl ?_
                refine g_nret X0 hx (by simp) hret hlk (hb hby d5_47) (by decide) (by decide) ?_
                exact ⟨_, rfl, N0, e0, Or.inl ⟨rfl, i, j, li, lj, by rw [← epu, ← epv, c34], c43⟩⟩
            · refine g_icT X0 hx 48 (hb hby d5_34) (Jvm.Free.XT.ii_ne_t c34) (by decide) (by decide) ?_
              refine g_iload X0 hx 50 (hb hby d5_48) rfl rfl ?_
              refine g_iload X0 hx 52 (hb hby d5_50) rfl rfl ?_
              by_cases c52 : pv < pu
              · refine g_icT X0 hx 58 (hb hby d5_52) (Jvm.Free.XT.ii_gt_t c52) (by decide) (by decide) ?_
                have lt := c52
                refine g_iload X0 hx 60 (hb hby d5_58) rfl rfl ?_
                refine g_iload X0 hx 62 (hb hby d5_60) rfl rfl ?_
                refine g_icF X0 hx 65 (hb hby d5_62) (Jvm.Free.XT.ii_gt_f (show ¬ (pu < pv) from (fun q => by rw [Int32.lt_iff_toInt_lt] at q c52; omega))) rfl ?_
                refine g_iinc X0 hx 68 (hb hby d5_65) (1 : Int32) (by decide) rfl #[.val (.ref a), .val (.ref b), .val (.int i32), .val (.int (j32 + (1 : Int32))), .val (.int pu), .val (.int pv)] rfl rfl ?_
                refine g_goto X0 hx 4 (hb hby d5_68) (by decide) (by decide) ?_
                exact ih i (j + 1) _ _ _ _ (by omega) (by omega) (by omega) hi (own_p1 hj (by omega)) (One.val rfl) (One.val rfl) (own_invj hI hu (by rw [← epu, ← epv]; exact Int32.lt_iff_toInt_lt.mp lt))
              · refine g_icF X0 hx 55 (hb hby d5_52) (Jvm.Free.XT.ii_gt_f c52) rfl ?_
                have lt : pu < pv := by rw [Int32.lt_iff_toInt_lt] at c52 ⊢; rw [← Int32.toInt_inj] at c34; omega
                refine g_iinc X0 hx 58 (hb hby d5_55) (1 : Int32) (by decide) rfl #[.val (.ref a), .val (.ref b), .val (.int (i32 + (1 : Int32))), .val (.int j32), .val (.int pu), .val (.int pv)] rfl rfl ?_
                refine g_iload X0 hx 60 (hb hby d5_58) rfl rfl ?_
                refine g_iload X0 hx 62 (hb hby d5_60) rfl rfl ?_
                refine g_icT X0 hx 68 (hb hby d5_62) (Jvm.Free.XT.ii_gt_t (show pu < pv from lt)) (by decide) (by decide) ?_
                refine g_goto X0 hx 4 (hb hby d5_68) (by decide) (by decide) ?_
                exact ih (i + 1) j _ _ _ _ (by omega) (by omega) (by omega) (own_p1 hi (by omega)) hj (One.val rfl) (One.val rfl) (own_invi hI hv (by rw [← epu, ← epv]; exact Int32.lt_iff_toInt_lt.mp lt))
          · refine g_icT X0 hx 71 (hb hby d5_13) (Jvm.Free.XT.ii_ge_t c13) (by decide) (by decide) ?_
            refine g_iconst X0 hx 72 (hb hby d5_71) (0 : Int32) (by decide) rfl ?_
            refine g_nret X0 hx (by simp) hret hlk (hb hby d5_72) (by decide) (by decide) ?_
            exact ⟨_, rfl, N0, e0, Or.inr ⟨rfl, fun a b c => hI a b (by have := c.2.1; have q : ¬ j < n2 := fun q => c13 ((own_lt hj hn2).mpr q); omega) c⟩⟩
        · refine g_icT X0 hx 71 (hb hby d5_7) (Jvm.Free.XT.ii_ge_t c7) (by decide) (by decide) ?_
          refine g_iconst X0 hx 72 (hb hby d5_71) (0 : Int32) (by decide) rfl ?_
          refine g_nret X0 hx (by simp) hret hlk (hb hby d5_72) (by decide) (by decide) ?_
          exact ⟨_, rfl, N0, e0, Or.inr ⟨rfl, fun a b c => hI a b (by have := c.1; have q : ¬ i < n1 := fun q => c7 ((own_lt hi hn1).mpr q); omega) c⟩⟩
  exact loop _ 0 0 _ _ _ _ (Nat.lt_succ_self _) (by omega) (by omega) (by decide) (by decide) One.u One.u own_inv0
theorem own_row {base : Int32} {B : Int} (hB : base.toInt = 2 * B ∧ 0 ≤ B ∧ B ≤ 536870911) (x : Int32) {n : Nat} (hn : n ≤ 3) : Row n (lit base (pP x) (sP x)) := by
  refine ⟨fun i hi => ?_, fun i k h1 h2 => ?_⟩
  · have := own_lit hB x (i := i) (by omega); have := own_pb x (i := i) (by omega); have := own_s3 x i; omega
  · have := own_lit hB x (i := i) (by omega); have := own_lit hB x (i := k) (by omega); have := own_s3 x i; have := own_s3 x k; have := own_pm x h1 (by omega); omega
theorem own_cl {base : Int32} {B : Int} (hB : base.toInt = 2 * B ∧ 0 ≤ B ∧ B ≤ 536870911) (x y n m i j : Int32) {nN mN iN jN : Nat} (hn : n.toInt = nN) (hm : m.toInt = mN) (hi : i.toInt = iN) (hj : j.toInt = jN) (n3 : nN ≤ 3) (m3 : mN ≤ 3) (i3 : iN < 3) (j3 : jN < 3) :
    Cl nN mN (lit base (pP x) (sP x)) (lit base (pP y) (sP y)) iN jN ↔ ¬ fCl i j n m (pP x iN) (pP y jN) (sP x iN) (sP y jN) = 0 := by
  have e1 := own_lit hB x i3
  have e2 := own_lit hB y j3
  have s1 := own_s3 x iN
  have s2 := own_s3 y jN
  have l1 := own_lt hi hn
  have l2 := own_lt hj hm
  have eL : lit base (pP x) (sP x) iN = lit base (pP y) (sP y) jN ↔ 2 * (B + (pP x iN).toInt) + (sP x iN).toInt = 2 * (B + (pP y jN).toInt) + (sP y jN).toInt := by rw [← Int32.toInt_inj, e1, e2]
  have eP : pP x iN = pP y jN ↔ (pP x iN).toInt = (pP y jN).toInt := Int32.toInt_inj.symm
  have eS : sP x iN = sP y jN ↔ (sP x iN).toInt = (sP y jN).toInt := Int32.toInt_inj.symm
  unfold Cl fCl
  rw [e1, e2, eL]
  by_cases a1 : i < n
  · by_cases a2 : j < m
    · by_cases a3 : pP x iN = pP y jN
      · by_cases a4 : sP x iN = sP y jN
        · rw [if_pos a1, if_pos a2, if_pos a3, if_pos a4]
          have b3 := eP.mp a3
          have b4 := eS.mp a4
          exact ⟨fun c => by omega, fun c => absurd rfl c⟩
        · rw [if_pos a1, if_pos a2, if_pos a3, if_neg a4]
          have b3 := eP.mp a3
          have b4 : ¬ (sP x iN).toInt = (sP y jN).toInt := fun q => a4 (eS.mpr q)
          exact ⟨fun c => by decide, fun c => ⟨l1.mp a1, l2.mp a2, by omega, by omega⟩⟩
      · rw [if_pos a1, if_pos a2, if_neg a3]
        have b3 : ¬ (pP x iN).toInt = (pP y jN).toInt := fun q => a3 (eP.mpr q)
        exact ⟨fun c => by omega, fun c => absurd rfl c⟩
    · rw [if_pos a1, if_neg a2]
      exact ⟨fun c => absurd (l2.mpr c.2.1) a2, fun c => absurd rfl c⟩
  · rw [if_neg a1]
    exact ⟨fun c => absurd (l1.mpr c.1) a1, fun c => absurd rfl c⟩
def Q0 (n0 : Nat) (v : Option Value) (h : Heap) (L : List Loc) : Prop := v = some (.int 1) ∧ Fr n0 L
theorem own_none {n1 n2 : Nat} {u v : Nat → Int32} (h1 : n1 ≤ 3) (h2 : n2 ≤ 3) (c00 : ¬ Cl n1 n2 u v 0 0) (c01 : ¬ Cl n1 n2 u v 0 1) (c02 : ¬ Cl n1 n2 u v 0 2) (c10 : ¬ Cl n1 n2 u v 1 0) (c11 : ¬ Cl n1 n2 u v 1 1) (c12 : ¬ Cl n1 n2 u v 1 2) (c20 : ¬ Cl n1 n2 u v 2 0) (c21 : ¬ Cl n1 n2 u v 2 1) (c22 : ¬ Cl n1 n2 u v 2 2) : ∀ i j, ¬ Cl n1 n2 u v i j := fun i j c => by
  have a := c.1
  have b := c.2.1
  rcases (show i = 0 ∨ i = 1 ∨ i = 2 by omega) with rfl | rfl | rfl <;> rcases (show j = 0 ∨ j = 1 ∨ j = 2 by omega) with rfl | rfl | rfl <;> first | exact c00 c | exact c01 c | exact c02 c | exact c10 c | exact c11 c | exact c12 c | exact c20 c | exact c21 c | exact c22 c
set_option maxRecDepth 65536 in
set_option maxHeartbeats 40000000 in
theorem rm0 (l : Launch) (Z : State) (a0 : Array Value) (hw : ∀ d ∈ tables_1, d.before a0 Z = true) (ws : List Jvm.Cond) (x0 x1 x2 : Int32) (h0 : Heap) (n0 : Nat) (Z0 : n0 ≤ h0.size)  :
    MetFree l x (head1 (Jvm.Cond.code x code maxLocals ret :: ws) room_1) (fun av_ U_ => av_ = #[(.int x0), (.int x1), (.int x2)] ∧ Z.Warmed39 U_.vm ∧ U_.heap = h0) (fun _ _ _ _ _ => True) (fun _ U_ o_ W_ => ∃ v_ L_, o_ = .returned v_ ∧ Q0 n0 v_ W_.heap L_ ∧ FrameEnd U_ o_ W_ L_ room_1.cells room_1.slots) := by
  refine own_start pn_5 ?_
  intro p e s m below meth c T0 X0 hx hby hml hown hnm hret hlk hZ e0
  have N0 := Fr.nil n0
  have M0 := Z0
  refine Go.cast (show entryFrame m #[(.int x0), (.int x1), (.int x2)] maxLocals = (mkF m 0 #[.val (.int x0), .val (.int x1), .val (.int x2), .unset, .unset, .unset, .unset, .unset, .unset, .unset, .unset, .unset, .unset] []) from (by first | (simp [entryFrame, mkF, argsToLocals, Value.category, maxLocals]; done) | rfl)) ?_
  refine g_iloadN X0 hx 1 (hb hby at_0) rfl rfl ?_
  refine g_ldcI X0 hx hZ (1073741822 : Int32) hown (hw _ (List.mem_of_getElem? (i := 0) rfl)) 3 (hb hby at_1) rfl ?_
  refine g_iand X0 hx 4 (hb hby at_3) rfl ?_
  refine g_istoreN X0 hx 5 (hb hby at_4) #[.val (.int x0), .val (.int x1), .val (.int x2), .val (.int (x2 &&& (1073741822 : Int32))), .unset, .unset, .unset, .unset, .unset, .unset, .unset, .unset, .unset] rfl rfl ?_
  generalize h_base : (x2 &&& (1073741822 : Int32)) = base
  obtain ⟨B, hB⟩ := own_base x2
  rw [h_base] at hB
  refine g_iloadN X0 hx 6 (hb hby at_5) rfl rfl ?_
  refine g_iconst X0 hx 7 (hb hby at_6) (3 : Int32) (by decide) rfl ?_
  refine g_iand X0 hx 8 (hb hby at_7) rfl ?_
  refine g_istore X0 hx 10 (hb hby at_8) #[.val (.int x0), .val (.int x1), .val (.int x2), .val (.int base), .val (.int (x0 &&& (3 : Int32))), .unset, .unset, .unset, .unset, .unset, .unset, .unset, .unset] rfl rfl ?_
  generalize h_n : (x0 &&& (3 : Int32)) = n
  have rn := c_mask x0 3 2 (by decide) (by decide)
  rw [h_n] at rn
  obtain ⟨nN, hnN⟩ : ∃ o : Nat, n.toInt = o := ⟨n.toInt.toNat, by omega⟩
  have hn3 : nN ≤ 3 := by omega
  refine g_iloadN X0 hx 11 (hb hby at_10) rfl rfl ?_
  refine g_iconst X0 hx 12 (hb hby at_11) (3 : Int32) (by decide) rfl ?_
  refine g_iand X0 hx 13 (hb hby at_12) rfl ?_
  refine g_istore X0 hx 15 (hb hby at_13) #[.val (.int x0), .val (.int x1), .val (.int x2), .val (.int base), .val (.int n), .val (.int (x1 &&& (3 : Int32))), .unset, .unset, .unset, .unset, .unset, .unset, .unset] rfl rfl ?_
  generalize h_mm : (x1 &&& (3 : Int32)) = mm
  have rm := c_mask x1 3 2 (by decide) (by decide)
  rw [h_mm] at rm
  obtain ⟨mN, hmN⟩ : ∃ o : Nat, mm.toInt = o := ⟨mm.toInt.toNat, by omega⟩
  have hm3 : mN ≤ 3 := by omega
  refine g_iloadN X0 hx 16 (hb hby at_15) rfl rfl ?_
  refine g_callS X0 hx hZ 19 [(.int x0)] [] 0 hown (hw _ (List.mem_of_getElem? (i := 1) rfl)) (hw _ (List.mem_of_getElem? (i := 2) rfl)) (hw _ (List.mem_of_getElem? (i := 3) rfl)) (hw _ (List.mem_of_getElem? (i := 4) rfl)) (by decide) e0 (rm1 l Z a0 hw [] x0 h0 n0 M0) (by decide) (by decide) (by decide) (by decide) (by rw [hml]; rfl) rfl pd_0 rfl (Nat.le_of_eq rfl) (hb hby at_16) rfl ?_
  intro v1 T1 L1 X1 q1
  obtain ⟨p1, rfl, Nq1, Z_p1, G_p1, K1, F_p1⟩ := q1
  have N1 := Fr.app N0 Nq1
  have M1 : n0 ≤ T1.heap.size := Nat.le_trans M0 K1.1
  have e1 : T1.heap = T1.heap := rfl
  refine g_astore X1 hx 21 (hb hby at_19) rfl #[.val (.int x0), .val (.int x1), .val (.int x2), .val (.int base), .val (.int n), .val (.int mm), .val (.ref p1), .unset, .unset, .unset, .unset, .unset, .unset] rfl rfl ?_
  refine g_iloadN X1 hx 22 (hb hby at_21) rfl rfl ?_
  refine g_callS X1 hx hZ 25 [(.int x1)] [] 0 hown (hw _ (List.mem_of_getElem? (i := 1) rfl)) (hw _ (List.mem_of_getElem? (i := 2) rfl)) (hw _ (List.mem_of_getElem? (i := 3) rfl)) (hw _ (List.mem_of_getElem? (i := 4) rfl)) (by decide) e1 (rm1 l Z a0 hw [] x1 T1.heap n0 M1) (by decide) (by decide) (by decide) (by decide) (by rw [hml]; rfl) rfl pd_0 rfl (Nat.le_of_eq rfl) (hb hby at_22) rfl ?_
  intro v2 T2 L2 X2 q2
  obtain ⟨p2, rfl, Nq2, Z_p2, G_p2, K2, F_p2⟩ := q2
  have N2 := Fr.app N1 Nq2
  have M2 : n0 ≤ T2.heap.size := Nat.le_trans M1 K2.1
  have e2 : T2.heap = T2.heap := rfl
  have ne_p1_p2 : p1 ≠ p2 := Nat.ne_of_lt (Nat.lt_of_lt_of_le F_p1.lt G_p2)
  replace F_p1 := F_p1.keep K2 nin0
  refine g_astore X2 hx 27 (hb hby at_25) rfl #[.val (.int x0), .val (.int x1), .val (.int x2), .val (.int base), .val (.int n), .val (.int mm), .val (.ref p1), .val (.ref p2), .unset, .unset, .unset, .unset, .unset] rfl rfl ?_
  refine g_iloadN X2 hx 28 (hb hby at_27) rfl rfl ?_
  refine g_callS X2 hx hZ 31 [(.int x0)] [] 0 hown (hw _ (List.mem_of_getElem? (i := 6) rfl)) (hw _ (List.mem_of_getElem? (i := 7) rfl)) (hw _ (List.mem_of_getElem? (i := 3) rfl)) (hw _ (List.mem_of_getElem? (i := 8) rfl)) (by decide) e2 (rm2 l Z a0 hw [] x0 T2.heap n0 M2) (by decide) (by decide) (by decide) (by decide) (by rw [hml]; rfl) rfl pd_0 rfl (Nat.le_of_eq rfl) (hb hby at_28) rfl ?_
  intro v3 T3 L3 X3 q3
  obtain ⟨s1, rfl, Nq3, Z_s1, G_s1, K3, F_s1⟩ := q3
  have N3 := Fr.app N2 Nq3
  have M3 : n0 ≤ T3.heap.size := Nat.le_trans M2 K3.1
  have e3 : T3.heap = T3.heap := rfl
  have ne_p1_s1 : p1 ≠ s1 := Nat.ne_of_lt (Nat.lt_of_lt_of_le F_p1.lt G_s1)
  have ne_p2_s1 : p2 ≠ s1 := Nat.ne_of_lt (Nat.lt_of_lt_of_le F_p2.lt G_s1)
  replace F_p1 := F_p1.keep K3 nin0
  replace F_p2 := F_p2.keep K3 nin0
  refine g_astore X3 hx 33 (hb hby at_31) rfl #[.val (.int x0), .val (.int x1), .val (.int x2), .val (.int base), .val (.int n), .val (.int mm), .val (.ref p1), .val (.ref p2), .val (.ref s1), .unset, .unset, .unset, .unset] rfl rfl ?_
  refine g_iloadN X3 hx 34 (hb hby at_33) rfl rfl ?_
  refine g_callS X3 hx hZ 37 [(.int x1)] [] 0 hown (hw _ (List.mem_of_getElem? (i := 6) rfl)) (hw _ (List.mem_of_getElem? (i := 7) rfl)) (hw _ (List.mem_of_getElem? (i := 3) rfl)) (hw _ (List.mem_of_getElem? (i := 8) rfl)) (by decide) e3 (rm2 l Z a0 hw [] x1 T3.heap n0 M3) (by decide) (by decide) (by decide) (by decide) (by rw [hml]; rfl) rfl pd_0 rfl (Nat.le_of_eq rfl) (hb hby at_34) rfl ?_
  intro v4 T4 L4 X4 q4
  obtain ⟨s2, rfl, Nq4, Z_s2, G_s2, K4, F_s2⟩ := q4
  have N4 := Fr.app N3 Nq4
  have M4 : n0 ≤ T4.heap.size := Nat.le_trans M3 K4.1
  have e4 : T4.heap = T4.heap := rfl
  have ne_p1_s2 : p1 ≠ s2 := Nat.ne_of_lt (Nat.lt_of_lt_of_le F_p1.lt G_s2)
  have ne_p2_s2 : p2 ≠ s2 := Nat.ne_of_lt (Nat.lt_of_lt_of_le F_p2.lt G_s2)
  have ne_s1_s2 : s1 ≠ s2 := Nat.ne_of_lt (Nat.lt_of_lt_of_le F_s1.lt G_s2)
  replace F_p1 := F_p1.keep K4 nin0
  replace F_p2 := F_p2.keep K4 nin0
  replace F_s1 := F_s1.keep K4 nin0
  refine g_astore X4 hx 39 (hb hby at_37) rfl #[.val (.int x0), .val (.int x1), .val (.int x2), .val (.int base), .val (.int n), .val (.int mm), .val (.ref p1), .val (.ref p2), .val (.ref s1), .val (.ref s2), .unset, .unset, .unset] rfl rfl ?_
  refine g_iload X4 hx 41 (hb hby at_39) rfl rfl ?_
  refine g_aload X4 hx 43 (hb hby at_41) rfl rfl rfl ?_
  refine g_aload X4 hx 45 (hb hby at_43) rfl rfl rfl ?_
  refine g_iloadN X4 hx 46 (hb hby at_45) rfl rfl ?_
  refine g_callS X4 hx hZ 49 [(.int n), (.ref p1), (.ref s1), (.int base)] [] 0 hown (hw _ (List.mem_of_getElem? (i := 9) rfl)) (hw _ (List.mem_of_getElem? (i := 10) rfl)) (hw _ (List.mem_of_getElem? (i := 3) rfl)) (hw _ (List.mem_of_getElem? (i := 11) rfl)) (by decide) e4 (rm3 l Z a0 hw [] n p1 s1 base nN (pP x0) (sP x0) T4.heap n0 M4 (by omega) hnN F_p1 F_s1 ne_p1_s1) (by decide) (by decide) (by decide) (by decide) (by rw [hml]; rfl) rfl pd_1 rfl (Nat.le_of_eq rfl) (hb hby at_46) rfl ?_
  intro v5 T5 L5 X5 q5
  obtain ⟨la, rfl, Nq5, Z_la, G_la, K5, F_la⟩ := q5
  have N5 := Fr.app N4 Nq5
  have M5 : n0 ≤ T5.heap.size := Nat.le_trans M4 K5.1
  have e5 : T5.heap = T5.heap := rfl
  have ne_p1_la : p1 ≠ la := Nat.ne_of_lt (Nat.lt_of_lt_of_le F_p1.lt G_la)
  have ne_p2_la : p2 ≠ la := Nat.ne_of_lt (Nat.lt_of_lt_of_le F_p2.lt G_la)
  have ne_s1_la : s1 ≠ la := Nat.ne_of_lt (Nat.lt_of_lt_of_le F_s1.lt G_la)
  have ne_s2_la : s2 ≠ la := Nat.ne_of_lt (Nat.lt_of_lt_of_le F_s2.lt G_la)
  replace F_p1 := F_p1.keep K5 nin0
  replace F_p2 := F_p2.keep K5 nin0
  replace F_s1 := F_s1.keep K5 nin0
  replace F_s2 := F_s2.keep K5 nin0
  refine g_astore X5 hx 51 (hb hby at_49) rfl #[.val (.int x0), .val (.int x1), .val (.int x2), .val (.int base), .val (.int n), .val (.int mm), .val (.ref p1), .val (.ref p2), .val (.ref s1), .val (.ref s2), .val (.ref la), .unset, .unset] rfl rfl ?_
  refine g_iload X5 hx 53 (hb hby at_51) rfl rfl ?_
  refine g_aload X5 hx 55 (hb hby at_53) rfl rfl rfl ?_
  refine g_aload X5 hx 57 (hb hby at_55) rfl rfl rfl ?_
  refine g_iloadN X5 hx 58 (hb hby at_57) rfl rfl ?_
  refine g_callS X5 hx hZ 61 [(.int mm), (.ref p2), (.ref s2), (.int base)] [] 0 hown (hw _ (List.mem_of_getElem? (i := 9) rfl)) (hw _ (List.mem_of_getElem? (i := 10) rfl)) (hw _ (List.mem_of_getElem? (i := 3) rfl)) (hw _ (List.mem_of_getElem? (i := 11) rfl)) (by decide) e5 (rm3 l Z a0 hw [] mm p2 s2 base mN (pP x1) (sP x1) T5.heap n0 M5 (by omega) hmN F_p2 F_s2 ne_p2_s2) (by decide) (by decide) (by decide) (by decide) (by rw [hml]; rfl) rfl pd_1 rfl (Nat.le_of_eq rfl) (hb hby at_58) rfl ?_
  intro v6 T6 L6 X6 q6
  obtain ⟨lb, rfl, Nq6, Z_lb, G_lb, K6, F_lb⟩ := q6
  have N6 := Fr.app N5 Nq6
  have M6 : n0 ≤ T6.heap.size := Nat.le_trans M5 K6.1
  have e6 : T6.heap = T6.heap := rfl
  have ne_p1_lb : p1 ≠ lb := Nat.ne_of_lt (Nat.lt_of_lt_of_le F_p1.lt G_lb)
  have ne_p2_lb : p2 ≠ lb := Nat.ne_of_lt (Nat.lt_of_lt_of_le F_p2.lt G_lb)
  have ne_s1_lb : s1 ≠ lb := Nat.ne_of_lt (Nat.lt_of_lt_of_le F_s1.lt G_lb)
  have ne_s2_lb : s2 ≠ lb := Nat.ne_of_lt (Nat.lt_of_lt_of_le F_s2.lt G_lb)
  have ne_la_lb : la ≠ lb := Nat.ne_of_lt (Nat.lt_of_lt_of_le F_la.lt G_lb)
  replace F_p1 := F_p1.keep K6 nin0
  replace F_p2 := F_p2.keep K6 nin0
  replace F_s1 := F_s1.keep K6 nin0
  replace F_s2 := F_s2.keep K6 nin0
  replace F_la := F_la.keep K6 nin0
  refine g_astore X6 hx 63 (hb hby at_61) rfl #[.val (.int x0), .val (.int x1), .val (.int x2), .val (.int base), .val (.int n), .val (.int mm), .val (.ref p1), .val (.ref p2), .val (.ref s1), .val (.ref s2), .val (.ref la), .val (.ref lb), .unset] rfl rfl ?_
  have CC := fun (i j : Int32) (iN jN : Nat) (hi : i.toInt = iN) (hj : j.toInt = jN) (i3 : iN < 3) (j3 : jN < 3) => own_cl hB x0 x1 n mm i j hnN hmN hi hj hn3 hm3 i3 j3
  generalize hu_ : lit base (pP x0) (sP x0) = u at *
  generalize hv_ : lit base (pP x1) (sP x1) = v at *
  have J248 : ∀ (ex : Int32) (Tj248 : State) (Lj248 : List Loc), ((ex = 1 ∧ ∃ i j, Cl nN mN u v i j) ∨ (ex = 0 ∧ ∀ i j, ¬ Cl nN mN u v i j)) → Stand p l e room_1 s m #[(.int x0), (.int x1), (.int x2)] below meth c Tj248 Lj248 6 18 → Tj248.heap = T6.heap → Fr n0 Lj248 → Go p e below (Qend s (Q0 n0) room_1.cells room_1.slots) Tj248 (mkF m 248 #[.val (.int x0), .val (.int x1), .val (.int x2), .val (.int base), .val (.int n), .val (.int mm), .val (.ref p1), .val (.ref p2), .val (.ref s1), .val (.ref s2), .val (.ref la), .val (.ref lb), .unset] [(.int ex)]) := by
    intro ex Tj248 Lj248 hex Xj248 ej248 Nj248
    have Mj248 := M6
    refine g_istore Xj248 hx 250 (hb hby at_248) #[.val (.int x0), .val (.int x1), .val (.int x2), .val (.int base), .val (.int n), .val (.int mm), .val (.ref p1), .val (.ref p2), .val (.ref s1), .val (.ref s2), .val (.ref la), .val (.ref lb), .val (.int ex)] rfl rfl ?_
    refine g_aload Xj248 hx 252 (hb hby at_250) rfl rfl rfl ?_
    refine g_aload Xj248 hx 254 (hb hby at_252) rfl rfl rfl ?_
    refine g_callS Xj248 hx hZ 257 [(.ref la), (.ref lb)] [] 0 hown (hw _ (List.mem_of_getElem? (i := 15) rfl)) (hw _ (List.mem_of_getElem? (i := 16) rfl)) (hw _ (List.mem_of_getElem? (i := 17) rfl)) (hw _ (List.mem_of_getElem? (i := 18) rfl)) (by decide) ej248 (rm5 l Z a0 hw [] la lb nN mN n mm u v T6.heap n0 Mj248 hnN hmN hn3 hm3 (hu_ ▸ own_row hB x0 hn3) (hv_ ▸ own_row hB x1 hm3) F_la F_lb) (by decide) (by decide) (by decide) (by decide) (by rw [hml]; rfl) rfl pd_2 rfl (Nat.le_of_eq rfl) (hb hby at_254) rfl ?_
    intro v7 T7 L7 X7 q7
    obtain ⟨z, rfl, Nq7, e7, hz⟩ := q7
    have N7 := Fr.app Nj248 Nq7
    have M7 := Mj248
    have hzx : z = ex := by
      rcases hz with ⟨h1, h2⟩ | ⟨h1, h2⟩ <;> rcases hex with ⟨g1, g2⟩ | ⟨g1, g2⟩
      · rw [h1, g1]
      · obtain ⟨i, j, c⟩ := h2; exact absurd c (g2 i j)
      · obtain ⟨i, j, c⟩ := g2; exact absurd c (h2 i j)
      · rw [h1, g1]
    refine g_iload X7 hx 259 (hb hby at_257) rfl rfl ?_
    refine g_icF X7 hx 262 (hb hby at_259) (Jvm.Free.XT.ii_ne_f (show z = ex from hzx)) rfl ?_
    refine g_iconst X7 hx 263 (hb hby at_262) (1 : Int32) (by decide) rfl ?_
    refine g_goto X7 hx 267 (hb hby at_263) (by decide) (by decide) ?_
    refine g_nret X7 hx (by simp) hret hlk (hb hby at_267) (by decide) (by decide) ?_
    exact ⟨rfl, N7⟩
  refine g_iconst X6 hx 64 (hb hby at_63) (0 : Int32) (by decide) rfl ?_
  refine g_iconst X6 hx 65 (hb hby at_64) (0 : Int32) (by decide) rfl ?_
  refine g_iload X6 hx 67 (hb hby at_65) rfl rfl ?_
  refine g_iload X6 hx 69 (hb hby at_67) rfl rfl ?_
  refine g_aload X6 hx 71 (hb hby at_69) rfl rfl rfl ?_
  refine g_aload X6 hx 73 (hb hby at_71) rfl rfl rfl ?_
  refine g_aload X6 hx 75 (hb hby at_73) rfl rfl rfl ?_
  refine g_aload X6 hx 77 (hb hby at_75) rfl rfl rfl ?_
  refine g_callS X6 hx hZ 80 [(.int (0 : Int32)), (.int (0 : Int32)), (.int n), (.int mm), (.ref p1), (.ref p2), (.ref s1), (.ref s2)] [] 0 hown (hw _ (List.mem_of_getElem? (i := 12) rfl)) (hw _ (List.mem_of_getElem? (i := 13) rfl)) (hw _ (List.mem_of_getElem? (i := 3) rfl)) (hw _ (List.mem_of_getElem? (i := 14) rfl)) (by decide) e6 (rm4 l Z a0 hw [] (0 : Int32) (0 : Int32) n mm p1 p2 s1 s2 0 0 (pP x0) (pP x1) (sP x0) (sP x1) T6.heap n0 M6 (by decide) (by decide) (by decide) (by decide) F_p1 F_p2 F_s1 F_s2) (by decide) (by decide) (by decide) (by decide) (by rw [hml]; rfl) rfl pd_3 rfl (Nat.le_of_eq rfl) (hb hby at_77) rfl ?_
  intro v8 T8 L8 X8 q8
  obtain ⟨rfl, Nq8, e8⟩ := q8
  have N8 := Fr.app N6 Nq8
  have M8 := M6
  by_cases c80 : (fCl (0 : Int32) (0 : Int32) n mm (pP x0 0) (pP x1 0) (sP x0 0) (sP x1 0)) = (0 : Int32)
  · refine g_ifF X8 hx 83 (hb hby at_80) (Jvm.Free.XT.i0_ne_f c80) rfl ?_
    refine g_iconst X8 hx 84 (hb hby at_83) (0 : Int32) (by decide) rfl ?_
    refine g_iconst X8 hx 85 (hb hby at_84) (1 : Int32) (by decide) rfl ?_
    refine g_iload X8 hx 87 (hb hby at_85) rfl rfl ?_
    refine g_iload X8 hx 89 (hb hby at_87) rfl rfl ?_
    refine g_aload X8 hx 91 (hb hby at_89) rfl rfl rfl ?_
    refine g_aload X8 hx 93 (hb hby at_91) rfl rfl rfl ?_
    refine g_aload X8 hx 95 (hb hby at_93) rfl rfl rfl ?_
    refine g_aload X8 hx 97 (hb hby at_95) rfl rfl rfl ?_
    refine g_callS X8 hx hZ 100 [(.int (0 : Int32)), (.int (1 : Int32)), (.int n), (.int mm), (.ref p1), (.ref p2), (.ref s1), (.ref s2)] [] 0 hown (hw _ (List.mem_of_getElem? (i := 12) rfl)) (hw _ (List.mem_of_getElem? (i := 13) rfl)) (hw _ (List.mem_of_getElem? (i := 3) rfl)) (hw _ (List.mem_of_getElem? (i := 14) rfl)) (by decide) e8 (rm4 l Z a0 hw [] (0 : Int32) (1 : Int32) n mm p1 p2 s1 s2 0 1 (pP x0) (pP x1) (sP x0) (sP x1) T6.heap n0 M8 (by decide) (by decide) (by decide) (by decide) F_p1 F_p2 F_s1 F_s2) (by decide) (by decide) (by decide) (by decide) (by rw [hml]; rfl) rfl pd_3 rfl (Nat.le_of_eq rfl) (hb hby at_97) rfl ?_
    intro v9 T9 L9 X9 q9
    obtain ⟨rfl, Nq9, e9⟩ := q9
    have N9 := Fr.app N8 Nq9
    have M9 := M8
    by_cases c100 : (fCl (0 : Int32) (1 : Int32) n mm (pP x0 0) (pP x1 1) (sP x0 0) (sP x1 1)) = (0 : Int32)
    · refine g_ifF X9 hx 103 (hb hby at_100) (Jvm.Free.XT.i0_ne_f c100) rfl ?_
      refine g_iconst X9 hx 104 (hb hby at_103) (0 : Int32) (by decide) rfl ?_
      refine g_iconst X9 hx 105 (hb hby at_104) (2 : Int32) (by decide) rfl ?_
      refine g_iload X9 hx 107 (hb hby at_105) rfl rfl ?_
      refine g_iload X9 hx 109 (hb hby at_107) rfl rfl ?_
      refine g_aload X9 hx 111 (hb hby at_109) rfl rfl rfl ?_
      refine g_aload X9 hx 113 (hb hby at_111) rfl rfl rfl ?_
      refine g_aload X9 hx 115 (hb hby at_113) rfl rfl rfl ?_
      refine g_aload X9 hx 117 (hb hby at_115) rfl rfl rfl ?_
      refine g_callS X9 hx hZ 120 [(.int (0 : Int32)), (.int (2 : Int32)), (.int n), (.int mm), (.ref p1), (.ref p2), (.ref s1), (.ref s2)] [] 0 hown (hw _ (List.mem_of_getElem? (i := 12) rfl)) (hw _ (List.mem_of_getElem? (i := 13) rfl)) (hw _ (List.mem_of_getElem? (i := 3) rfl)) (hw _ (List.mem_of_getElem? (i := 14) rfl)) (by decide) e9 (rm4 l Z a0 hw [] (0 : Int32) (2 : Int32) n mm p1 p2 s1 s2 0 2 (pP x0) (pP x1) (sP x0) (sP x1) T6.heap n0 M9 (by decide) (by decide) (by decide) (by decide) F_p1 F_p2 F_s1 F_s2) (by decide) (by decide) (by decide) (by decide) (by rw [hml]; rfl) rfl pd_3 rfl (Nat.le_of_eq rfl) (hb hby at_117) rfl ?_
      intro v10 T10 L10 X10 q10
      obtain ⟨rfl, Nq10, e10⟩ := q10
      have N10 := Fr.app N9 Nq10
      have M10 := M9
      by_cases c120 : (fCl (0 : Int32) (2 : Int32) n mm (pP x0 0) (pP x1 2) (sP x0 0) (sP x1 2)) = (0 : Int32)
      · refine g_ifF X10 hx 123 (hb hby at_120) (Jvm.Free.XT.i0_ne_f c120) rfl ?_
        refine g_iconst X10 hx 124 (hb hby at_123) (1 : Int32) (by decide) rfl ?_
        refine g_iconst X10 hx 125 (hb hby at_124) (0 : Int32) (by decide) rfl ?_
        refine g_iload X10 hx 127 (hb hby at_125) rfl rfl ?_
        refine g_iload X10 hx 129 (hb hby at_127) rfl rfl ?_
        refine g_aload X10 hx 131 (hb hby at_129) rfl rfl rfl ?_
        refine g_aload X10 hx 133 (hb hby at_131) rfl rfl rfl ?_
        refine g_aload X10 hx 135 (hb hby at_133) rfl rfl rfl ?_
        refine g_aload X10 hx 137 (hb hby at_135) rfl rfl rfl ?_
        refine g_callS X10 hx hZ 140 [(.int (1 : Int32)), (.int (0 : Int32)), (.int n), (.int mm), (.ref p1), (.ref p2), (.ref s1), (.ref s2)] [] 0 hown (hw _ (List.mem_of_getElem? (i := 12) rfl)) (hw _ (List.mem_of_getElem? (i := 13) rfl)) (hw _ (List.mem_of_getElem? (i := 3) rfl)) (hw _ (List.mem_of_getElem? (i := 14) rfl)) (by decide) e10 (rm4 l Z a0 hw [] (1 : Int32) (0 : Int32) n mm p1 p2 s1 s2 1 0 (pP x0) (pP x1) (sP x0) (sP x1) T6.heap n0 M10 (by decide) (by decide) (by decide) (by decide) F_p1 F_p2 F_s1 F_s2) (by decide) (by decide) (by decide) (by decide) (by rw [hml]; rfl) rfl pd_3 rfl (Nat.le_of_eq rfl) (hb hby at_137) rfl ?_
        intro v11 T11 L11 X11 q11
        obtain ⟨rfl, Nq11, e11⟩ := q11
        have N11 := Fr.app N10 Nq11
        have M11 := M10
        by_cases c140 : (fCl (1 : Int32) (0 : Int32) n mm (pP x0 1) (pP x1 0) (sP x0 1) (sP x1 0)) = (0 : Int32)
        · refine g_ifF X11 hx 143 (hb hby at_140) (Jvm.Free.XT.i0_ne_f c140) rfl ?_
          refine g_iconst X11 hx 144 (hb hby at_143) (1 : Int32) (by decide) rfl ?_
          refine g_iconst X11 hx 145 (hb hby at_144) (1 : Int32) (by decide) rfl ?_
          refine g_iload X11 hx 147 (hb hby at_145) rfl rfl ?_
          refine g_iload X11 hx 149 (hb hby at_147) rfl rfl ?_
          refine g_aload X11 hx 151 (hb hby at_149) rfl rfl rfl ?_
          refine g_aload X11 hx 153 (hb hby at_151) rfl rfl rfl ?_
          refine g_aload X11 hx 155 (hb hby at_153) rfl rfl rfl ?_
          refine g_aload X11 hx 157 (hb hby at_155) rfl rfl rfl ?_
          refine g_callS X11 hx hZ 160 [(.int (1 : Int32)), (.int (1 : Int32)), (.int n), (.int mm), (.ref p1), (.ref p2), (.ref s1), (.ref s2)] [] 0 hown (hw _ (List.mem_of_getElem? (i := 12) rfl)) (hw _ (List.mem_of_getElem? (i := 13) rfl)) (hw _ (List.mem_of_getElem? (i := 3) rfl)) (hw _ (List.mem_of_getElem? (i := 14) rfl)) (by decide) e11 (rm4 l Z a0 hw [] (1 : Int32) (1 : Int32) n mm p1 p2 s1 s2 1 1 (pP x0) (pP x1) (sP x0) (sP x1) T6.heap n0 M11 (by decide) (by decide) (by decide) (by decide) F_p1 F_p2 F_s1 F_s2) (by decide) (by decide) (by decide) (by decide) (by rw [hml]; rfl) rfl pd_3 rfl (Nat.le_of_eq rfl) (hb hby at_157) rfl ?_
          intro v12 T12 L12 X12 q12
          obtain ⟨rfl, Nq12, e12⟩ := q12
          have N12 := Fr.app N11 Nq12
          have M12 := M11
          by_cases c160 : (fCl (1 : Int32) (1 : Int32) n mm (pP x0 1) (pP x1 1) (sP x0 1) (sP x1 1)) = (0 : Int32)
          · refine g_ifF X12 hx 163 (hb hby at_160) (Jvm.Free.XT.i0_ne_f c160) rfl ?_
            refine g_iconst X12 hx 164 (hb hby at_163) (1 : Int32) (by decide) rfl ?_
            refine g_iconst X12 hx 165 (hb hby at_164) (2 : Int32) (by decide) rfl ?_
            refine g_iload X12 hx 167 (hb hby at_165) rfl rfl ?_
            refine g_iload X12 hx 169 (hb hby at_167) rfl rfl ?_
            refine g_aload X12 hx 171 (hb hby at_169) rfl rfl rfl ?_
            refine g_aload X12 hx 173 (hb hby at_171) rfl rfl rfl ?_
            refine g_aload X12 hx 175 (hb hby at_173) rfl rfl rfl ?_
            refine g_aload X12 hx 177 (hb hby at_175) rfl rfl rfl ?_
            refine g_callS X12 hx hZ 180 [(.int (1 : Int32)), (.int (2 : Int32)), (.int n), (.int mm), (.ref p1), (.ref p2), (.ref s1), (.ref s2)] [] 0 hown (hw _ (List.mem_of_getElem? (i := 12) rfl)) (hw _ (List.mem_of_getElem? (i := 13) rfl)) (hw _ (List.mem_of_getElem? (i := 3) rfl)) (hw _ (List.mem_of_getElem? (i := 14) rfl)) (by decide) e12 (rm4 l Z a0 hw [] (1 : Int32) (2 : Int32) n mm p1 p2 s1 s2 1 2 (pP x0) (pP x1) (sP x0) (sP x1) T6.heap n0 M12 (by decide) (by decide) (by decide) (by decide) F_p1 F_p2 F_s1 F_s2) (by decide) (by decide) (by decide) (by decide) (by rw [hml]; rfl) rfl pd_3 rfl (Nat.le_of_eq rfl) (hb hby at_177) rfl ?_
            intro v13 T13 L13 X13 q13
            obtain ⟨rfl, Nq13, e13⟩ := q13
            have N13 := Fr.app N12 Nq13
            have M13 := M12
            by_cases c180 : (fCl (1 : Int32) (2 : Int32) n mm (pP x0 1) (pP x1 2) (sP x0 1) (sP x1 2)) = (0 : Int32)
            · refine g_ifF X13 hx 183 (hb hby at_180) (Jvm.Free.XT.i0_ne_f c180) rfl ?_
              refine g_iconst X13 hx 184 (hb hby at_183) (2 : Int32) (by decide) rfl ?_
              refine g_iconst X13 hx 185 (hb hby at_184) (0 : Int32) (by decide) rfl ?_
              refine g_iload X13 hx 187 (hb hby at_185) rfl rfl ?_
              refine g_iload X13 hx 189 (hb hby at_187) rfl rfl ?_
              refine g_aload X13 hx 191 (hb hby at_189) rfl rfl rfl ?_
              refine g_aload X13 hx 193 (hb hby at_191) rfl rfl rfl ?_
              refine g_aload X13 hx 195 (hb hby at_193) rfl rfl rfl ?_
              refine g_aload X13 hx 197 (hb hby at_195) rfl rfl rfl ?_
              refine g_callS X13 hx hZ 200 [(.int (2 : Int32)), (.int (0 : Int32)), (.int n), (.int mm), (.ref p1), (.ref p2), (.ref s1), (.ref s2)] [] 0 hown (hw _ (List.mem_of_getElem? (i := 12) rfl)) (hw _ (List.mem_of_getElem? (i := 13) rfl)) (hw _ (List.mem_of_getElem? (i := 3) rfl)) (hw _ (List.mem_of_getElem? (i := 14) rfl)) (by decide) e13 (rm4 l Z a0 hw [] (2 : Int32) (0 : Int32) n mm p1 p2 s1 s2 2 0 (pP x0) (pP x1) (sP x0) (sP x1) T6.heap n0 M13 (by decide) (by decide) (by decide) (by decide) F_p1 F_p2 F_s1 F_s2) (by decide) (by decide) (by decide) (by decide) (by rw [hml]; rfl) rfl pd_3 rfl (Nat.le_of_eq rfl) (hb hby at_197) rfl ?_
              intro v14 T14 L14 X14 q14
              obtain ⟨rfl, Nq14, e14⟩ := q14
              have N14 := Fr.app N13 Nq14
              have M14 := M13
              by_cases c200 : (fCl (2 : Int32) (0 : Int32) n mm (pP x0 2) (pP x1 0) (sP x0 2) (sP x1 0)) = (0 : Int32)
              · refine g_ifF X14 hx 203 (hb hby at_200) (Jvm.Free.XT.i0_ne_f c200) rfl ?_
                refine g_iconst X14 hx 204 (hb hby at_203) (2 : Int32) (by decide) rfl ?_
                refine g_iconst X14 hx 205 (hb hby at_204) (1 : Int32) (by decide) rfl ?_
                refine g_iload X14 hx 207 (hb hby at_205) rfl rfl ?_
                refine g_iload X14 hx 209 (hb hby at_207) rfl rfl ?_
                refine g_aload X14 hx 211 (hb hby at_209) rfl rfl rfl ?_
                refine g_aload X14 hx 213 (hb hby at_211) rfl rfl rfl ?_
                refine g_aload X14 hx 215 (hb hby at_213) rfl rfl rfl ?_
                refine g_aload X14 hx 217 (hb hby at_215) rfl rfl rfl ?_
                refine g_callS X14 hx hZ 220 [(.int (2 : Int32)), (.int (1 : Int32)), (.int n), (.int mm), (.ref p1), (.ref p2), (.ref s1), (.ref s2)] [] 0 hown (hw _ (List.mem_of_getElem? (i := 12) rfl)) (hw _ (List.mem_of_getElem? (i := 13) rfl)) (hw _ (List.mem_of_getElem? (i := 3) rfl)) (hw _ (List.mem_of_getElem? (i := 14) rfl)) (by decide) e14 (rm4 l Z a0 hw [] (2 : Int32) (1 : Int32) n mm p1 p2 s1 s2 2 1 (pP x0) (pP x1) (sP x0) (sP x1) T6.heap n0 M14 (by decide) (by decide) (by decide) (by decide) F_p1 F_p2 F_s1 F_s2) (by decide) (by decide) (by decide) (by decide) (by rw [hml]; rfl) rfl pd_3 rfl (Nat.le_of_eq rfl) (hb hby at_217) rfl ?_
                intro v15 T15 L15 X15 q15
                obtain ⟨rfl, Nq15, e15⟩ := q15
                have N15 := Fr.app N14 Nq15
                have M15 := M14
                by_cases c220 : (fCl (2 : Int32) (1 : Int32) n mm (pP x0 2) (pP x1 1) (sP x0 2) (sP x1 1)) = (0 : Int32)
                · refine g_ifF X15 hx 223 (hb hby at_220) (Jvm.Free.XT.i0_ne_f c220) rfl ?_
                  refine g_iconst X15 hx 224 (hb hby at_223) (2 : Int32) (by decide) rfl ?_
                  refine g_iconst X15 hx 225 (hb hby at_224) (2 : Int32) (by decide) rfl ?_
                  refine g_iload X15 hx 227 (hb hby at_225) rfl rfl ?_
                  refine g_iload X15 hx 229 (hb hby at_227) rfl rfl ?_
                  refine g_aload X15 hx 231 (hb hby at_229) rfl rfl rfl ?_
                  refine g_aload X15 hx 233 (hb hby at_231) rfl rfl rfl ?_
                  refine g_aload X15 hx 235 (hb hby at_233) rfl rfl rfl ?_
                  refine g_aload X15 hx 237 (hb hby at_235) rfl rfl rfl ?_
                  refine g_callS X15 hx hZ 240 [(.int (2 : Int32)), (.int (2 : Int32)), (.int n), (.int mm), (.ref p1), (.ref p2), (.ref s1), (.ref s2)] [] 0 hown (hw _ (List.mem_of_getElem? (i := 12) rfl)) (hw _ (List.mem_of_getElem? (i := 13) rfl)) (hw _ (List.mem_of_getElem? (i := 3) rfl)) (hw _ (List.mem_of_getElem? (i := 14) rfl)) (by decide) e15 (rm4 l Z a0 hw [] (2 : Int32) (2 : Int32) n mm p1 p2 s1 s2 2 2 (pP x0) (pP x1) (sP x0) (sP x1) T6.heap n0 M15 (by decide) (by decide) (by decide) (by decide) F_p1 F_p2 F_s1 F_s2) (by decide) (by decide) (by decide) (by decide) (by rw [hml]; rfl) rfl pd_3 rfl (Nat.le_of_eq rfl) (hb hby at_237) rfl ?_
                  intro v16 T16 L16 X16 q16
                  obtain ⟨rfl, Nq16, e16⟩ := q16
                  have N16 := Fr.app N15 Nq16
                  have M16 := M15
                  by_cases c240 : (fCl (2 : Int32) (2 : Int32) n mm (pP x0 2) (pP x1 2) (sP x0 2) (sP x1 2)) = (0 : Int32)
                  · refine g_ifT X16 hx 247 (hb hby at_240) (Jvm.Free.XT.i0_eq_t c240) (by decide) (by decide) ?_
                    refine g_iconst X16 hx 248 (hb hby at_247) (0 : Int32) (by decide) rfl ?_
                    exact J248 (0 : Int32) _ _ (Or.inr ⟨rfl, own_none hn3 hm3 (fun c => (CC 0 0 0 0 (by decide) (by decide) (by decide) (by decide)).mp c c80) (fun c => (CC 0 1 0 1 (by decide) (by decide) (by decide) (by decide)).mp c c100) (fun c => (CC 0 2 0 2 (by decide) (by decide) (by decide) (by decide)).mp c c120) (fun c => (CC 1 0 1 0 (by decide) (by decide) (by decide) (by decide)).mp c c140) (fun c => (CC 1 1 1 1 (by decide) (by decide) (by decide) (by decide)).mp c c160) (fun c => (CC 1 2 1 2 (by decide) (by decide) (by decide) (by decide)).mp c c180) (fun c => (CC 2 0 2 0 (by decide) (by decide) (by decide) (by decide)).mp c c200) (fun c => (CC 2 1 2 1 (by decide) (by decide) (by decide) (by decide)).mp c c220) (fun c => (CC 2 2 2 2 (by decide) (by decide) (by decide) (by decide)).mp c c240)⟩) X16 e16 N16
                  · refine g_ifF X16 hx 243 (hb hby at_240) (Jvm.Free.XT.i0_eq_f c240) rfl ?_
                    refine g_iconst X16 hx 244 (hb hby at_243) (1 : Int32) (by decide) rfl ?_
                    refine g_goto X16 hx 248 (hb hby at_244) (by decide) (by decide) ?_
                    exact J248 (1 : Int32) _ _ (Or.inl ⟨rfl, 2, 2, (CC 2 2 2 2 (by decide) (by decide) (by decide) (by decide)).mpr c240⟩) X16 e16 N16
                · refine g_ifT X15 hx 243 (hb hby at_220) (Jvm.Free.XT.i0_ne_t c220) (by decide) (by decide) ?_
                  refine g_iconst X15 hx 244 (hb hby at_243) (1 : Int32) (by decide) rfl ?_
                  refine g_goto X15 hx 248 (hb hby at_244) (by decide) (by decide) ?_
                  exact J248 (1 : Int32) _ _ (Or.inl ⟨rfl, 2, 1, (CC 2 1 2 1 (by decide) (by decide) (by decide) (by decide)).mpr c220⟩) X15 e15 N15
              · refine g_ifT X14 hx 243 (hb hby at_200) (Jvm.Free.XT.i0_ne_t c200) (by decide) (by decide) ?_
                refine g_iconst X14 hx 244 (hb hby at_243) (1 : Int32) (by decide) rfl ?_
                refine g_goto X14 hx 248 (hb hby at_244) (by decide) (by decide) ?_
                exact J248 (1 : Int32) _ _ (Or.inl ⟨rfl, 2, 0, (CC 2 0 2 0 (by decide) (by decide) (by decide) (by decide)).mpr c200⟩) X14 e14 N14
            · refine g_ifT X13 hx 243 (hb hby at_180) (Jvm.Free.XT.i0_ne_t c180) (by decide) (by decide) ?_
              refine g_iconst X13 hx 244 (hb hby at_243) (1 : Int32) (by decide) rfl ?_
              refine g_goto X13 hx 248 (hb hby at_244) (by decide) (by decide) ?_
              exact J248 (1 : Int32) _ _ (Or.inl ⟨rfl, 1, 2, (CC 1 2 1 2 (by decide) (by decide) (by decide) (by decide)).mpr c180⟩) X13 e13 N13
          · refine g_ifT X12 hx 243 (hb hby at_160) (Jvm.Free.XT.i0_ne_t c160) (by decide) (by decide) ?_
            refine g_iconst X12 hx 244 (hb hby at_243) (1 : Int32) (by decide) rfl ?_
            refine g_goto X12 hx 248 (hb hby at_244) (by decide) (by decide) ?_
            exact J248 (1 : Int32) _ _ (Or.inl ⟨rfl, 1, 1, (CC 1 1 1 1 (by decide) (by decide) (by decide) (by decide)).mpr c160⟩) X12 e12 N12
        · refine g_ifT X11 hx 243 (hb hby at_140) (Jvm.Free.XT.i0_ne_t c140) (by decide) (by decide) ?_
          refine g_iconst X11 hx 244 (hb hby at_243) (1 : Int32) (by decide) rfl ?_
          refine g_goto X11 hx 248 (hb hby at_244) (by decide) (by decide) ?_
          exact J248 (1 : Int32) _ _ (Or.inl ⟨rfl, 1, 0, (CC 1 0 1 0 (by decide) (by decide) (by decide) (by decide)).mpr c140⟩) X11 e11 N11
      · refine g_ifT X10 hx 243 (hb hby at_120) (Jvm.Free.XT.i0_ne_t c120) (by decide) (by decide) ?_
        refine g_iconst X10 hx 244 (hb hby at_243) (1 : Int32) (by decide) rfl ?_
        refine g_goto X10 hx 248 (hb hby at_244) (by decide) (by decide) ?_
        exact J248 (1 : Int32) _ _ (Or.inl ⟨rfl, 0, 2, (CC 0 2 0 2 (by decide) (by decide) (by decide) (by decide)).mpr c120⟩) X10 e10 N10
    · refine g_ifT X9 hx 243 (hb hby at_100) (Jvm.Free.XT.i0_ne_t c100) (by decide) (by decide) ?_
      refine g_iconst X9 hx 244 (hb hby at_243) (1 : Int32) (by decide) rfl ?_
      refine g_goto X9 hx 248 (hb hby at_244) (by decide) (by decide) ?_
      exact J248 (1 : Int32) _ _ (Or.inl ⟨rfl, 0, 1, (CC 0 1 0 1 (by decide) (by decide) (by decide) (by decide)).mpr c100⟩) X9 e9 N9
  · refine g_ifT X8 hx 243 (hb hby at_80) (Jvm.Free.XT.i0_ne_t c80) (by decide) (by decide) ?_
    refine g_iconst X8 hx 244 (hb hby at_243) (1 : Int32) (by decide) rfl ?_
    refine g_goto X8 hx 248 (hb hby at_244) (by decide) (by decide) ?_
    exact J248 (1 : Int32) _ _ (Or.inl ⟨rfl, 0, 0, (CC 0 0 0 0 (by decide) (by decide) (by decide) (by decide)).mpr c80⟩) X8 e8 N8
set_option maxRecDepth 65536 in
set_option maxHeartbeats 40000000 in
theorem comes_1 {Post : Tables → Env → Array Value → State → Outcome → State → Prop} (hpost : ∀ tb e args s v u, (limb_1_1.after args s (.returned v) u = true ∧ limb_1_2.after args s (.returned v) u = true ∧ True) → FrameEnd s (.returned v) u (Jvm.fieldLocs frame_1_writes args s ++ Jvm.arrayLocs frame_1_arrays args s ++ Jvm.staticLocs frame_1_statics s) 24 128 → Post tb e args s (.returned v) u) :
    ArmFor flags0 classFile x code maxLocals ret World_1 tables_1 room_1 Calls_1 rest_1 Pre_1 Post := by
  intro l hfl _ _ p e ha hc hk s m args below hf hA hF happ hP
  obtain ⟨hcalls, hrest, hpre⟩ := hP
  obtain ⟨-, -, -, hnamed, -, -, -, hat⟩ := (Spec.applies_iff hf).mp happ
  obtain ⟨hg, hn⟩ := and_e (Cond.before_iff.mp (show (Jvm.Cond.and given_1 narrow_1).before args s = true from hpre))
  obtain ⟨hcount, hg0⟩ := and_e hg
  obtain ⟨ha0, hg1⟩ := and_e hg0
  obtain ⟨ha1, hg2⟩ := and_e hg1
  obtain ⟨w0, w1, w2, rfl⟩ : ∃ w0 w1 w2 : Value, args = #[w0, w1, w2] := by
    have hs : args.size = 3 := by simpa [Cond.value, given_1] using hcount
    obtain ⟨L⟩ := args
    match L, hs with
    | [w0, w1, w2], _ => exact ⟨w0, w1, w2, rfl⟩
  have hw := fun d (hd : d ∈ tables_1) => atoms_spec (ws := Jvm.Cond.code x code maxLocals ret :: tables_1) hat d (List.mem_cons_of_mem _ hd)
  obtain ⟨i0, ei0⟩ := is_v ha0
  obtain rfl : w0 = (.int i0) := Option.some.inj ei0
  obtain ⟨i1, ei1⟩ := is_v ha1
  obtain rfl : w1 = (.int i1) := Option.some.inj ei1
  obtain ⟨i2, ei2⟩ := is_v hg2
  obtain rfl : w2 = (.int i2) := Option.some.inj ei2
  obtain ⟨n, o, h1, h2, h3, _, L, rfl, ⟨rfl, N⟩, hq⟩ := rm0 l s _ hw tables_1 i0 i1 i2 s.heap s.heap.size (Nat.le_refl _)  p e ha hc hk s m _ below hf ((Spec.applies_iff_loose hf).mp happ).1 ⟨rfl, State.Warmed39.refl s, rfl⟩ trivial
  refine ⟨n, _, h1, h2, h3, hpost _ _ _ _ _ _ ⟨Cond.after_iff.mpr rfl, Cond.after_iff.mpr (eq_i res_at (Term.int_eval (1)) rfl), trivial⟩ ⟨hq.1, hq.2.1, (hq.2.2.sift fun y hy => Or.inr (N y hy)).mono (by decide) (by decide)⟩⟩
theorem main_1_1 : Claimed_1_1 := comes_1 fun _ _ _ _ _ _ h hF => ⟨h.1, hF⟩
theorem main_1_2 : Claimed_1_2 := comes_1 fun _ _ _ _ _ _ h hF => ⟨h.2.1, hF⟩
end Jvm.Pilot.@@N@@
namespace Jvm.Pilot.@@N@@
open Jvm Jvm.ClassFile Sem Op Lib Jvm.Free Jvm.Stand Jvm.Pilot.@@N@@.Jvm.D
/-! MADE BY PROGRAM (witnessworld.py) out of the Statement's table words and the real class files: 9 classes; the members and pool entries that the words name. The judged class is class 1, her method 1. -/
namespace start1
open Jvm.ClassFile
def u (s : String) : CpInfo := .utf8 (stringToUtf16 s)
/-- a pool by its gaps: so many unusable entries, then the entry; so many at the end -/
def gap : Nat → List CpInfo → List CpInfo
  | 0, r => r
  | n + 1, r => .unusable :: gap n r
def poolList (es : List (Nat × CpInfo)) (last : Nat) : List CpInfo := es.foldr (fun e r => gap e.1 (e.2 :: r)) (gap last [])
def pool (es : List (Nat × CpInfo)) (last : Nat) : Array CpInfo := ⟨poolList es last⟩
def fileOf (pool : Array CpInfo) (this : Nat) (attrs : Array Attribute := #[]) (ms : Array MethodInfo := #[]) (fl : Nat := 33) (sup : Nat := 0) (ifs : Array Nat := #[]) (fds : Array FieldInfo := #[]) : ClassFile where
  minorVersion := 0
  majorVersion := 65
  constantPool := pool
  accessFlags := fl
  thisClass := this
  superClass := sup
  interfaces := ifs
  fields := fds
  methods := ms
  attributes := attrs
def plain (name : String) (sup : Option ClassId) : Class where
  name := name
  kind := .ordinary
  loader := none
  accessFlags := 33
  super := sup
  interfaces := #[]
  cf := none
  fields := #[]
  methods := #[]
  instanceTypes := #[]
  staticTypes := #[]
  resolved := #[]
  callSites := []
  init := .initialized
  statics := none
  mirror := none

def pool0 : Array CpInfo := pool [(5, u "<init>"), (0, u "()V"), (1, .class_ 10), (1, u "java/lang/Object")] 113

def k0m0 : Method := { name := "<init>", desc := "()V", sig := { parameters := [], returnType := none }, accessFlags := 1, code := none }
/-- java/lang/Object -/
def k0 : Class := { plain "java/lang/Object" none with
  accessFlags := 33
  interfaces := #[]
  cf := some (fileOf pool0 8 #[] #[{ accessFlags := 1, nameIndex := 5, descriptorIndex := 6, attributes := #[] }] 33 0 #[] #[])
  fields := #[]
  methods := #[k0m0]
  instanceTypes := #[]
  staticTypes := #[]
  resolved := Array.replicate 124 none
  statics := none }

def pool1 : Array CpInfo := pool [(2, .class_ 4), (1, u "java/lang/Object"), (0, u "<init>"), (0, u "()V"), (0, .integer 1073741822), (0, .methodref 9 10), (0, .class_ 11), (0, .nameAndType 12 13), (0, u "com/example/endless_words/endlesswords/automaton/CubeContradictPinLaw"), (0, u "props"), (0, u "(I)[I"), (0, .methodref 9 15), (0, .nameAndType 16 13), (0, u "signs"), (0, .methodref 9 18), (0, .nameAndType 19 20), (0, u "lits"), (0, u "(I[I[II)[I"), (0, .methodref 9 22), (0, .nameAndType 23 24), (0, u "clash"), (0, u "(IIII[I[I[I[I)Z"), (0, .methodref 26 27), (0, .class_ 28), (0, .nameAndType 29 30), (0, u "com/example/endless_words/endlesswords/automaton/DisjunctiveForm$Cube"), (0, u "contradict"), (0, u "([I[I)Z"), (2, u "law"), (0, u "(III)Z")] 9

def k1m0 : Method := { name := "<init>", desc := "()V", sig := { parameters := [], returnType := none }, accessFlags := 1, code := none }
def k1c1 : Code := { maxStack := 8, maxLocals := 13, code := code, exceptionTable := #[], attributes := #[] }
def k1m1 : Method := { name := "law", desc := "(III)Z", sig := { parameters := [.int, .int, .int], returnType := some .boolean }, accessFlags := 9, code := some k1c1 }
def k1c2 : Code := { maxStack := 3, maxLocals := 8, code := method_3_code, exceptionTable := #[], attributes := #[] }
def k1m2 : Method := { name := "clash", desc := "(IIII[I[I[I[I)Z", sig := { parameters := [.int, .int, .int, .int, (.array .int), (.array .int), (.array .int), (.array .int)], returnType := some .boolean }, accessFlags := 10, code := some k1c2 }
def k1c3 : Code := { maxStack := 4, maxLocals := 4, code := method_4_code, exceptionTable := #[], attributes := #[] }
def k1m3 : Method := { name := "props", desc := "(I)[I", sig := { parameters := [.int], returnType := some (.array .int) }, accessFlags := 10, code := some k1c3 }
def k1c4 : Code := { maxStack := 5, maxLocals := 1, code := method_5_code, exceptionTable := #[], attributes := #[] }
def k1m4 : Method := { name := "signs", desc := "(I)[I", sig := { parameters := [.int], returnType := some (.array .int) }, accessFlags := 10, code := some k1c4 }
def k1c5 : Code := { maxStack := 4, maxLocals := 7, code := method_6_code, exceptionTable := #[], attributes := #[] }
def k1m5 : Method := { name := "lits", desc := "(I[I[II)[I", sig := { parameters := [.int, (.array .int), (.array .int), .int], returnType := some (.array .int) }, accessFlags := 10, code := some k1c5 }
/-- com/example/endless_words/endlesswords/automaton/CubeContradictPinLaw -/
def k1 : Class := { plain "com/example/endless_words/endlesswords/automaton/CubeContradictPinLaw" (some 0) with
  accessFlags := 49
  interfaces := #[]
  cf := some (fileOf pool1 9 #[] #[{ accessFlags := 1, nameIndex := 5, descriptorIndex := 6, attributes := #[] }, { accessFlags := 9, nameIndex := 33, descriptorIndex := 34, attributes := #[] }, { accessFlags := 10, nameIndex := 23, descriptorIndex := 24, attributes := #[] }, { accessFlags := 10, nameIndex := 12, descriptorIndex := 13, attributes := #[] }, { accessFlags := 10, nameIndex := 16, descriptorIndex := 13, attributes := #[] }, { accessFlags := 10, nameIndex := 19, descriptorIndex := 20, attributes := #[] }] 49 2 #[] #[])
  fields := #[]
  methods := #[k1m0, k1m1, k1m2, k1m3, k1m4, k1m5]
  instanceTypes := #[]
  staticTypes := #[]
  resolved := Array.replicate 44 none
  statics := none }

def pool2 : Array CpInfo := pool [(2, .class_ 4), (1, u "java/lang/Object"), (3, .class_ 10), (1, u "com/example/endless_words/endlesswords/automaton/DisjunctiveForm$Cube"), (0, u "literals"), (0, u "[I"), (2, u "steps"), (3, u "([I[I)Z"), (12, u "contradict"), (2, u "NOTHING"), (0, u "Ljava/util/BitSet;"), (25, u "EMPTY"), (0, u "Lcom/example/endless_words/endlesswords/automaton/DisjunctiveForm$Cube;"), (17, .class_ 82), (0, u "com/example/endless_words/endlesswords/automaton/DisjunctiveForm")] 2

def k2c0 : Code := { maxStack := 3, maxLocals := 6, code := prog_25_method_8_code, exceptionTable := #[], attributes := #[] }
def k2m0 : Method := { name := "contradict", desc := "([I[I)Z", sig := { parameters := [(.array .int), (.array .int)], returnType := some .boolean }, accessFlags := 8, code := some k2c0 }
/-- com/example/endless_words/endlesswords/automaton/DisjunctiveForm$Cube -/
def k2 : Class := { plain "com/example/endless_words/endlesswords/automaton/DisjunctiveForm$Cube" (some 0) with
  accessFlags := 49
  interfaces := #[]
  cf := some (fileOf pool2 8 #[.nestHost 81] #[{ accessFlags := 8, nameIndex := 32, descriptorIndex := 19, attributes := #[] }] 49 2 #[] #[{ accessFlags := 24, nameIndex := 62, descriptorIndex := 63, attributes := #[] }, { accessFlags := 26, nameIndex := 35, descriptorIndex := 36, attributes := #[] }, { accessFlags := 18, nameIndex := 11, descriptorIndex := 12, attributes := #[] }, { accessFlags := 18, nameIndex := 15, descriptorIndex := 12, attributes := #[] }])
  fields := #[{ name := "EMPTY", type := (.object "com/example/endless_words/endlesswords/automaton/DisjunctiveForm$Cube"), accessFlags := 24, slot := 0, constantValue := 0 }, { name := "NOTHING", type := (.object "java/util/BitSet"), accessFlags := 26, slot := 1, constantValue := 0 }, { name := "literals", type := (.array .int), accessFlags := 18, slot := 0, constantValue := 0 }, { name := "steps", type := (.array .int), accessFlags := 18, slot := 1, constantValue := 0 }]
  methods := #[k2m0]
  instanceTypes := #[(.array .int), (.array .int)]
  staticTypes := #[(.object "com/example/endless_words/endlesswords/automaton/DisjunctiveForm$Cube"), (.object "java/util/BitSet")]
  resolved := Array.replicate 85 none
  statics := none }

def pool3 : Array CpInfo := pool [(1, u "java/lang/Cloneable"), (0, .class_ 1), (0, u "java/lang/Object"), (0, .class_ 3)] 3

/-- java/lang/Cloneable -/
def k3 : Class := { plain "java/lang/Cloneable" (some 0) with
  accessFlags := 1537
  interfaces := #[]
  cf := some (fileOf pool3 2 #[] #[] 1537 4 #[] #[])
  fields := #[]
  methods := #[]
  instanceTypes := #[]
  staticTypes := #[]
  resolved := Array.replicate 8 none
  statics := none }

def pool4 : Array CpInfo := pool [(1, u "java/io/Serializable"), (0, .class_ 1), (0, u "java/lang/Object"), (0, .class_ 3)] 3

/-- java/io/Serializable -/
def k4 : Class := { plain "java/io/Serializable" (some 0) with
  accessFlags := 1537
  interfaces := #[]
  cf := some (fileOf pool4 2 #[] #[] 1537 4 #[] #[])
  fields := #[]
  methods := #[]
  instanceTypes := #[]
  staticTypes := #[]
  resolved := Array.replicate 8 none
  statics := none }

/-- the primitive byte -/
def k5 : Class := { plain "byte" none with kind := .primitive 'B', accessFlags := 0x411 }
/-- [B -/
def k6 : Class := { plain "[B" (some 0) with kind := .array 5 .byte, interfaces := #[3, 4], accessFlags := 1041 }

/-- the primitive int -/
def k7 : Class := { plain "int" none with kind := .primitive 'I', accessFlags := 0x411 }
/-- [I -/
def k8 : Class := { plain "[I" (some 0) with kind := .array 7 .int, interfaces := #[3, 4], accessFlags := 1041 }

def heap : Heap := #[]
def classes : Array Class := #[k0, k1, k2, k3, k4, k5, k6, k7, k8]
def interned : List (Array UInt16 × Addr) := []
def slotsUsed : Nat := 0
def theMethod : MethodId := ⟨1, 1⟩
def args0 : Array Value := #[.int 5, .int 7, .int 3]
def aboutOver (below : List Frame) : State where
  vm := { classes := classes, interned := interned.toArray }
  heap := heap
  slotsUsed := slotsUsed
  threads := #[{ frames := .invoking theMethod args0 :: below }]
def below0 : List Frame := [.native { method := ⟨0, 0⟩, args := #[] }]
def about1 : State := aboutOver below0
def p0 : Program := .bare "" "" ""
def e0 : Env := launch0.env 0 0 0
theorem w_frames : about1.frames = Frame.invoking theMethod args0 :: below0 := rfl
set_option maxRecDepth 65536 in
theorem w_args : argsFit about1.vm theMethod args0 = true := by decide +kernel
set_option maxRecDepth 65536 in
theorem w_heap : heapFits about1 = true := by decide +kernel
set_option maxRecDepth 65536 in
theorem w_runnable : about1.curStatus? = some .runnable := by decide +kernel
set_option maxRecDepth 65536 in
theorem w_alone : about1.alone = true := by decide +kernel
set_option maxRecDepth 65536 in
theorem w_named : about1.methodNamed? x = some theMethod := by decide +kernel
set_option maxRecDepth 65536 in
theorem w_hears : about1.hears theMethod below0 = true := by decide +kernel
set_option maxRecDepth 65536 in
theorem w_ripe : about1.ripe theMethod args0 below0 = true := by decide +kernel
theorem w_running : about1.status = .running := rfl
set_option maxRecDepth 65536 in
theorem w_room : about1.hasRoom e0.platform room_1 = true :=
  launch0.hasRoom_least _ room_1 (by decide +kernel) (by decide +kernel) (by decide +kernel) (by decide +kernel) (by decide +kernel) (by decide +kernel)
theorem allAtoms_all (ts : List Jvm.Cond) (a : Array Jvm.Value) (st : Jvm.State) : (allAtoms ts).before a st = ts.all (fun c => c.before a st) := by
  induction ts with
  | nil => rfl
  | cons c t ih =>
    show (Jvm.Cond.and c (allAtoms t)).before a st = _
    rw [Jvm.Cond.before_and, ih, List.all_cons]
def words1 : List Jvm.Cond := Jvm.Cond.code x code maxLocals ret :: tables_1
/-- a 'code' word, met by the world's own term for the bytes: nothing is compared byte by byte -/
theorem code_word {y : MethodName} {bytes : ByteArray} {mx : Nat} {rt : Option FieldType} {a : Array Value} {s : State} {m : MethodId} {meth : Method} {c : Code} (h1 : s.methodNamed? y = some m) (h2 : s.vm.method? m = some meth) (h3 : meth.code = some c) (h4 : c.code = bytes)
    (h5 : (c.maxLocals == mx && c.exceptionTable.isEmpty && decide (c.maxStack ≤ mostOperands) && decide (meth.sig.returnType = rt) && !meth.locks && decide (parseMethodDescriptor y.desc = some meth.sig)) = true) : (Jvm.Cond.code y bytes mx rt).before a s = true := by
  simp only [Bool.and_eq_true, beq_iff_eq, Bool.not_eq_true', decide_eq_true_eq] at h5
  obtain ⟨⟨⟨⟨⟨g1, g2⟩, g3⟩, g4⟩, g5⟩, g6⟩ := h5
  simp [Cond.before, Cond.holds, Cond.value, h1, h2, h3, h4, g1, g2, g3, g4, g5, g6]
def isCode : Jvm.Cond → Bool
  | .code _ _ _ _ => true
  | _ => false
theorem all_split {L : List Jvm.Cond} {P : Jvm.Cond → Bool} (h1 : L.all (fun c => isCode c || P c) = true) (h2 : ∀ c ∈ L.filter isCode, P c = true) : L.all P = true := by
  refine List.all_eq_true.mpr fun c hc => ?_
  have h := List.all_eq_true.mp h1 c hc
  rcases Bool.eq_false_or_eq_true (isCode c) with hi | hi
  · exact h2 c (List.mem_filter.mpr ⟨hc, hi⟩)
  · simpa [hi] using h
set_option maxRecDepth 65536 in
theorem w_c0 : (Jvm.Cond.code x code maxLocals ret).before args0 about1 = true := code_word (m := ⟨1, 1⟩) (meth := k1m1) (c := k1c1) (by decide +kernel) rfl rfl rfl (by decide +kernel)
set_option maxRecDepth 65536 in
theorem w_c1 : (Jvm.Cond.code ({ cls := "com/example/endless_words/endlesswords/automaton/CubeContradictPinLaw", name := "props", desc := "(I)[I" } : Jvm.MethodName) method_4_code (4 : Nat) (Option.some (Jvm.ClassFile.FieldType.array Jvm.ClassFile.FieldType.int))).before args0 about1 = true := code_word (m := ⟨1, 3⟩) (meth := k1m3) (c := k1c3) (by decide +kernel) rfl rfl rfl (by decide +kernel)
set_option maxRecDepth 65536 in
theorem w_c2 : (Jvm.Cond.code ({ cls := "com/example/endless_words/endlesswords/automaton/CubeContradictPinLaw", name := "signs", desc := "(I)[I" } : Jvm.MethodName) method_5_code (1 : Nat) (Option.some (Jvm.ClassFile.FieldType.array Jvm.ClassFile.FieldType.int))).before args0 about1 = true := code_word (m := ⟨1, 4⟩) (meth := k1m4) (c := k1c4) (by decide +kernel) rfl rfl rfl (by decide +kernel)
set_option maxRecDepth 65536 in
theorem w_c3 : (Jvm.Cond.code ({ cls := "com/example/endless_words/endlesswords/automaton/CubeContradictPinLaw", name := "lits", desc := "(I[I[II)[I" } : Jvm.MethodName) method_6_code (7 : Nat) (Option.some (Jvm.ClassFile.FieldType.array Jvm.ClassFile.FieldType.int))).before args0 about1 = true := code_word (m := ⟨1, 5⟩) (meth := k1m5) (c := k1c5) (by decide +kernel) rfl rfl rfl (by decide +kernel)
set_option maxRecDepth 65536 in
theorem w_c4 : (Jvm.Cond.code ({ cls := "com/example/endless_words/endlesswords/automaton/CubeContradictPinLaw", name := "clash", desc := "(IIII[I[I[I[I)Z" } : Jvm.MethodName) method_3_code (8 : Nat) (Option.some Jvm.ClassFile.FieldType.boolean)).before args0 about1 = true := code_word (m := ⟨1, 2⟩) (meth := k1m2) (c := k1c2) (by decide +kernel) rfl rfl rfl (by decide +kernel)
set_option maxRecDepth 65536 in
theorem w_c5 : (Jvm.Cond.code ({ cls := "com/example/endless_words/endlesswords/automaton/DisjunctiveForm$Cube", name := "contradict", desc := "([I[I)Z" } : Jvm.MethodName) prog_25_method_8_code (6 : Nat) (Option.some Jvm.ClassFile.FieldType.boolean)).before args0 about1 = true := code_word (m := ⟨2, 0⟩) (meth := k2m0) (c := k2c0) (by decide +kernel) rfl rfl rfl (by decide +kernel)
def codes1 : List Jvm.Cond := [Jvm.Cond.code x code maxLocals ret, Jvm.Cond.code ({ cls := "com/example/endless_words/endlesswords/automaton/CubeContradictPinLaw", name := "props", desc := "(I)[I" } : Jvm.MethodName) method_4_code (4 : Nat) (Option.some (Jvm.ClassFile.FieldType.array Jvm.ClassFile.FieldType.int)), Jvm.Cond.code ({ cls := "com/example/endless_words/endlesswords/automaton/CubeContradictPinLaw", name := "signs", desc := "(I)[I" } : Jvm.MethodName) method_5_code (1 : Nat) (Option.some (Jvm.ClassFile.FieldType.array Jvm.ClassFile.FieldType.int)), Jvm.Cond.code ({ cls := "com/example/endless_words/endlesswords/automaton/CubeContradictPinLaw", name := "lits", desc := "(I[I[II)[I" } : Jvm.MethodName) method_6_code (7 : Nat) (Option.some (Jvm.ClassFile.FieldType.array Jvm.ClassFile.FieldType.int)), Jvm.Cond.code ({ cls := "com/example/endless_words/endlesswords/automaton/CubeContradictPinLaw", name := "clash", desc := "(IIII[I[I[I[I)Z" } : Jvm.MethodName) method_3_code (8 : Nat) (Option.some Jvm.ClassFile.FieldType.boolean), Jvm.Cond.code ({ cls := "com/example/endless_words/endlesswords/automaton/DisjunctiveForm$Cube", name := "contradict", desc := "([I[I)Z" } : Jvm.MethodName) prog_25_method_8_code (6 : Nat) (Option.some Jvm.ClassFile.FieldType.boolean)]
set_option maxRecDepth 65536 in
theorem codes_eq : words1.filter isCode = codes1 := rfl
theorem w_codes : ∀ c ∈ words1.filter isCode, c.before args0 about1 = true := by
  rw [codes_eq]
  intro c hc
  simp only [codes1, List.mem_cons, List.not_mem_nil, or_false] at hc
  rcases hc with rfl | rfl | rfl | rfl | rfl | rfl
  · exact w_c0
  · exact w_c1
  · exact w_c2
  · exact w_c3
  · exact w_c4
  · exact w_c5
set_option maxRecDepth 65536 in
theorem w_t1 : words1.all (fun c => isCode c || c.before args0 about1) = true := by decide +kernel
theorem w_tables : (allAtoms (Jvm.Cond.code x code maxLocals ret :: tables_1)).before args0 about1 = true := by
  rw [allAtoms_all]
  show words1.all (fun c => c.before args0 about1) = true
  refine all_split ?_ w_codes
  rw [w_t1]
set_option maxRecDepth 65536 in
theorem w_case : (Jvm.Cond.and given_1 narrow_1).before args0 about1 = true := by decide +kernel
theorem w_applies : (headSpec (Jvm.Cond.code x code maxLocals ret :: tables_1) room_1).applies x e0.platform about1 = true :=
  (Spec.applies_iff w_frames).mpr ⟨w_running, w_runnable, w_alone, w_named, w_hears, w_ripe, w_room, w_tables⟩
theorem atStart : AtStart classFile x code maxLocals ret World_1 tables_1 room_1 Calls_1 rest_1 Pre_1 launch0 p0 e0 about1 theMethod args0 below0 :=
  ⟨lists_1, trivial, launch0.admits_env _ _ _, launch0.least_env, fairChoices_fair.cas, fairChoices_fair.clock, w_frames, w_args, w_heap, w_applies, trivial, trivial, w_case⟩
end start1
theorem witness_1 : WitnessClaimed_1 := ⟨start1.p0, start1.e0, start1.about1, start1.theMethod, start1.args0, start1.below0, start1.atStart⟩
end Jvm.Pilot.@@N@@
